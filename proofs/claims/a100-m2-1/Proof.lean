import JvmDerived
import JvmDerived.Pilot.@@N@@Statement
import JvmDerived.Pilot.@@N@@Code
set_option linter.unusedVariables false
set_option linter.unusedSimpArgs false
namespace Jvm.RoadKit
open Sem ClassFile Op Lib Jvm.Stand Jvm.Free Jvm.LawKit
section New
variable {p : Program} {l : Launch} {e : Env} {R : Room} {s : State} {m : MethodId} {args : Array Value} {below : List Frame} {meth : Method} {c : Code} {T : State} {locs : List Loc} {cells slots : Nat}
theorem retI (X : Stand p l e R s m args below meth c T locs cells slots) (hx : p.tables.exec = Jvm.exec) {pc : Nat} {Ls : Array Slot} {z : Int32} {rest : List Value} (hret : meth.sig.returnType = some .int) (hd : decode c.code pc = .ok (.ireturn, 1)) {fs : List Frame}
    (hl : ∀ (f : JFrame) (acts : List Action), f.method = m → f.locked = none → f.entered = [] → (doReturn e (T.setTop f) acts (some (.int z))).1 = T.setFrames fs) : Steps p.tables e below (T.setTop (mkF m pc Ls (.int z :: rest))) (T.setFrames fs) :=
  retOut X hx hret rfl (Or.inl ⟨rfl, Or.inl rfl, z, rfl⟩) hd hl
theorem retJ (X : Stand p l e R s m args below meth c T locs cells slots) (hx : p.tables.exec = Jvm.exec) {pc : Nat} {Ls : Array Slot} {z : Int64} {rest : List Value} (hret : meth.sig.returnType = some .long) (hd : decode c.code pc = .ok (.lreturn, 1)) {fs : List Frame}
    (hl : ∀ (f : JFrame) (acts : List Action), f.method = m → f.locked = none → f.entered = [] → (doReturn e (T.setTop f) acts (some (.long z))).1 = T.setFrames fs) : Steps p.tables e below (T.setTop (mkF m pc Ls (.long z :: rest))) (T.setFrames fs) :=
  retOut X hx hret rfl (Or.inr (Or.inl ⟨rfl, rfl, z, rfl⟩)) hd hl
theorem narA {t : FieldType} {w : Value} (ht : t.isReference = true) (hw : w.isRef = true) : narrow t w = w := by
  rcases ref_cases hw with rfl | ⟨z, rfl⟩ <;> cases t <;> first | rfl | (simp [FieldType.isReference] at ht)
theorem retA (X : Stand p l e R s m args below meth c T locs cells slots) (hx : p.tables.exec = Jvm.exec) {pc : Nat} {Ls : Array Slot} {t : FieldType} {w : Value} {rest : List Value} (hret : meth.sig.returnType = some t) (ht : t.isReference = true) (hw : w.isRef = true) (hd : decode c.code pc = .ok (.areturn, 1)) {fs : List Frame}
    (hl : ∀ (f : JFrame) (acts : List Action), f.method = m → f.locked = none → f.entered = [] → (doReturn e (T.setTop f) acts (some w)).1 = T.setFrames fs) : Steps p.tables e below (T.setTop (mkF m pc Ls (w :: rest))) (T.setFrames fs) :=
  retOut X hx hret (narA ht hw) (Or.inr (Or.inr (Or.inr (Or.inr ⟨rfl, ht, hw⟩)))) hd hl
theorem own_pack {n0 : Nat} {L Lc : List Loc} {k n rc rs C S' : Nat} (X : Stand p l e R s m args below meth c T L k n) (hl : L = locs ++ Lc) (hk : k = cells + rc) (hn : n = slots + rs) (N : Fr n0 locs) (Nq : Fr n0 Lc) (hC : cells + rc = C) (hS : slots + rs = S') : ∃ lc, Stand p l e R s m args below meth c T lc C S' ∧ Fr n0 lc := by
  subst hl hk hn hC hS; exact ⟨_, X, N.app Nq⟩
theorem own_pack1 {n0 : Nat} {a : Addr} {sl : Nat} (X : Stand p l e R s m args below meth c T (locs ++ [⟨a, sl⟩]) cells slots) (N : Fr n0 locs) (q : n0 ≤ a) : ∃ lc, Stand p l e R s m args below meth c T lc cells slots ∧ Fr n0 lc := ⟨_, X, Fr.snoc X N q⟩
/-- the run from a comes to an end that Q allows -/
def own_G (tb : Tables) (e : Env) (below : List Frame) (s : State) (Q : Option Value → Heap → List Loc → Prop) (C S : Nat) (a : State) : Prop :=
  ∃ (t : State) (o : Outcome), Steps tb e below a t ∧ t.status = .running ∧ Ended t below o ∧ ∃ v L, o = .returned v ∧ Q v t.heap L ∧ FrameEnd s o t L C S
theorem own_thr {tb : Tables} {Q : Option Value → Heap → List Loc → Prop} {C S : Nat} {a b : State} (h : ∀ t, Steps tb e below a t → Steps tb e below b t) (g : own_G tb e below s Q C S a) : own_G tb e below s Q C S b := by
  obtain ⟨t, o, h1, h2⟩ := g; exact ⟨t, o, h t h1, h2⟩
theorem own_end (X : Stand p l e R s m args below meth c T locs cells slots) (hlk : meth.locks = false) {v : Option Value} (hv : meth.sig.returnType = none → v = none) {g : JFrame} {Q : Option Value → Heap → List Loc → Prop} {C S : Nat}
    (hr : ∀ fs, (∀ (f : JFrame) (acts : List Action), f.method = m → f.locked = none → f.entered = [] → (doReturn e (T.setTop f) acts v).1 = T.setFrames fs) → Steps p.tables e below (T.setTop g) (T.setFrames fs))
    (hQ : Q v T.heap locs) (hC : cells ≤ C) (hS : slots ≤ S) : own_G p.tables e below s Q C S (T.setTop g) := by
  obtain ⟨fs, hr', hrun, hended, hW, hsame⟩ := X.leave (v := v) hv hlk
  exact ⟨_, _, hr fs hr', hrun, hended, _, _, rfl, hQ, ⟨_, rfl⟩, hW, hsame.mono hC hS⟩
def own_GW (tb : Tables) (e : Env) (below : List Frame) (s : State) (Q : Option Value → Heap → List Loc → Prop) (C S : Nat) (a : State) : Prop :=
  ∃ (t : State) (o : Outcome), Steps tb e below a t ∧ t.status = .running ∧ Ended t below o ∧ ∃ v L, o = .returned v ∧ Q v t.heap L ∧ ReturnedEndW s o t L C S
theorem own_thrW {tb : Tables} {Q : Option Value → Heap → List Loc → Prop} {C S : Nat} {a b : State} (h : ∀ t, Steps tb e below a t → Steps tb e below b t) (g : own_GW tb e below s Q C S a) : own_GW tb e below s Q C S b := by
  obtain ⟨t, o, h1, h2⟩ := g; exact ⟨t, o, h t h1, h2⟩
theorem own_endW {vm₁ : Vm} {k : Nat} (X : Stand p l e R (s.setVm vm₁) m args below meth c T locs cells slots) (hS : s.Since vm₁ k) (hk : k ≤ T.heap.size) (hlk : meth.locks = false) {v : Option Value} (hv : meth.sig.returnType = none → v = none) {g : JFrame} {Q : Option Value → Heap → List Loc → Prop} {C S : Nat}
    (hr : ∀ fs, (∀ (f : JFrame) (acts : List Action), f.method = m → f.locked = none → f.entered = [] → (doReturn e (T.setTop f) acts v).1 = T.setFrames fs) → Steps p.tables e below (T.setTop g) (T.setFrames fs))
    (hQ : Q v T.heap locs) (hC : cells ≤ C) (hSl : slots ≤ S) : own_GW p.tables e below s Q C S (T.setTop g) := by
  obtain ⟨fs, hr', hrun, hended, hret, hW, hint, hsame⟩ := X.leaveW hS hk (v := v) hv hlk
  exact ⟨_, _, hr fs hr', hrun, hended, _, _, rfl, hQ, ⟨_, rfl⟩, hW, hint, hsame.mono hC hSl⟩
end New
end Jvm.RoadKit
@@BLOCK:LamKit.lean.txt@@
namespace Jvm.LamKit
open ClassFile Sem Op Lib Jvm.Stand Jvm.Free Jvm.LawKit Jvm.Lambda Jvm.RoadKit
theorem own_rec {vm vm' : Vm} (hA : vm.Alike vm') {d : ClassId} {k : Class} (h : vm.classes[d]? = some k) : ∃ r n x, vm'.classes[d]? = some { k with resolved := r, nestHost := n, nestHostError := x } := by
  obtain ⟨k', h1, h2⟩ := hA.2.2 d k h
  exact ⟨k'.resolved, k'.nestHost, k'.nestHostError, by rw [h1]; exact congrArg some h2⟩
/-- a made class stays made where strings may have been interned too -/
theorem own_isMade {Z : State} {vm' : Vm} (hW : Z.Warmed39 vm') {d c : ClassId} {σ : Lambda.Shape} (h : isMade { classPath := fun _ => none } Z.vm d σ c = true) : isMade { classPath := fun _ => none } vm' d σ c = true := by
  have hA := hW.alike
  obtain ⟨dk, k, ok, tk, file, cf, object, iface, t, lay, methods, target, found, hd, hk, hf, hs, ho, hi, hok, hl, hm, ht, htk, hg, hfo, -⟩ := isMade_spec h
  obtain ⟨r1, n1, x1, hd'⟩ := own_rec hA hd
  obtain ⟨r3, n3, x3, hok'⟩ := own_rec hA hok
  obtain ⟨r4, n4, x4, htk'⟩ := own_rec hA htk
  obtain ⟨k', hk', e2, -, hres, -⟩ := hW.2.2.2 _ _ hk
  obtain ⟨r2, n2, x2, rfl⟩ : ∃ r n x, k' = { k with resolved := r, nestHost := n, nestHostError := x } := ⟨_, _, _, e2⟩
  have ho' := (hA.findClass "java/lang/Object" none).trans ho
  have hi' := (hA.findClass σ.iface none).trans hi
  have ht' := (hA.findClass σ.implClass none).trans ht
  have hg' := (methodIn_ask_alike hA t σ.implName σ.implDesc.toString tk.isInterface).trans hg
  have hfo' := (methodIn_ask_alike hA iface σ.name σ.sam.toString true).trans hfo
  have hi4 : ({ tk with resolved := r4, nestHost := n4, nestHostError := x4 } : Class).isInterface = tk.isInterface := rfl
  have key : ∀ (vm : Vm) (r : Array (Option Resolved)) (D K O TK : Class), vm.classes[d]? = some D → vm.classes[c]? = some K → vm.classes[object]? = some O → vm.classes[t]? = some TK → vm.findClass "java/lang/Object" = some object → vm.findClass σ.iface = some iface → vm.findClass σ.implClass = some t →
      K.cf = some file → D.name = dk.name → O.instanceTypes = ok.instanceTypes → ((methodIn t σ.implName σ.implDesc.toString TK.isInterface none).ask { classPath := fun _ => none } vm).1 = .ok target → ((methodIn iface σ.name σ.sam.toString true none).ask { classPath := fun _ => none } vm).1 = .ok found →
      isMade { classPath := fun _ => none } vm d σ c = (decide (K.name = dk.name ++ "$$Lambda" ∧ K.kind = Kind.ordinary ∧ K.accessFlags = cf.accessFlags ∧ K.super = some object ∧ K.interfaces = #[iface] ∧ K.init = InitState.initialized) &&
        K.loader.isNone && K.hidden.isSome && K.linked && K.callSites.isEmpty && K.invokers.isEmpty && TK.isInterface == σ.implItf &&
        decide (file.majorVersion = cf.majorVersion ∧ file.constantPool = cf.constantPool ∧ file.thisClass = cf.thisClass) &&
        methods.size == K.methods.size && (methods.zip K.methods).all (fun p => sameMethod p.1 p.2) && lay.1.size == K.fields.size && (lay.1.zip K.fields).all (fun p => sameField p.1 p.2) &&
        decide (K.instanceTypes = ok.instanceTypes ++ lay.2.1 ∧ K.staticTypes = lay.2.2) &&
        (resolvedOf { classPath := fun _ => none } vm cf lay.1 c).toList.zipIdx.all (fun (x, i) => x.isNone || decide (K.resolved[i]? = some x)) &&
        (match selectMethod {} vm c found with | .method m => decide (m = (⟨c, 1⟩ : MethodId)) | _ => false)) := by
    intro vm r D K O TK a1 a2 a3 a4 a5 a6 a7 a8 a9 a10 a11 a12
    simp only [isMade, a1, a2, a3, a4, a5, a6, a7, a8, a9, a10, a11, a12, hs, hl, hm, Option.bind_eq_bind, Option.bind_some, Option.pure_def, Option.getD_some]
    rfl
  rw [key Z.vm k.resolved dk k ok tk hd hk hok htk ho hi ht hf rfl rfl hg hfo] at h
  rw [key vm' r2 _ _ _ _ hd' hk' hok' htk' ho' hi' ht' hf rfl rfl hg' hfo', resolvedOf_alike hA, hA.selectMethod]
  simp only [Bool.and_eq_true] at h ⊢
  refine ⟨⟨h.1.1, ?_⟩, h.2⟩
  have hz := h.1.2
  rw [List.all_eq_true] at hz ⊢
  intro y hy
  have q := hz y hy
  obtain ⟨x, i⟩ := y
  cases x with
  | none => rfl
  | some r =>
    simp only [Option.isNone_some, Bool.false_or, decide_eq_true_eq] at q ⊢
    rcases hres i with h1 | ⟨h1, -⟩
    · exact h1.trans q
    · rw [q] at h1; cases h1
theorem own_callable {Z s : State} (hA : Z.vm.Alike s.vm) {σ : Lambda.Shape} {c : ClassId} (h : Z.lambdaCallable σ c = true) : s.lambdaCallable σ c = true := by
  unfold State.lambdaCallable at h ⊢
  simp only [hA.findClass, hA.assignable, hA.superclasses, hA.declaredIn]
  exact h
theorem own_made {Z s : State} {host : String} {σ : Lambda.Shape} {cK : ClassId} (hZ : Z.Warmed39 s.vm) (h : Made Z host σ cK) : Made s host σ cK := by
  obtain ⟨d, dk, h1, h2, h3, h4⟩ := h
  obtain ⟨r, n, x, q⟩ := own_rec hZ.alike h1
  exact ⟨d, _, q, h2, own_isMade hZ h3, own_callable hZ.alike h4⟩
/-- the function object at a, made for σ in 'host': said of the start -/
def own_Fn (Z : State) (host : String) (σ : Lambda.Shape) (a : Addr) (cK : ClassId) : Prop := Made Z host σ cK ∧ FnAt Z.heap a cK
section Own
variable {p : Program} {l : Launch} {e : Env} {R : Room} {s Z : State} {m : MethodId} {args a0 : Array Value} {below : List Frame} {meth : Method} {c : Code} {T : State} {locs : List Loc} {cells slots : Nat}
theorem own_site (X : Stand p l e R s m args below meth c T locs cells slots) (hexec : p.tables.exec = Jvm.exec) (hZ : Z.Warmed39 s.vm) {x : MethodName} {pc index : Nat} {σ : Lambda.Shape} (hnamed : s.methodNamed? x = some m)
    (hsite : (Cond.lambdaSite x pc index σ).before a0 Z = true) (hcap : σ.captured = []) {g : JFrame} (hg : g.method = m) (hpc : g.pc = pc) (hsize : g.locals.size = c.maxLocals)
    (hdg : decode c.code g.pc = .ok (.invokedynamic index, 5)) (hwords : 2 * g.monitorRoom + (g.stack.map fun v => v.category).sum + 3072 ≤ R.locals) :
    ∃ (a : Addr) (cK : ClassId), own_Fn Z x.cls σ a cK ∧ ∀ target, Steps p.tables e below (T.setTop { g with pc := g.pc + 5, stack := .ref a :: g.stack }) target → Steps p.tables e below (T.setTop g) target := by
  obtain ⟨cK, one, hat⟩ := Cond.lambdaSite_spec hsite
  obtain ⟨mD, kD, cfD, i0, p0, lk, hmD, hkD, -, -, -, hfind, hmade, hcan, hl⟩ := State.lambdaAt?_spec hat
  have hm0 : (Z.setVm s.vm).methodNamed? x = some mD := by rw [State.methodNamed?_setVm hZ.alike]; exact hmD
  have hm1 : s.methodNamed? x = some mD := hm0
  cases hnamed.symm.trans hm1
  obtain ⟨kD', hkD', hnameD⟩ := className_of_methodNamed hmD
  cases hkD.symm.trans hkD'
  obtain ⟨r, n, z, hk1⟩ := own_rec hZ.alike hkD
  rcases hl with ⟨a, cell, rfl, -, -, hcell, hcls, hvm, -⟩ | ⟨-, -, hne⟩
  · have hw : e.platform.lambdaLinkWords = 3072 := by rw [X.admits.platform]
    refine ⟨a, cK, ⟨⟨_, kD, hkD, hnameD, hmade, hcan⟩, ⟨cell, hcell, hcls, hvm⟩⟩, fun target h => ?_⟩
    exact X.lambdaConstant hexec hg hsize hdg hk1 (by rw [hpc]; exact hfind) (by rw [hw]; exact hwords) h
  · exact absurd hcap hne
/-- one invokeinterface on the function object, whose static target has a theorem that keeps the heap -/
theorem own_lam (X : Stand p l e R s m args below meth c T locs cells slots) (hexec : p.tables.exec = Jvm.exec) (hZ : Z.Warmed39 s.vm) {own host : String} {index count : Nat} {xi y : MethodName} {σ : Lambda.Shape}
    {bytes : ByteArray} {maxL : Nat} {ret : Option FieldType} {rm : Room} {h : Heap} {n0 : Nat} {argsL argsT rest : List Value} {val : Value} {Q : Option Value → Heap → List Loc → Prop}
    (hM : MetFree l y (head1 [Cond.code y bytes maxL ret] rm) (fun a U => a = argsT.toArray ∧ Z.Warmed39 U.vm ∧ U.heap = h) (fun _ _ _ _ _ => True) (fun _ U o U' => ∃ v L, o = .returned v ∧ Q v U'.heap L ∧ FrameEnd U o U' L rm.cells rm.slots))
    (hQ : ∀ v h' L, Q v h' L → v = some val ∧ Fr n0 L ∧ h' = h)
    (hown : s.vm.findClass own = some m.cls) (hlink : (Cond.methodLink own index xi).before args s = true) (hdecl : (Cond.declares xi).before args s = true) (hface : (Cond.interfaceMethod xi.cls xi.cls xi.name xi.desc).before args s = true)
    (hcode : (Cond.code y bytes maxL ret).before args s = true) (hstat : (Cond.static y).before args s = true) (hini : (Cond.initialized y.cls).before args s = true)
    (hxi : xi.cls = σ.iface ∧ xi.name = σ.name ∧ xi.desc = σ.sam.toString) (hy : y.cls = σ.implClass ∧ y.name = σ.implName ∧ y.desc = σ.implDesc.toString)
    (hpoly : (xi.cls ≠ "java/lang/invoke/MethodHandle" ∧ xi.cls ≠ "java/lang/invoke/VarHandle") ∧ y.cls ≠ "java/lang/invoke/MethodHandle" ∧ y.cls ≠ "java/lang/invoke/VarHandle")
    {a : Addr} {cK : ClassId} (hFn : own_Fn Z host σ a cK) (O : Old Z n0 h) (eT : T.heap = h)
    {fcode : ByteArray} {fml idx ci pcI : Nat} {fret : Option FieldType} {op : Instr} (hok : fwdOK σ host fcode fml fret idx ci = true)
    (hdI : decode fcode pcI = .ok (.invokestatic idx, 3)) (hdR : decode fcode (pcI + 3) = .ok (op, 1))
    {g : JFrame} (hg : g.method = m) (hsize : g.locals.size = c.maxLocals) {L0 : Array Slot}
    (hlen : ∀ sig, parseMethodDescriptor xi.desc = some sig → argsL.length = sig.parameters.length) (hlenT : ∀ sig, parseMethodDescriptor y.desc = some sig → argsT.length = sig.parameters.length)
    (hstack : g.stack = argsL.reverse ++ .ref a :: rest) (hdg : decode c.code g.pc = .ok (.invokeinterface index count, 5))
    (hL0 : ∀ mk, entryFrame mk (Value.ref a :: argsL).toArray fml = { method := mk, pc := 0, locals := L0, stack := [], locked := none }) (hsz : L0.size = fml)
    (hload : ∀ (U : State) (ck : Code) (bl : List Frame) (target : State), At U ⟨cK, 1⟩ ck bl → ck.code = fcode → U.heap = T.heap → s.WarmedH U.vm →
      Steps p.tables e bl (U.setTop { method := ⟨cK, 1⟩, pc := pcI, locals := L0, stack := argsT.reverse, locked := none }) target → Steps p.tables e bl (U.setTop { method := ⟨cK, 1⟩, pc := 0, locals := L0, stack := [], locked := none }) target)
    (hret : RetOK fret op (some val))
    (hfr : rm.frames + 2 ≤ R.frames) (hlo : 2 * g.monitorRoom + (rest.map fun v => v.category).sum + (fml + 11) + ((maxL + 11) + rm.locals) ≤ R.locals)
    (hcells : cells + rm.cells ≤ R.cells) (hslots : slots + rm.slots ≤ R.slots) :
    ∃ (T' : State) (L : List Loc), Stand p l e R s m args below meth c T' (locs ++ L) (cells + rm.cells) (slots + rm.slots) ∧ Fr n0 L ∧ T'.heap = h ∧
      ∀ target, Steps p.tables e below (T'.setTop { g with pc := g.pc + 5, stack := val :: rest }) target → Steps p.tables e below (T.setTop g) target := by
  have hMet : Met l y [Cond.code y bytes maxL ret] rm (fun a U => a = argsT.toArray ∧ Z.Warmed39 U.vm ∧ U.heap = h) (fun _ _ o t => o = .returned (some val) ∧ t.heap = h) rm.cells rm.slots (fun a => n0 ≤ a) := by
    intro p e h1 h2 h3 s m args below hf ha hP hK
    obtain ⟨n, o, q1, q2, q3, v, L, rfl, hq, hF⟩ := hM p e h1 h2 h3 s m args below hf ha hP hK
    obtain ⟨rfl, N, e1⟩ := hQ _ _ _ hq
    exact ⟨n, _, q1, q2, q3, ⟨rfl, e1⟩, L, hF, N⟩
  have hfn : FnAt T.heap a cK := by
    obtain ⟨cell, h1, h2, h3⟩ := hFn.2
    exact ⟨cell, by rw [eT]; exact O.2.2 _ _ h1, h2, h3⟩
  obtain ⟨v, st, t, T', L, X', hL, e1, -, ⟨hv, ht⟩, hst⟩ := callLamS X hexec hMet (fun _ _ _ _ q => q) rfl rfl
    (fun w hw' a' U hU => by rw [List.mem_singleton.mp hw']; exact word_at hU (Or.inl (by first | rfl | simp [Cond.onTables, Cond.keeps, Cond.steady])) hcode) (List.mem_singleton.mpr rfl)
    hown hlink hdecl hface hcode hstat hini hxi hy hpoly (own_made hZ hFn.1) hfn hok hdI hdR hg hsize hlen hlenT hstack hdg hL0 hsz hload
    (fun st v t q => by cases q.1; exact hret) hfr hlo hcells hslots (fun U hU hh => ⟨rfl, wtrans hZ hU, hh.trans eT⟩)
  cases hv
  exact ⟨T', L, X', hL, e1.trans ht, hst⟩
end Own
end Jvm.LamKit
namespace Jvm.Pilot.@@N@@
open Jvm Jvm.ClassFile Sem Op Lib Jvm.Free Jvm.Stand Jvm.LawKit Jvm.RoadKit Bundle Jvm.Pilot.@@N@@.Jvm.D
def own_upL (x : Int32 → Int64) (i : Int32) (v : Int64) : Int32 → Int64 := fun j => if j = i then v else x j
def own_idL : Int32 → Int64 := fun j => j.toInt64
def own_AL (Z : State) (h : Heap) (a : Addr) (n : Int32) (x : Int32 → Int64) : Prop := ∃ c : Cell, Arr Z h a c .long ∧ c.slots.size = n.toNatClampNeg ∧ ¬ n < 0 ∧ ∀ j : Int32, ¬ j < 0 → j < n → c.slots[j.toNatClampNeg]? = some (.long (x j))
section AL
variable {Z : State} {h h' : Heap} {a b : Addr} {n : Int32} {x y : Int32 → Int64}
theorem own_AL.lt (F : own_AL Z h a n x) : a < h.size := by obtain ⟨c, A, -⟩ := F; exact A.lt
theorem own_AL.ext (F : own_AL Z h a n x) (E : Ext h h') : own_AL Z h' a n x := by obtain ⟨c, A, r⟩ := F; exact ⟨c, A.ext E, r⟩
theorem own_AL.other {sl : Nat} {v : Value} (F : own_AL Z h a n x) (W : Wr h h' b sl v) (q : a ≠ b) : own_AL Z h' a n x := by obtain ⟨c, A, r⟩ := F; exact ⟨c, A.other W q, r⟩
theorem own_AL.keep {ws : List Addr} (F : own_AL Z h a n x) (K : Keep h h' ws) (q : a ∉ ws) : own_AL Z h' a n x := by obtain ⟨c, A, r⟩ := F; exact ⟨c, ⟨K.2.1 a c A.1 q, A.2⟩, r⟩
theorem own_AL.congr (F : own_AL Z h a n x) (q : ∀ j : Int32, ¬ j < 0 → j < n → x j = y j) : own_AL Z h a n y := by obtain ⟨c, A, S, M, H⟩ := F; exact ⟨c, A, S, M, fun j h1 h2 => by rw [← q j h1 h2]; exact H j h1 h2⟩
theorem own_AL.set {c : Cell} {i : Int32} {v : Int64} (A : Arr Z h a c .long) (S : c.slots.size = n.toNatClampNeg) (M : ¬ n < 0) (H : ∀ j : Int32, ¬ j < 0 → j < n → c.slots[j.toNatClampNeg]? = some (.long (x j))) (hin : ¬ (i < 0 ∨ c.slots.size ≤ i.toNatClampNeg)) (W : Wr h h' a i.toNatClampNeg (.long v)) : own_AL Z h' a n (own_upL x i v) := by
  refine ⟨_, A.same W, by rw [sz_set]; exact S, M, fun j h1 h2 => ?_⟩
  unfold own_upL
  by_cases e : j = i
  · rw [if_pos e]; exact get_hit hin e
  · rw [if_neg e, get_miss (fun q => hin (Or.inl q)) h1 e]; exact H j h1 h2
theorem own_AL.new {k : ClassId} (A : Arr Z h a (newA k .long n) .long) (M : ¬ n < 0) : own_AL Z h a n (fun _ => 0) :=
  ⟨_, A, sz_new _ _ _, M, fun j h1 h2 => get_new (cA := k) (ty := .long) (n := n) (k := j) (by
    have q := inb_of (c := newA k .long n) (sz_new _ _ _) ⟨h1, h2⟩
    rwa [sz_new] at q)⟩
end AL
def own_o (x : Int32 → Int64) (r : Int32) : Int64 := if r = 0 then 0 else x (r - 1)
theorem own_o0 {x : Int32 → Int64} {r : Int32} (h : r = 0) : own_o x r = 0 := if_pos h
theorem own_o1 {x : Int32 → Int64} {r : Int32} (h : ¬ r = 0) : own_o x r = x (r - 1) := if_neg h
abbrev own_sig : Lambda.Shape := Jvm.Lambda.Shape.mk "java/util/function/IntToLongFunction" "applyAsLong" ⟨[.int], some .long⟩ [] 6 "dev/chainlatch/bucket/Serials" "lambda$writeOut$0" ⟨[.int], some .long⟩ false ⟨[.int], some .long⟩
def own_fc : ByteArray := ⟨#[0x1b, 0xb8, 0x00, 0x11, 0xad]⟩
theorem own_fwd : Jvm.LamKit.fwdOK own_sig "dev/chainlatch/bucket/Serials" own_fc 2 (some .long) 17 14 = true := by decide +kernel
theorem own_f0 : decode own_fc 0 = .ok (.iload_n 1, 1) := by decide +kernel
theorem own_f1 : decode own_fc 1 = .ok (.invokestatic 17, 3) := by decide +kernel
theorem own_f4 : decode own_fc 4 = .ok (.lreturn, 1) := by decide +kernel
theorem d1_0 : decode prog_12_method_1_code 0 = .ok (.aload_n 0, 1) := by decide +kernel
theorem d1_1 : decode prog_12_method_1_code 1 = .ok (.invokespecial 1, 3) := by decide +kernel
theorem d1_4 : decode prog_12_method_1_code 4 = .ok (.aload_n 0, 1) := by decide +kernel
theorem d1_5 : decode prog_12_method_1_code 5 = .ok (.aload_n 1, 1) := by decide +kernel
theorem d1_6 : decode prog_12_method_1_code 6 = .ok (.putfield 7, 3) := by decide +kernel
theorem d1_9 : decode prog_12_method_1_code 9 = .ok (.return_, 1) := by decide +kernel
theorem pn_dev_chainlatch_bucket_Serials : plainName "dev/chainlatch/bucket/Serials" = true := by first | (simp [plainName, overriddenIn]; done) | decide +kernel
theorem ef_rmI (m : MethodId) (o0 : Addr)  : entryFrame m #[(.ref o0), .null] 2 = mkF m 0 #[.val (.ref o0), .val .null] [] := by first |  (simp [entryFrame, mkF, argsToLocals, Value.category]; done) | rfl
def Q_rmI (Z : State) (o0 : Addr) (h0 : Heap) (n0 : Nat) (v : Option Value) (h : Heap) (L : List Loc) : Prop := v = none ∧ Fr n0 L ∧ Keep h0 h [o0] ∧ Exa Z h o0 "dev/chainlatch/bucket/Serials" ∧ Fld Z h o0 "dev/chainlatch/bucket/Serials" "table" "Ldev/chainlatch/bucket/ChainTable;" .null ∧ Fld Z h o0 "dev/chainlatch/bucket/Serials" "bySlot" "[J" .null ∧ Fld Z h o0 "dev/chainlatch/bucket/Serials" "next" "J" (.long (0 : Int64))
set_option maxRecDepth 65536 in
set_option maxHeartbeats 40000000 in
theorem rmI (l : Launch) (Z : State) (a0 : Array Value) (hw : ∀ d ∈ tables_1, d.before a0 Z = true) (ws : List Jvm.Cond) (o0 : Addr) (h0 : Heap) (n0 : Nat) (Z0 : n0 ≤ h0.size) (E_o0 : Exa Z h0 o0 "dev/chainlatch/bucket/Serials") (F_table_o0 : Fld Z h0 o0 "dev/chainlatch/bucket/Serials" "table" "Ldev/chainlatch/bucket/ChainTable;" .null) (F_bySlot_o0 : Fld Z h0 o0 "dev/chainlatch/bucket/Serials" "bySlot" "[J" .null) (F_next_o0 : Fld Z h0 o0 "dev/chainlatch/bucket/Serials" "next" "J" (.long (0 : Int64))) (g_o0 : n0 ≤ o0) :
    MetFree l (⟨"dev/chainlatch/bucket/Serials", "<init>", "(Ldev/chainlatch/bucket/ChainTable;)V"⟩ : MethodName) (head1 (Jvm.Cond.code (⟨"dev/chainlatch/bucket/Serials", "<init>", "(Ldev/chainlatch/bucket/ChainTable;)V"⟩ : MethodName) prog_12_method_1_code 2 none :: ws) ({ frames := 1, cells := 0, slots := 0, locals := 12 } : Room)) (fun a U => a = #[(.ref o0), .null] ∧ Z.Warmed39 U.vm ∧ U.heap = h0) (fun _ _ _ _ _ => True) (fun _ U o U' => ∃ v L, o = .returned v ∧ Q_rmI Z o0 h0 n0 v U'.heap L ∧ FrameEnd U o U' L ({ frames := 1, cells := 0, slots := 0, locals := 12 } : Room).cells ({ frames := 1, cells := 0, slots := 0, locals := 12 } : Room).slots) := by
  refine MetFree.of_bodySF (plainFor_of_name pn_dev_chainlatch_bucket_Serials) hisR ?_
  intro p e s m args below meth c s₁ Bd hml0 hP hK
  obtain ⟨rfl, hZ, hh⟩ := hP
  have hx := Bd.exec
  have hby := Bd.bytes
  have hml : c.maxLocals = 2 := hml0
  have hown : s.vm.findClass "dev/chainlatch/bucket/Serials" = some m.cls := findClass_of_methodNamed Bd.named
  have hnm := (name_of_methodNamed Bd.named Bd.method).1
  have hlk := Bd.notSynchronized
  have X0 : Stand p l e ({ frames := 1, cells := 0, slots := 0, locals := 12 } : Room) s m #[(.ref o0), .null] below meth c s₁ [] 0 0 := Stand.of_body Bd
  have e0 : s₁.heap = h0 := by rw [← hh, Bd.state]; rfl
  have N0 := Fr.nil n0
  show own_G p.tables e below s (Q_rmI Z o0 h0 n0) ({ frames := 1, cells := 0, slots := 0, locals := 12 } : Room).cells ({ frames := 1, cells := 0, slots := 0, locals := 12 } : Room).slots _
  refine own_thr (a := s₁.setTop (mkF m 0 #[.val (.ref o0), .val .null] [])) (fun t kt => castTop (ef_rmI m o0) kt) ?_
  refine own_thr (a := s₁.setTop (mkF m 1 #[.val (.ref o0), .val .null] [(.ref o0)])) (fun t kt => ?_) ?_
  · show Steps p.tables e below (s₁.setTop (mkF m 0 #[.val (.ref o0), .val .null] [])) _
    refine XS.aloadN X0.here hx rfl (hb hby d1_0) rfl rfl ?_
    exact kt
  obtain ⟨T1, X1, e1, st1⟩ := initO X0 hx hZ hown (hw _ (List.mem_of_getElem? (i := 9) rfl)) (hw _ (List.mem_of_getElem? (i := 10) rfl)) (hw _ (List.mem_of_getElem? (i := 11) rfl)) e0 (g := (mkF m 1 #[.val (.ref o0), .val .null] [(.ref o0)])) rfl (by rw [hml]; rfl) rfl (hb hby d1_1) (by decide) (W := 0) (by show 2 * 0 + _ ≤ _; exact Nat.le_of_eq rfl) (by decide)
  refine own_thr (a := T1.setTop (mkF m 4 #[.val (.ref o0), .val .null] [])) (fun t kt => st1 t kt) ?_
  refine own_thr (a := T1.setTop (mkF m 6 #[.val (.ref o0), .val .null] [.null, (.ref o0)])) (fun t kt => ?_) ?_
  · show Steps p.tables e below (T1.setTop (mkF m 4 #[.val (.ref o0), .val .null] [])) _
    refine XS.aloadN X1.here hx rfl (hb hby d1_4) rfl rfl ?_
    refine XS.aloadN X1.here hx rfl (hb hby d1_5) rfl rfl ?_
    exact kt
  obtain ⟨T2, h2, X2, e2, W2, st2⟩ := putF X1 hx hZ hown (host := "") (Or.inl (hw _ (List.mem_of_getElem? (i := 12) rfl))) Via.refl e1 F_table_o0 E_o0 (Or.inr ⟨(hw _ (List.mem_of_getElem? (i := 13) rfl)), rfl, hnm⟩) (hw _ (List.mem_of_getElem? (i := 4) rfl)) (ty := (.object "dev/chainlatch/bucket/ChainTable")) (by decide) rfl rfl (g := (mkF m 6 #[.val (.ref o0), .val .null] [.null, (.ref o0)])) rfl rfl (hb hby d1_6)
  have Fw2 := F_table_o0.same W2
  have Z3 : n0 ≤ h2.size := Nat.le_trans Z0 (Nat.le_of_eq W2.size.symm)
  have Z3h : h0.size ≤ h2.size := Nat.le_trans (Nat.le_refl h0.size) (Nat.le_of_eq W2.size.symm)
  obtain ⟨lc2, X2, N2⟩ := own_pack1 X2 N0 g_o0
  refine own_thr (a := T2.setTop (mkF m 9 #[.val (.ref o0), .val .null] [])) (fun t kt => st2 t kt) ?_
  have c4 := (F_bySlot_o0.other W2 (Or.inr (slot_ne (Or.inl (hw _ (List.mem_of_getElem? (i := 20) rfl))) (Or.inr (hw _ (List.mem_of_getElem? (i := 13) rfl))) (by decide) (t := (.array .long)) (t' := (.object "dev/chainlatch/bucket/ChainTable")) (by decide) (by decide))))
  have c5 := (F_next_o0.other W2 (Or.inr (slot_ne (Or.inl (hw _ (List.mem_of_getElem? (i := 51) rfl))) (Or.inr (hw _ (List.mem_of_getElem? (i := 13) rfl))) (by decide) (t := .long) (t' := (.object "dev/chainlatch/bucket/ChainTable")) (by decide) (by decide))))
  exact own_end X2 hlk (v := none) (fun _ => rfl) (fun fs hr => X2.returnOut hx Bd.returns (hb hby d1_9) hr) (by rw [e2]; exact ⟨rfl, N2, ((Keep.refl h0 [o0]).wr W2 (Or.inl (List.mem_of_getElem? (i := 0) rfl))), (E_o0.wr W2), Fw2, c4, c5⟩) (by decide : 0 ≤ _) (by decide : 0 ≤ _)
theorem d3_0 : decode prog_12_method_8_code 0 = .ok (.aload_n 0, 1) := by decide +kernel
theorem d3_1 : decode prog_12_method_8_code 1 = .ok (.getfield 13, 3) := by decide +kernel
theorem d3_4 : decode prog_12_method_8_code 4 = .ok (.ifnonnull 4, 3) := by decide +kernel
theorem d3_7 : decode prog_12_method_8_code 7 = .ok (.return_, 1) := by decide +kernel
theorem ef_rmRN (m : MethodId) (o0 : Addr) (a1 : Addr)  : entryFrame m #[(.ref o0), (.ref a1)] 4 = mkF m 0 #[.val (.ref o0), .val (.ref a1), .unset, .unset] [] := by first |  (simp [entryFrame, mkF, argsToLocals, Value.category]; done) | rfl
def Q_rmRN (Z : State) (o0 : Addr) (a1 : Addr) (h0 : Heap) (n0 : Nat) (v : Option Value) (h : Heap) (L : List Loc) : Prop := v = none ∧ Fr n0 L ∧ h = h0
set_option maxRecDepth 65536 in
set_option maxHeartbeats 40000000 in
theorem rmRN (l : Launch) (Z : State) (a0 : Array Value) (hw : ∀ d ∈ tables_1, d.before a0 Z = true) (ws : List Jvm.Cond) (o0 : Addr) (a1 : Addr) (h0 : Heap) (n0 : Nat) (Z0 : n0 ≤ h0.size) (F_bySlot_o0 : Fld Z h0 o0 "dev/chainlatch/bucket/Serials" "bySlot" "[J" .null) :
    MetFree l (⟨"dev/chainlatch/bucket/Serials", "remap", "([I)V"⟩ : MethodName) (head1 (Jvm.Cond.code (⟨"dev/chainlatch/bucket/Serials", "remap", "([I)V"⟩ : MethodName) prog_12_method_8_code 4 none :: ws) ({ frames := 0, cells := 0, slots := 0, locals := 0 } : Room)) (fun a U => a = #[(.ref o0), (.ref a1)] ∧ Z.Warmed39 U.vm ∧ U.heap = h0) (fun _ _ _ _ _ => True) (fun _ U o U' => ∃ v L, o = .returned v ∧ Q_rmRN Z o0 a1 h0 n0 v U'.heap L ∧ FrameEnd U o U' L ({ frames := 0, cells := 0, slots := 0, locals := 0 } : Room).cells ({ frames := 0, cells := 0, slots := 0, locals := 0 } : Room).slots) := by
  refine MetFree.of_bodySF (plainFor_of_name pn_dev_chainlatch_bucket_Serials) hisR ?_
  intro p e s m args below meth c s₁ Bd hml0 hP hK
  obtain ⟨rfl, hZ, hh⟩ := hP
  have hx := Bd.exec
  have hby := Bd.bytes
  have hml : c.maxLocals = 4 := hml0
  have hown : s.vm.findClass "dev/chainlatch/bucket/Serials" = some m.cls := findClass_of_methodNamed Bd.named
  have hnm := (name_of_methodNamed Bd.named Bd.method).1
  have hlk := Bd.notSynchronized
  have X0 : Stand p l e ({ frames := 0, cells := 0, slots := 0, locals := 0 } : Room) s m #[(.ref o0), (.ref a1)] below meth c s₁ [] 0 0 := Stand.of_body Bd
  have e0 : s₁.heap = h0 := by rw [← hh, Bd.state]; rfl
  have N0 := Fr.nil n0
  show own_G p.tables e below s (Q_rmRN Z o0 a1 h0 n0) ({ frames := 0, cells := 0, slots := 0, locals := 0 } : Room).cells ({ frames := 0, cells := 0, slots := 0, locals := 0 } : Room).slots _
  refine own_thr (a := s₁.setTop (mkF m 0 #[.val (.ref o0), .val (.ref a1), .unset, .unset] [])) (fun t kt => castTop (ef_rmRN m o0 a1) kt) ?_
  refine own_thr (a := s₁.setTop (mkF m 1 #[.val (.ref o0), .val (.ref a1), .unset, .unset] [(.ref o0)])) (fun t kt => ?_) ?_
  · show Steps p.tables e below (s₁.setTop (mkF m 0 #[.val (.ref o0), .val (.ref a1), .unset, .unset] [])) _
    refine XS.aloadN X0.here hx rfl (hb hby d3_0) rfl rfl ?_
    exact kt
  obtain ⟨T1, X1, e1, st1⟩ := getF X0 hx hZ hown (host := "") (Or.inl (hw _ (List.mem_of_getElem? (i := 19) rfl))) Via.refl e0 F_bySlot_o0 (g := (mkF m 1 #[.val (.ref o0), .val (.ref a1), .unset, .unset] [(.ref o0)])) rfl rfl (hb hby d3_1)
  refine own_thr (a := T1.setTop (mkF m 4 #[.val (.ref o0), .val (.ref a1), .unset, .unset] [.null])) (fun t kt => st1 t kt) ?_
  refine own_thr (a := T1.setTop (mkF m 7 #[.val (.ref o0), .val (.ref a1), .unset, .unset] [])) (fun t kt => ?_) ?_
  · show Steps p.tables e below (T1.setTop (mkF m 4 #[.val (.ref o0), .val (.ref a1), .unset, .unset] [.null])) _
    refine XS.ifnonnullNo X1.here hx rfl (hb hby d3_4) rfl ?_
    exact kt
  exact own_end X1 hlk (v := none) (fun _ => rfl) (fun fs hr => X1.returnOut hx Bd.returns (hb hby d3_7) hr) (by rw [e1]; exact ⟨rfl, N0, rfl⟩) (by decide : 0 ≤ _) (by decide : 0 ≤ _)
theorem d4_0 : decode prog_12_method_2_code 0 = .ok (.aload_n 0, 1) := by decide +kernel
theorem d4_1 : decode prog_12_method_2_code 1 = .ok (.getfield 13, 3) := by decide +kernel
theorem d4_4 : decode prog_12_method_2_code 4 = .ok (.ifnonnull 8, 3) := by decide +kernel
theorem d4_7 : decode prog_12_method_2_code 7 = .ok (.iload_n 1, 1) := by decide +kernel
theorem d4_8 : decode prog_12_method_2_code 8 = .ok (.i2l, 1) := by decide +kernel
theorem d4_9 : decode prog_12_method_2_code 9 = .ok (.goto 9, 3) := by decide +kernel
theorem d4_18 : decode prog_12_method_2_code 18 = .ok (.lreturn, 1) := by decide +kernel
theorem ef_rmSN (m : MethodId) (o0 : Addr) (p1 : Int32)  : entryFrame m #[(.ref o0), (.int p1)] 2 = mkF m 0 #[.val (.ref o0), .val (.int p1)] [] := by first |  (simp [entryFrame, mkF, argsToLocals, Value.category]; done) | rfl
def Q_rmSN (Z : State) (o0 : Addr) (p1 : Int32) (h0 : Heap) (n0 : Nat) (v : Option Value) (h : Heap) (L : List Loc) : Prop := v = some (.long (p1.toInt64)) ∧ Fr n0 L ∧ h = h0
set_option maxRecDepth 65536 in
set_option maxHeartbeats 40000000 in
theorem rmSN (l : Launch) (Z : State) (a0 : Array Value) (hw : ∀ d ∈ tables_1, d.before a0 Z = true) (ws : List Jvm.Cond) (o0 : Addr) (p1 : Int32) (h0 : Heap) (n0 : Nat) (Z0 : n0 ≤ h0.size) (F_bySlot_o0 : Fld Z h0 o0 "dev/chainlatch/bucket/Serials" "bySlot" "[J" .null) :
    MetFree l (⟨"dev/chainlatch/bucket/Serials", "serialAt", "(I)J"⟩ : MethodName) (head1 (Jvm.Cond.code (⟨"dev/chainlatch/bucket/Serials", "serialAt", "(I)J"⟩ : MethodName) prog_12_method_2_code 2 (some .long) :: ws) ({ frames := 0, cells := 0, slots := 0, locals := 0 } : Room)) (fun a U => a = #[(.ref o0), (.int p1)] ∧ Z.Warmed39 U.vm ∧ U.heap = h0) (fun _ _ _ _ _ => True) (fun _ U o U' => ∃ v L, o = .returned v ∧ Q_rmSN Z o0 p1 h0 n0 v U'.heap L ∧ FrameEnd U o U' L ({ frames := 0, cells := 0, slots := 0, locals := 0 } : Room).cells ({ frames := 0, cells := 0, slots := 0, locals := 0 } : Room).slots) := by
  refine MetFree.of_bodySF (plainFor_of_name pn_dev_chainlatch_bucket_Serials) hisR ?_
  intro p e s m args below meth c s₁ Bd hml0 hP hK
  obtain ⟨rfl, hZ, hh⟩ := hP
  have hx := Bd.exec
  have hby := Bd.bytes
  have hml : c.maxLocals = 2 := hml0
  have hown : s.vm.findClass "dev/chainlatch/bucket/Serials" = some m.cls := findClass_of_methodNamed Bd.named
  have hnm := (name_of_methodNamed Bd.named Bd.method).1
  have hlk := Bd.notSynchronized
  have X0 : Stand p l e ({ frames := 0, cells := 0, slots := 0, locals := 0 } : Room) s m #[(.ref o0), (.int p1)] below meth c s₁ [] 0 0 := Stand.of_body Bd
  have e0 : s₁.heap = h0 := by rw [← hh, Bd.state]; rfl
  have N0 := Fr.nil n0
  show own_G p.tables e below s (Q_rmSN Z o0 p1 h0 n0) ({ frames := 0, cells := 0, slots := 0, locals := 0 } : Room).cells ({ frames := 0, cells := 0, slots := 0, locals := 0 } : Room).slots _
  refine own_thr (a := s₁.setTop (mkF m 0 #[.val (.ref o0), .val (.int p1)] [])) (fun t kt => castTop (ef_rmSN m o0 p1) kt) ?_
  refine own_thr (a := s₁.setTop (mkF m 1 #[.val (.ref o0), .val (.int p1)] [(.ref o0)])) (fun t kt => ?_) ?_
  · show Steps p.tables e below (s₁.setTop (mkF m 0 #[.val (.ref o0), .val (.int p1)] [])) _
    refine XS.aloadN X0.here hx rfl (hb hby d4_0) rfl rfl ?_
    exact kt
  obtain ⟨T1, X1, e1, st1⟩ := getF X0 hx hZ hown (host := "") (Or.inl (hw _ (List.mem_of_getElem? (i := 19) rfl))) Via.refl e0 F_bySlot_o0 (g := (mkF m 1 #[.val (.ref o0), .val (.int p1)] [(.ref o0)])) rfl rfl (hb hby d4_1)
  refine own_thr (a := T1.setTop (mkF m 4 #[.val (.ref o0), .val (.int p1)] [.null])) (fun t kt => st1 t kt) ?_
  refine own_thr (a := T1.setTop (mkF m 18 #[.val (.ref o0), .val (.int p1)] [(.long (p1.toInt64))])) (fun t kt => ?_) ?_
  · show Steps p.tables e below (T1.setTop (mkF m 4 #[.val (.ref o0), .val (.int p1)] [.null])) _
    refine XS.ifnonnullNo X1.here hx rfl (hb hby d4_4) rfl ?_
    refine XS.iloadN X1.here hx rfl (hb hby d4_7) rfl ?_
    refine XS.i2l X1.here hx rfl (hb hby d4_8) rfl ?_
    refine XS.goto X1.here hx rfl (pc0 := 9) (pc' := 18) rfl (hb hby d4_9) (by decide) (by decide) ?_
    exact kt
  exact own_end X1 hlk (v := some (.long (p1.toInt64))) (fun h => by rw [Bd.returns] at h; cases h) (fun fs hr => retJ X1 hx Bd.returns (hb hby d4_18) hr) (by rw [e1]; exact ⟨rfl, N0, rfl⟩) (by decide : 0 ≤ _) (by decide : 0 ≤ _)
theorem d8_0 : decode prog_12_method_9_code 0 = .ok (.iload_n 0, 1) := by decide +kernel
theorem d8_1 : decode prog_12_method_9_code 1 = .ok (.i2l, 1) := by decide +kernel
theorem d8_2 : decode prog_12_method_9_code 2 = .ok (.lreturn, 1) := by decide +kernel
theorem ef_rmLam (m : MethodId) (p0 : Int32)  : entryFrame m #[(.int p0)] 1 = mkF m 0 #[.val (.int p0)] [] := by first |  (simp [entryFrame, mkF, argsToLocals, Value.category]; done) | rfl
def f_rmLam (p0 : Int32) : Int64 := (p0.toInt64)
def Q_rmLam (Z : State) (p0 : Int32) (h0 : Heap) (n0 : Nat) (v : Option Value) (h : Heap) (L : List Loc) : Prop := v = some (.long (f_rmLam p0)) ∧ Fr n0 L ∧ h = h0
set_option maxRecDepth 65536 in
set_option maxHeartbeats 40000000 in
theorem rmLam (l : Launch) (Z : State) (a0 : Array Value) (hw : ∀ d ∈ tables_1, d.before a0 Z = true) (ws : List Jvm.Cond) (p0 : Int32) (h0 : Heap) (n0 : Nat) (Z0 : n0 ≤ h0.size) :
    MetFree l (⟨"dev/chainlatch/bucket/Serials", "lambda$writeOut$0", "(I)J"⟩ : MethodName) (head1 (Jvm.Cond.code (⟨"dev/chainlatch/bucket/Serials", "lambda$writeOut$0", "(I)J"⟩ : MethodName) prog_12_method_9_code 1 (some .long) :: ws) ({ frames := 0, cells := 0, slots := 0, locals := 0 } : Room)) (fun a U => a = #[(.int p0)] ∧ Z.Warmed39 U.vm ∧ U.heap = h0) (fun _ _ _ _ _ => True) (fun _ U o U' => ∃ v L, o = .returned v ∧ Q_rmLam Z p0 h0 n0 v U'.heap L ∧ FrameEnd U o U' L ({ frames := 0, cells := 0, slots := 0, locals := 0 } : Room).cells ({ frames := 0, cells := 0, slots := 0, locals := 0 } : Room).slots) := by
  refine MetFree.of_bodySF (plainFor_of_name pn_dev_chainlatch_bucket_Serials) hisR ?_
  intro p e s m args below meth c s₁ Bd hml0 hP hK
  obtain ⟨rfl, hZ, hh⟩ := hP
  have hx := Bd.exec
  have hby := Bd.bytes
  have hml : c.maxLocals = 1 := hml0
  have hown : s.vm.findClass "dev/chainlatch/bucket/Serials" = some m.cls := findClass_of_methodNamed Bd.named
  have hnm := (name_of_methodNamed Bd.named Bd.method).1
  have hlk := Bd.notSynchronized
  have X0 : Stand p l e ({ frames := 0, cells := 0, slots := 0, locals := 0 } : Room) s m #[(.int p0)] below meth c s₁ [] 0 0 := Stand.of_body Bd
  have e0 : s₁.heap = h0 := by rw [← hh, Bd.state]; rfl
  have N0 := Fr.nil n0
  show own_G p.tables e below s (Q_rmLam Z p0 h0 n0) ({ frames := 0, cells := 0, slots := 0, locals := 0 } : Room).cells ({ frames := 0, cells := 0, slots := 0, locals := 0 } : Room).slots _
  refine own_thr (a := s₁.setTop (mkF m 0 #[.val (.int p0)] [])) (fun t kt => castTop (ef_rmLam m p0) kt) ?_
  refine own_thr (a := s₁.setTop (mkF m 2 #[.val (.int p0)] [(.long (p0.toInt64))])) (fun t kt => ?_) ?_
  · show Steps p.tables e below (s₁.setTop (mkF m 0 #[.val (.int p0)] [])) _
    refine XS.iloadN X0.here hx rfl (hb hby d8_0) rfl ?_
    refine XS.i2l X0.here hx rfl (hb hby d8_1) rfl ?_
    exact kt
  exact own_end X0 hlk (v := some (.long (p0.toInt64))) (fun h => by rw [Bd.returns] at h; cases h) (fun fs hr => retJ X0 hx Bd.returns (hb hby d8_2) hr) (by rw [e0]; exact ⟨(by rw [f_rmLam]), N0, rfl⟩) (by decide : 0 ≤ _) (by decide : 0 ≤ _)
theorem d7_0 : decode jdk_31_method_10_code 0 = .ok (.aload_n 0, 1) := by decide +kernel
theorem d7_1 : decode jdk_31_method_10_code 1 = .ok (.ifnonnull 11, 3) := by decide +kernel
theorem d7_12 : decode jdk_31_method_10_code 12 = .ok (.aload_n 0, 1) := by decide +kernel
theorem d7_13 : decode jdk_31_method_10_code 13 = .ok (.areturn, 1) := by decide +kernel
theorem pn_java_util_Objects : plainName "java/util/Objects" = true := by first | (simp [plainName, overriddenIn]; done) | decide +kernel
theorem ef_rmRq (m : MethodId) (a0_ : Addr)  : entryFrame m #[(.ref a0_)] 1 = mkF m 0 #[.val (.ref a0_)] [] := by first |  (simp [entryFrame, mkF, argsToLocals, Value.category]; done) | rfl
def Q_rmRq (Z : State) (a0_ : Addr) (h0 : Heap) (n0 : Nat) (v : Option Value) (h : Heap) (L : List Loc) : Prop := v = some (.ref a0_) ∧ Fr n0 L ∧ h = h0
set_option maxRecDepth 65536 in
set_option maxHeartbeats 40000000 in
theorem rmRq (l : Launch) (Z : State) (a0 : Array Value) (hw : ∀ d ∈ tables_1, d.before a0 Z = true) (ws : List Jvm.Cond) (a0_ : Addr) (h0 : Heap) (n0 : Nat) (Z0 : n0 ≤ h0.size) :
    MetFree l (⟨"java/util/Objects", "requireNonNull", "(Ljava/lang/Object;)Ljava/lang/Object;"⟩ : MethodName) (head1 (Jvm.Cond.code (⟨"java/util/Objects", "requireNonNull", "(Ljava/lang/Object;)Ljava/lang/Object;"⟩ : MethodName) jdk_31_method_10_code 1 (some (.object "java/lang/Object")) :: ws) ({ frames := 0, cells := 0, slots := 0, locals := 0 } : Room)) (fun a U => a = #[(.ref a0_)] ∧ Z.Warmed39 U.vm ∧ U.heap = h0) (fun _ _ _ _ _ => True) (fun _ U o U' => ∃ v L, o = .returned v ∧ Q_rmRq Z a0_ h0 n0 v U'.heap L ∧ FrameEnd U o U' L ({ frames := 0, cells := 0, slots := 0, locals := 0 } : Room).cells ({ frames := 0, cells := 0, slots := 0, locals := 0 } : Room).slots) := by
  refine MetFree.of_bodySF (plainFor_of_name pn_java_util_Objects) hisR ?_
  intro p e s m args below meth c s₁ Bd hml0 hP hK
  obtain ⟨rfl, hZ, hh⟩ := hP
  have hx := Bd.exec
  have hby := Bd.bytes
  have hml : c.maxLocals = 1 := hml0
  have hown : s.vm.findClass "java/util/Objects" = some m.cls := findClass_of_methodNamed Bd.named
  have hnm := (name_of_methodNamed Bd.named Bd.method).1
  have hlk := Bd.notSynchronized
  have X0 : Stand p l e ({ frames := 0, cells := 0, slots := 0, locals := 0 } : Room) s m #[(.ref a0_)] below meth c s₁ [] 0 0 := Stand.of_body Bd
  have e0 : s₁.heap = h0 := by rw [← hh, Bd.state]; rfl
  have N0 := Fr.nil n0
  show own_G p.tables e below s (Q_rmRq Z a0_ h0 n0) ({ frames := 0, cells := 0, slots := 0, locals := 0 } : Room).cells ({ frames := 0, cells := 0, slots := 0, locals := 0 } : Room).slots _
  refine own_thr (a := s₁.setTop (mkF m 0 #[.val (.ref a0_)] [])) (fun t kt => castTop (ef_rmRq m a0_) kt) ?_
  refine own_thr (a := s₁.setTop (mkF m 13 #[.val (.ref a0_)] [(.ref a0_)])) (fun t kt => ?_) ?_
  · show Steps p.tables e below (s₁.setTop (mkF m 0 #[.val (.ref a0_)] [])) _
    refine XS.aloadN X0.here hx rfl (hb hby d7_0) rfl rfl ?_
    refine XS.ifnonnullYes X0.here hx rfl (pc0 := 1) (pc' := 12) rfl (hb hby d7_1) rfl (by decide) (by decide) ?_
    refine XS.aloadN X0.here hx rfl (hb hby d7_12) rfl rfl ?_
    exact kt
  exact own_end X0 hlk (v := some (.ref a0_)) (fun h => by rw [Bd.returns] at h; cases h) (fun fs hr => retA X0 hx Bd.returns rfl rfl (hb hby d7_13) hr) (by rw [e0]; exact ⟨rfl, N0, rfl⟩) (by decide : 0 ≤ _) (by decide : 0 ≤ _)
theorem own_cs {j n : Int32} (k : Nat) (hk : k ≤ 4) (h1 : ¬ j < 0) (h2 : j < n) (h3 : ¬ Int32.ofNat k < n) : ∃ i : Nat, i < k ∧ j = Int32.ofNat i := by
  have e0 : (0 : Int32).toInt = 0 := rfl
  have ek : (Int32.ofNat k).toInt = k := Int32.toInt_ofNat_of_lt (by omega)
  rw [Int32.lt_iff_toInt_lt] at h1 h2 h3
  refine ⟨j.toInt.toNat, by omega, ?_⟩
  rw [← Int32.toInt_inj, Int32.toInt_ofNat_of_lt (by omega)]; omega
theorem own_fill0 {x : Int32 → Int64} {n : Int32} (h3 : ¬ (0 : Int32) < n) : ∀ j : Int32, ¬ j < 0 → j < n → x j = own_idL j := by
  intro j h1 h2
  obtain ⟨i, hi, rfl⟩ := own_cs 0 (by decide) h1 h2 h3
  match i, hi with
  | i, hi => exact absurd hi (Nat.not_lt_zero _)
theorem own_fill1 {x : Int32 → Int64} {n : Int32} (h3 : ¬ (1 : Int32) < n) : ∀ j : Int32, ¬ j < 0 → j < n → (own_upL x (0 : Int32) (f_rmLam (0 : Int32))) j = own_idL j := by
  intro j h1 h2
  obtain ⟨i, hi, rfl⟩ := own_cs 1 (by decide) h1 h2 h3
  match i, hi with
  | 0, _ => simp [own_upL, own_idL, f_rmLam]
theorem own_fill2 {x : Int32 → Int64} {n : Int32} (h3 : ¬ (2 : Int32) < n) : ∀ j : Int32, ¬ j < 0 → j < n → (own_upL (own_upL x (0 : Int32) (f_rmLam (0 : Int32))) (1 : Int32) (f_rmLam (1 : Int32))) j = own_idL j := by
  intro j h1 h2
  obtain ⟨i, hi, rfl⟩ := own_cs 2 (by decide) h1 h2 h3
  match i, hi with
  | 0, _ => simp [own_upL, own_idL, f_rmLam]
  | 1, _ => simp [own_upL, own_idL, f_rmLam]
theorem own_fill3 {x : Int32 → Int64} {n : Int32} (h3 : ¬ (3 : Int32) < n) : ∀ j : Int32, ¬ j < 0 → j < n → (own_upL (own_upL (own_upL x (0 : Int32) (f_rmLam (0 : Int32))) (1 : Int32) (f_rmLam (1 : Int32))) (2 : Int32) (f_rmLam (2 : Int32))) j = own_idL j := by
  intro j h1 h2
  obtain ⟨i, hi, rfl⟩ := own_cs 3 (by decide) h1 h2 h3
  match i, hi with
  | 0, _ => simp [own_upL, own_idL, f_rmLam]
  | 1, _ => simp [own_upL, own_idL, f_rmLam]
  | 2, _ => simp [own_upL, own_idL, f_rmLam]
theorem own_fill4 {x : Int32 → Int64} {n : Int32} (h3 : ¬ (4 : Int32) < n) : ∀ j : Int32, ¬ j < 0 → j < n → (own_upL (own_upL (own_upL (own_upL x (0 : Int32) (f_rmLam (0 : Int32))) (1 : Int32) (f_rmLam (1 : Int32))) (2 : Int32) (f_rmLam (2 : Int32))) (3 : Int32) (f_rmLam (3 : Int32))) j = own_idL j := by
  intro j h1 h2
  obtain ⟨i, hi, rfl⟩ := own_cs 4 (by decide) h1 h2 h3
  match i, hi with
  | 0, _ => simp [own_upL, own_idL, f_rmLam]
  | 1, _ => simp [own_upL, own_idL, f_rmLam]
  | 2, _ => simp [own_upL, own_idL, f_rmLam]
  | 3, _ => simp [own_upL, own_idL, f_rmLam]
theorem d6_0 : decode jdk_65_method_177_code 0 = .ok (.aload_n 1, 1) := by decide +kernel
theorem pd__28Ljava_2flang_2fObject_3b_29Ljava_2flang_2fObject_3b : parseMethodDescriptor "(Ljava/lang/Object;)Ljava/lang/Object;" = some ⟨[(.object "java/lang/Object")], some (.object "java/lang/Object")⟩ := by decide +kernel
theorem d6_1 : decode jdk_65_method_177_code 1 = .ok (.invokestatic 175, 3) := by decide +kernel
theorem d6_4 : decode jdk_65_method_177_code 4 = .ok (.pop, 1) := by decide +kernel
theorem d6_5 : decode jdk_65_method_177_code 5 = .ok (.iconst 0, 1) := by decide +kernel
theorem d6_6 : decode jdk_65_method_177_code 6 = .ok (.istore_n 2, 1) := by decide +kernel
theorem d6_7 : decode jdk_65_method_177_code 7 = .ok (.iload_n 2, 1) := by decide +kernel
theorem d6_8 : decode jdk_65_method_177_code 8 = .ok (.aload_n 0, 1) := by decide +kernel
theorem d6_9 : decode jdk_65_method_177_code 9 = .ok (.arraylength, 1) := by decide +kernel
theorem d6_10 : decode jdk_65_method_177_code 10 = .ok (.if_icmp .ge 19, 3) := by decide +kernel
theorem d6_13 : decode jdk_65_method_177_code 13 = .ok (.aload_n 0, 1) := by decide +kernel
theorem d6_14 : decode jdk_65_method_177_code 14 = .ok (.iload_n 2, 1) := by decide +kernel
theorem d6_15 : decode jdk_65_method_177_code 15 = .ok (.aload_n 1, 1) := by decide +kernel
theorem d6_16 : decode jdk_65_method_177_code 16 = .ok (.iload_n 2, 1) := by decide +kernel
theorem pd__28I_29J : parseMethodDescriptor "(I)J" = some ⟨[.int], some .long⟩ := by decide +kernel
theorem d6_17 : decode jdk_65_method_177_code 17 = .ok (.invokeinterface 591 2, 5) := by decide +kernel
theorem d6_22 : decode jdk_65_method_177_code 22 = .ok (.lastore, 1) := by decide +kernel
theorem d6_23 : decode jdk_65_method_177_code 23 = .ok (.iinc 2 1, 3) := by decide +kernel
theorem d6_26 : decode jdk_65_method_177_code 26 = .ok (.goto (-19), 3) := by decide +kernel
theorem d6_29 : decode jdk_65_method_177_code 29 = .ok (.return_, 1) := by decide +kernel
theorem pn_java_util_Arrays : plainName "java/util/Arrays" = true := by first | (simp [plainName, overriddenIn]; done) | decide +kernel
theorem ef_rmSet (m : MethodId) (a0_ : Addr) (fa : Addr)  : entryFrame m #[(.ref a0_), (.ref fa)] 3 = mkF m 0 #[.val (.ref a0_), .val (.ref fa), .unset] [] := by first |  (simp [entryFrame, mkF, argsToLocals, Value.category]; done) | rfl
def Q_rmSet (Z : State) (a0_ : Addr) (fa : Addr) (n : Int32) (x : Int32 → Int64) (cK : ClassId) (h0 : Heap) (n0 : Nat) (v : Option Value) (h : Heap) (L : List Loc) : Prop := v = none ∧ Fr n0 L ∧ Keep h0 h [a0_] ∧ own_AL Z h a0_ n own_idL
set_option maxRecDepth 65536 in
set_option maxHeartbeats 40000000 in
theorem rmSet (l : Launch) (Z : State) (a0 : Array Value) (hw : ∀ d ∈ tables_1, d.before a0 Z = true) (ws : List Jvm.Cond) (a0_ : Addr) (fa : Addr) (n : Int32) (x : Int32 → Int64) (cK : ClassId) (h0 : Heap) (n0 : Nat) (Z0 : n0 ≤ h0.size) (V_a0_ : own_AL Z h0 a0_ n x) (g_a0_ : n0 ≤ a0_) (hO : Old Z n0 h0) (hfn : Jvm.LamKit.own_Fn Z "dev/chainlatch/bucket/Serials" own_sig fa cK) (hn4 : ¬ (4 : Int32) < n) :
    MetFree l (⟨"java/util/Arrays", "setAll", "([JLjava/util/function/IntToLongFunction;)V"⟩ : MethodName) (head1 (Jvm.Cond.code (⟨"java/util/Arrays", "setAll", "([JLjava/util/function/IntToLongFunction;)V"⟩ : MethodName) jdk_65_method_177_code 3 none :: ws) ({ frames := 2, cells := 0, slots := 0, locals := 27 } : Room)) (fun a U => a = #[(.ref a0_), (.ref fa)] ∧ Z.Warmed39 U.vm ∧ U.heap = h0) (fun _ _ _ _ _ => True) (fun _ U o U' => ∃ v L, o = .returned v ∧ Q_rmSet Z a0_ fa n x cK h0 n0 v U'.heap L ∧ FrameEnd U o U' L ({ frames := 2, cells := 0, slots := 0, locals := 27 } : Room).cells ({ frames := 2, cells := 0, slots := 0, locals := 27 } : Room).slots) := by
  refine MetFree.of_bodySF (plainFor_of_name pn_java_util_Arrays) hisR ?_
  intro p e s m args below meth c s₁ Bd hml0 hP hK
  obtain ⟨rfl, hZ, hh⟩ := hP
  have hx := Bd.exec
  have hby := Bd.bytes
  have hml : c.maxLocals = 3 := hml0
  have hown : s.vm.findClass "java/util/Arrays" = some m.cls := findClass_of_methodNamed Bd.named
  have hnm := (name_of_methodNamed Bd.named Bd.method).1
  have hlk := Bd.notSynchronized
  have X0 : Stand p l e ({ frames := 2, cells := 0, slots := 0, locals := 27 } : Room) s m #[(.ref a0_), (.ref fa)] below meth c s₁ [] 0 0 := Stand.of_body Bd
  have e0 : s₁.heap = h0 := by rw [← hh, Bd.state]; rfl
  have N0 := Fr.nil n0
  show own_G p.tables e below s (Q_rmSet Z a0_ fa n x cK h0 n0) ({ frames := 2, cells := 0, slots := 0, locals := 27 } : Room).cells ({ frames := 2, cells := 0, slots := 0, locals := 27 } : Room).slots _
  refine own_thr (a := s₁.setTop (mkF m 0 #[.val (.ref a0_), .val (.ref fa), .unset] [])) (fun t kt => castTop (ef_rmSet m a0_ fa) kt) ?_
  refine own_thr (a := s₁.setTop (mkF m 1 #[.val (.ref a0_), .val (.ref fa), .unset] [(.ref fa)])) (fun t kt => ?_) ?_
  · show Steps p.tables e below (s₁.setTop (mkF m 0 #[.val (.ref a0_), .val (.ref fa), .unset] [])) _
    refine XS.aloadN X0.here hx rfl (hb hby d6_0) rfl rfl ?_
    exact kt
  obtain ⟨_, _, ⟨T1, L1, k1, n1⟩, -, X1, ⟨Lc1, hQ1, l1, y1, z1⟩, st1⟩ := Jvm.LawKit.callS X0 hx (y := (⟨"java/util/Objects", "requireNonNull", "(Ljava/lang/Object;)Ljava/lang/Object;"⟩ : MethodName)) hown (mvT hZ (hw _ (List.mem_of_getElem? (i := 41) rfl))) (mvT hZ (hw _ (List.mem_of_getElem? (i := 42) rfl))) (mvT hZ (hw _ (List.mem_of_getElem? (i := 43) rfl))) (mvT hZ (hw _ (List.mem_of_getElem? (i := 44) rfl))) (by decide) (backOf (W := 0) (rmRq l Z a0 hw [] fa h0 n0 Z0) hZ (hw _ (List.mem_of_getElem? (i := 44) rfl)) (hw _ (List.mem_of_getElem? (i := 43) rfl)) (by decide) (by decide)) (g := (mkF m 1 #[.val (.ref a0_), .val (.ref fa), .unset] [(.ref fa)])) rfl (by rw [hml]; rfl) (argsL := [(.ref fa)]) (rest := []) (lenOf pd__28Ljava_2flang_2fObject_3b_29Ljava_2flang_2fObject_3b rfl) rfl (by show 2 * 0 + _ ≤ _; exact Nat.le_of_eq rfl) (hb hby d6_1) (fun _ _ => ⟨rfl, e0, (by decide : 0 + 0 ≤ _), (by decide : 0 + 0 ≤ _)⟩)
  dsimp only [Pt.U, Pt.locs, Pt.cells, Pt.slots] at X1 l1 y1 z1 st1 hQ1
  obtain ⟨rfl, N1q, e1⟩ := hQ1
  obtain ⟨lc1, X1, N1⟩ := own_pack X1 l1 y1 z1 N0 N1q (C := 0) (S' := 0) rfl rfl
  refine own_thr (a := T1.setTop (mkF m 4 #[.val (.ref a0_), .val (.ref fa), .unset] [(.ref fa)])) (fun t kt => st1 t kt) ?_
  refine own_thr (a := T1.setTop (mkF m 9 #[.val (.ref a0_), .val (.ref fa), .val (.int (0 : Int32))] [(.ref a0_), (.int (0 : Int32))])) (fun t kt => ?_) ?_
  · show Steps p.tables e below (T1.setTop (mkF m 4 #[.val (.ref a0_), .val (.ref fa), .unset] [(.ref fa)])) _
    refine XS.pop X1.here hx rfl (hb hby d6_4) rfl rfl ?_
    refine XS.iconst X1.here hx rfl (hb hby d6_5) ?_
    refine XS.istoreN X1.here hx rfl (hb hby d6_6) rfl (l' := #[.val (.ref a0_), .val (.ref fa), .val (.int (0 : Int32))]) rfl ?_
    refine XS.iloadN X1.here hx rfl (hb hby d6_7) rfl ?_
    refine XS.aloadN X1.here hx rfl (hb hby d6_8) rfl rfl ?_
    exact kt
  obtain ⟨cl2, Ar2, S2, M2, -⟩ := id V_a0_
  refine own_thr (a := T1.setTop (mkF m 10 #[.val (.ref a0_), .val (.ref fa), .val (.int (0 : Int32))] [(.int n), (.int (0 : Int32))])) (fun t kt => ?_) ?_
  · show Steps p.tables e below (T1.setTop (mkF m 9 #[.val (.ref a0_), .val (.ref fa), .val (.int (0 : Int32))] [(.ref a0_), (.int (0 : Int32))])) _
    refine X1.arraylength hx (by rw [e1]; exact Ar2.1) (State.isArrayOf_alike hZ.alike Ar2.2.1) (g := (mkF m 9 #[.val (.ref a0_), .val (.ref fa), .val (.int (0 : Int32))] [(.ref a0_), (.int (0 : Int32))])) rfl rfl (hb hby d6_9) _ ?_
    rw [len_of S2 M2]
    exact kt
  by_cases hc3 : (0 : Int32) < n
  · refine own_thr (a := T1.setTop (mkF m 17 #[.val (.ref a0_), .val (.ref fa), .val (.int (0 : Int32))] [(.int (0 : Int32)), (.ref fa), (.int (0 : Int32)), (.ref a0_)])) (fun t kt => ?_) ?_
    · show Steps p.tables e below (T1.setTop (mkF m 10 #[.val (.ref a0_), .val (.ref fa), .val (.int (0 : Int32))] [(.int n), (.int (0 : Int32))])) _
      refine XS.icmpNo X1.here hx rfl (hb hby d6_10) rfl (tlt hc3).2.1 ?_
      refine XS.aloadN X1.here hx rfl (hb hby d6_13) rfl rfl ?_
      refine XS.iloadN X1.here hx rfl (hb hby d6_14) rfl ?_
      refine XS.aloadN X1.here hx rfl (hb hby d6_15) rfl rfl ?_
      refine XS.iloadN X1.here hx rfl (hb hby d6_16) rfl ?_
      exact kt
    obtain ⟨T4, L4, X4, N4q, e4, st4⟩ := Jvm.LamKit.own_lam X1 hx hZ (own := "java/util/Arrays") (host := "dev/chainlatch/bucket/Serials") (index := 591) (count := 2) (xi := (⟨"java/util/function/IntToLongFunction", "applyAsLong", "(I)J"⟩ : MethodName)) (y := (⟨"dev/chainlatch/bucket/Serials", "lambda$writeOut$0", "(I)J"⟩ : MethodName)) (σ := own_sig) (argsL := [(.int (0 : Int32))]) (argsT := [(.int (0 : Int32))]) (rest := [(.int (0 : Int32)), (.ref a0_)]) (val := (.long (f_rmLam (0 : Int32)))) (n0 := n0) (rmLam l Z a0 hw [] (0 : Int32) h0 n0 Z0) (fun v h' L q => q) hown (mvT hZ (hw _ (List.mem_of_getElem? (i := 45) rfl))) (mvT hZ (hw _ (List.mem_of_getElem? (i := 46) rfl))) (mvT hZ (hw _ (List.mem_of_getElem? (i := 47) rfl))) (mvT hZ (hw _ (List.mem_of_getElem? (i := 49) rfl))) (mvT hZ (hw _ (List.mem_of_getElem? (i := 48) rfl))) (mvT hZ (hw _ (List.mem_of_getElem? (i := 5) rfl))) (by decide +kernel) (by decide +kernel) (by decide) hfn hO e1 own_fwd own_f1 own_f4 (g := (mkF m 17 #[.val (.ref a0_), .val (.ref fa), .val (.int (0 : Int32))] [(.int (0 : Int32)), (.ref fa), (.int (0 : Int32)), (.ref a0_)])) rfl (by rw [hml]; rfl) (L0 := #[.val (.ref fa), .val (.int (0 : Int32))]) (lenOf pd__28I_29J rfl) (lenOf pd__28I_29J rfl) rfl (hb hby d6_17) (fun _ => rfl) rfl (fun U ck bl target hU hck _ _ k => XS.iloadN hU hx rfl (hb hck own_f0) rfl k) (Or.inr (Or.inl ⟨_, rfl, rfl, rfl⟩)) (by decide) (by show 2 * 0 + 2 + (2 + 11) + ((1 + 11) + 0) ≤ _; decide) (Nat.zero_le _) (Nat.zero_le _)
    obtain ⟨lc4, X4, N4⟩ := own_pack X4 rfl rfl rfl N1 N4q (C := 0) (S' := 0) rfl rfl
    refine own_thr (a := T4.setTop (mkF m 22 #[.val (.ref a0_), .val (.ref fa), .val (.int (0 : Int32))] [(.long (f_rmLam (0 : Int32))), (.int (0 : Int32)), (.ref a0_)])) (fun t kt => st4 t kt) ?_
    obtain ⟨cl5, Ar5, S5, M5, H5⟩ := id V_a0_
    have hin5 : ¬ ((0 : Int32) < 0 ∨ cl5.slots.size ≤ ((0 : Int32)).toNatClampNeg) := inb_of S5 ⟨(by decide), hc3⟩
    obtain ⟨T5, h5, X5, e5, W5, st5⟩ := stJ X4 hx hZ e4 Ar5 (j := (0 : Int32)) hin5 (g := (mkF m 22 #[.val (.ref a0_), .val (.ref fa), .val (.int (0 : Int32))] [(.long (f_rmLam (0 : Int32))), (.int (0 : Int32)), (.ref a0_)])) rfl rfl (hb hby d6_22)
    have Z6 : n0 ≤ h5.size := Nat.le_trans Z0 (Nat.le_of_eq W5.size.symm)
    have Z6h : h0.size ≤ h5.size := Nat.le_trans (Nat.le_refl h0.size) (Nat.le_of_eq W5.size.symm)
    have V5 : own_AL Z h5 a0_ n (own_upL x (0 : Int32) (f_rmLam (0 : Int32))) := own_AL.set Ar5 S5 M5 H5 hin5 W5
    obtain ⟨lc5, X5, N5⟩ := own_pack1 X5 N4 g_a0_
    refine own_thr (a := T5.setTop (mkF m 23 #[.val (.ref a0_), .val (.ref fa), .val (.int (0 : Int32))] [])) (fun t kt => st5 t kt) ?_
    refine own_thr (a := T5.setTop (mkF m 9 #[.val (.ref a0_), .val (.ref fa), .val (.int (1 : Int32))] [(.ref a0_), (.int (1 : Int32))])) (fun t kt => ?_) ?_
    · show Steps p.tables e below (T5.setTop (mkF m 23 #[.val (.ref a0_), .val (.ref fa), .val (.int (0 : Int32))] [])) _
      refine XS.iinc X5.here hx rfl (hb hby d6_23) rfl (l' := #[.val (.ref a0_), .val (.ref fa), .val (.int (1 : Int32))]) rfl ?_
      refine XS.goto X5.here hx rfl (pc0 := 26) (pc' := 7) rfl (hb hby d6_26) (by decide) (by decide) ?_
      refine XS.iloadN X5.here hx rfl (hb hby d6_7) rfl ?_
      refine XS.aloadN X5.here hx rfl (hb hby d6_8) rfl rfl ?_
      exact kt
    obtain ⟨cl7, Ar7, S7, M7, -⟩ := id V5
    refine own_thr (a := T5.setTop (mkF m 10 #[.val (.ref a0_), .val (.ref fa), .val (.int (1 : Int32))] [(.int n), (.int (1 : Int32))])) (fun t kt => ?_) ?_
    · show Steps p.tables e below (T5.setTop (mkF m 9 #[.val (.ref a0_), .val (.ref fa), .val (.int (1 : Int32))] [(.ref a0_), (.int (1 : Int32))])) _
      refine X5.arraylength hx (by rw [e5]; exact Ar7.1) (State.isArrayOf_alike hZ.alike Ar7.2.1) (g := (mkF m 9 #[.val (.ref a0_), .val (.ref fa), .val (.int (1 : Int32))] [(.ref a0_), (.int (1 : Int32))])) rfl rfl (hb hby d6_9) _ ?_
      rw [len_of S7 M7]
      exact kt
    by_cases hc8 : (1 : Int32) < n
    · refine own_thr (a := T5.setTop (mkF m 17 #[.val (.ref a0_), .val (.ref fa), .val (.int (1 : Int32))] [(.int (1 : Int32)), (.ref fa), (.int (1 : Int32)), (.ref a0_)])) (fun t kt => ?_) ?_
      · show Steps p.tables e below (T5.setTop (mkF m 10 #[.val (.ref a0_), .val (.ref fa), .val (.int (1 : Int32))] [(.int n), (.int (1 : Int32))])) _
        refine XS.icmpNo X5.here hx rfl (hb hby d6_10) rfl (tlt hc8).2.1 ?_
        refine XS.aloadN X5.here hx rfl (hb hby d6_13) rfl rfl ?_
        refine XS.iloadN X5.here hx rfl (hb hby d6_14) rfl ?_
        refine XS.aloadN X5.here hx rfl (hb hby d6_15) rfl rfl ?_
        refine XS.iloadN X5.here hx rfl (hb hby d6_16) rfl ?_
        exact kt
      obtain ⟨T9, L9, X9, N9q, e9, st9⟩ := Jvm.LamKit.own_lam X5 hx hZ (own := "java/util/Arrays") (host := "dev/chainlatch/bucket/Serials") (index := 591) (count := 2) (xi := (⟨"java/util/function/IntToLongFunction", "applyAsLong", "(I)J"⟩ : MethodName)) (y := (⟨"dev/chainlatch/bucket/Serials", "lambda$writeOut$0", "(I)J"⟩ : MethodName)) (σ := own_sig) (argsL := [(.int (1 : Int32))]) (argsT := [(.int (1 : Int32))]) (rest := [(.int (1 : Int32)), (.ref a0_)]) (val := (.long (f_rmLam (1 : Int32)))) (n0 := n0) (rmLam l Z a0 hw [] (1 : Int32) h5 n0 Z6) (fun v h' L q => q) hown (mvT hZ (hw _ (List.mem_of_getElem? (i := 45) rfl))) (mvT hZ (hw _ (List.mem_of_getElem? (i := 46) rfl))) (mvT hZ (hw _ (List.mem_of_getElem? (i := 47) rfl))) (mvT hZ (hw _ (List.mem_of_getElem? (i := 49) rfl))) (mvT hZ (hw _ (List.mem_of_getElem? (i := 48) rfl))) (mvT hZ (hw _ (List.mem_of_getElem? (i := 5) rfl))) (by decide +kernel) (by decide +kernel) (by decide) hfn (hO.wr W5 g_a0_) e5 own_fwd own_f1 own_f4 (g := (mkF m 17 #[.val (.ref a0_), .val (.ref fa), .val (.int (1 : Int32))] [(.int (1 : Int32)), (.ref fa), (.int (1 : Int32)), (.ref a0_)])) rfl (by rw [hml]; rfl) (L0 := #[.val (.ref fa), .val (.int (1 : Int32))]) (lenOf pd__28I_29J rfl) (lenOf pd__28I_29J rfl) rfl (hb hby d6_17) (fun _ => rfl) rfl (fun U ck bl target hU hck _ _ k => XS.iloadN hU hx rfl (hb hck own_f0) rfl k) (Or.inr (Or.inl ⟨_, rfl, rfl, rfl⟩)) (by decide) (by show 2 * 0 + 2 + (2 + 11) + ((1 + 11) + 0) ≤ _; decide) (Nat.zero_le _) (Nat.zero_le _)
      obtain ⟨lc9, X9, N9⟩ := own_pack X9 rfl rfl rfl N5 N9q (C := 0) (S' := 0) rfl rfl
      refine own_thr (a := T9.setTop (mkF m 22 #[.val (.ref a0_), .val (.ref fa), .val (.int (1 : Int32))] [(.long (f_rmLam (1 : Int32))), (.int (1 : Int32)), (.ref a0_)])) (fun t kt => st9 t kt) ?_
      obtain ⟨cl10, Ar10, S10, M10, H10⟩ := id V5
      have hin10 : ¬ ((1 : Int32) < 0 ∨ cl10.slots.size ≤ ((1 : Int32)).toNatClampNeg) := inb_of S10 ⟨(by decide), hc8⟩
      obtain ⟨T10, h10, X10, e10, W10, st10⟩ := stJ X9 hx hZ e9 Ar10 (j := (1 : Int32)) hin10 (g := (mkF m 22 #[.val (.ref a0_), .val (.ref fa), .val (.int (1 : Int32))] [(.long (f_rmLam (1 : Int32))), (.int (1 : Int32)), (.ref a0_)])) rfl rfl (hb hby d6_22)
      have Z11 : n0 ≤ h10.size := Nat.le_trans Z6 (Nat.le_of_eq W10.size.symm)
      have Z11h : h0.size ≤ h10.size := Nat.le_trans Z6h (Nat.le_of_eq W10.size.symm)
      have V10 : own_AL Z h10 a0_ n (own_upL (own_upL x (0 : Int32) (f_rmLam (0 : Int32))) (1 : Int32) (f_rmLam (1 : Int32))) := own_AL.set Ar10 S10 M10 H10 hin10 W10
      obtain ⟨lc10, X10, N10⟩ := own_pack1 X10 N9 g_a0_
      refine own_thr (a := T10.setTop (mkF m 23 #[.val (.ref a0_), .val (.ref fa), .val (.int (1 : Int32))] [])) (fun t kt => st10 t kt) ?_
      refine own_thr (a := T10.setTop (mkF m 9 #[.val (.ref a0_), .val (.ref fa), .val (.int (2 : Int32))] [(.ref a0_), (.int (2 : Int32))])) (fun t kt => ?_) ?_
      · show Steps p.tables e below (T10.setTop (mkF m 23 #[.val (.ref a0_), .val (.ref fa), .val (.int (1 : Int32))] [])) _
        refine XS.iinc X10.here hx rfl (hb hby d6_23) rfl (l' := #[.val (.ref a0_), .val (.ref fa), .val (.int (2 : Int32))]) rfl ?_
        refine XS.goto X10.here hx rfl (pc0 := 26) (pc' := 7) rfl (hb hby d6_26) (by decide) (by decide) ?_
        refine XS.iloadN X10.here hx rfl (hb hby d6_7) rfl ?_
        refine XS.aloadN X10.here hx rfl (hb hby d6_8) rfl rfl ?_
        exact kt
      obtain ⟨cl12, Ar12, S12, M12, -⟩ := id V10
      refine own_thr (a := T10.setTop (mkF m 10 #[.val (.ref a0_), .val (.ref fa), .val (.int (2 : Int32))] [(.int n), (.int (2 : Int32))])) (fun t kt => ?_) ?_
      · show Steps p.tables e below (T10.setTop (mkF m 9 #[.val (.ref a0_), .val (.ref fa), .val (.int (2 : Int32))] [(.ref a0_), (.int (2 : Int32))])) _
        refine X10.arraylength hx (by rw [e10]; exact Ar12.1) (State.isArrayOf_alike hZ.alike Ar12.2.1) (g := (mkF m 9 #[.val (.ref a0_), .val (.ref fa), .val (.int (2 : Int32))] [(.ref a0_), (.int (2 : Int32))])) rfl rfl (hb hby d6_9) _ ?_
        rw [len_of S12 M12]
        exact kt
      by_cases hc13 : (2 : Int32) < n
      · refine own_thr (a := T10.setTop (mkF m 17 #[.val (.ref a0_), .val (.ref fa), .val (.int (2 : Int32))] [(.int (2 : Int32)), (.ref fa), (.int (2 : Int32)), (.ref a0_)])) (fun t kt => ?_) ?_
        · show Steps p.tables e below (T10.setTop (mkF m 10 #[.val (.ref a0_), .val (.ref fa), .val (.int (2 : Int32))] [(.int n), (.int (2 : Int32))])) _
          refine XS.icmpNo X10.here hx rfl (hb hby d6_10) rfl (tlt hc13).2.1 ?_
          refine XS.aloadN X10.here hx rfl (hb hby d6_13) rfl rfl ?_
          refine XS.iloadN X10.here hx rfl (hb hby d6_14) rfl ?_
          refine XS.aloadN X10.here hx rfl (hb hby d6_15) rfl rfl ?_
          refine XS.iloadN X10.here hx rfl (hb hby d6_16) rfl ?_
          exact kt
        obtain ⟨T14, L14, X14, N14q, e14, st14⟩ := Jvm.LamKit.own_lam X10 hx hZ (own := "java/util/Arrays") (host := "dev/chainlatch/bucket/Serials") (index := 591) (count := 2) (xi := (⟨"java/util/function/IntToLongFunction", "applyAsLong", "(I)J"⟩ : MethodName)) (y := (⟨"dev/chainlatch/bucket/Serials", "lambda$writeOut$0", "(I)J"⟩ : MethodName)) (σ := own_sig) (argsL := [(.int (2 : Int32))]) (argsT := [(.int (2 : Int32))]) (rest := [(.int (2 : Int32)), (.ref a0_)]) (val := (.long (f_rmLam (2 : Int32)))) (n0 := n0) (rmLam l Z a0 hw [] (2 : Int32) h10 n0 Z11) (fun v h' L q => q) hown (mvT hZ (hw _ (List.mem_of_getElem? (i := 45) rfl))) (mvT hZ (hw _ (List.mem_of_getElem? (i := 46) rfl))) (mvT hZ (hw _ (List.mem_of_getElem? (i := 47) rfl))) (mvT hZ (hw _ (List.mem_of_getElem? (i := 49) rfl))) (mvT hZ (hw _ (List.mem_of_getElem? (i := 48) rfl))) (mvT hZ (hw _ (List.mem_of_getElem? (i := 5) rfl))) (by decide +kernel) (by decide +kernel) (by decide) hfn ((hO.wr W5 g_a0_).wr W10 g_a0_) e10 own_fwd own_f1 own_f4 (g := (mkF m 17 #[.val (.ref a0_), .val (.ref fa), .val (.int (2 : Int32))] [(.int (2 : Int32)), (.ref fa), (.int (2 : Int32)), (.ref a0_)])) rfl (by rw [hml]; rfl) (L0 := #[.val (.ref fa), .val (.int (2 : Int32))]) (lenOf pd__28I_29J rfl) (lenOf pd__28I_29J rfl) rfl (hb hby d6_17) (fun _ => rfl) rfl (fun U ck bl target hU hck _ _ k => XS.iloadN hU hx rfl (hb hck own_f0) rfl k) (Or.inr (Or.inl ⟨_, rfl, rfl, rfl⟩)) (by decide) (by show 2 * 0 + 2 + (2 + 11) + ((1 + 11) + 0) ≤ _; decide) (Nat.zero_le _) (Nat.zero_le _)
        obtain ⟨lc14, X14, N14⟩ := own_pack X14 rfl rfl rfl N10 N14q (C := 0) (S' := 0) rfl rfl
        refine own_thr (a := T14.setTop (mkF m 22 #[.val (.ref a0_), .val (.ref fa), .val (.int (2 : Int32))] [(.long (f_rmLam (2 : Int32))), (.int (2 : Int32)), (.ref a0_)])) (fun t kt => st14 t kt) ?_
        obtain ⟨cl15, Ar15, S15, M15, H15⟩ := id V10
        have hin15 : ¬ ((2 : Int32) < 0 ∨ cl15.slots.size ≤ ((2 : Int32)).toNatClampNeg) := inb_of S15 ⟨(by decide), hc13⟩
        obtain ⟨T15, h15, X15, e15, W15, st15⟩ := stJ X14 hx hZ e14 Ar15 (j := (2 : Int32)) hin15 (g := (mkF m 22 #[.val (.ref a0_), .val (.ref fa), .val (.int (2 : Int32))] [(.long (f_rmLam (2 : Int32))), (.int (2 : Int32)), (.ref a0_)])) rfl rfl (hb hby d6_22)
        have Z16 : n0 ≤ h15.size := Nat.le_trans Z11 (Nat.le_of_eq W15.size.symm)
        have Z16h : h0.size ≤ h15.size := Nat.le_trans Z11h (Nat.le_of_eq W15.size.symm)
        have V15 : own_AL Z h15 a0_ n (own_upL (own_upL (own_upL x (0 : Int32) (f_rmLam (0 : Int32))) (1 : Int32) (f_rmLam (1 : Int32))) (2 : Int32) (f_rmLam (2 : Int32))) := own_AL.set Ar15 S15 M15 H15 hin15 W15
        obtain ⟨lc15, X15, N15⟩ := own_pack1 X15 N14 g_a0_
        refine own_thr (a := T15.setTop (mkF m 23 #[.val (.ref a0_), .val (.ref fa), .val (.int (2 : Int32))] [])) (fun t kt => st15 t kt) ?_
        refine own_thr (a := T15.setTop (mkF m 9 #[.val (.ref a0_), .val (.ref fa), .val (.int (3 : Int32))] [(.ref a0_), (.int (3 : Int32))])) (fun t kt => ?_) ?_
        · show Steps p.tables e below (T15.setTop (mkF m 23 #[.val (.ref a0_), .val (.ref fa), .val (.int (2 : Int32))] [])) _
          refine XS.iinc X15.here hx rfl (hb hby d6_23) rfl (l' := #[.val (.ref a0_), .val (.ref fa), .val (.int (3 : Int32))]) rfl ?_
          refine XS.goto X15.here hx rfl (pc0 := 26) (pc' := 7) rfl (hb hby d6_26) (by decide) (by decide) ?_
          refine XS.iloadN X15.here hx rfl (hb hby d6_7) rfl ?_
          refine XS.aloadN X15.here hx rfl (hb hby d6_8) rfl rfl ?_
          exact kt
        obtain ⟨cl17, Ar17, S17, M17, -⟩ := id V15
        refine own_thr (a := T15.setTop (mkF m 10 #[.val (.ref a0_), .val (.ref fa), .val (.int (3 : Int32))] [(.int n), (.int (3 : Int32))])) (fun t kt => ?_) ?_
        · show Steps p.tables e below (T15.setTop (mkF m 9 #[.val (.ref a0_), .val (.ref fa), .val (.int (3 : Int32))] [(.ref a0_), (.int (3 : Int32))])) _
          refine X15.arraylength hx (by rw [e15]; exact Ar17.1) (State.isArrayOf_alike hZ.alike Ar17.2.1) (g := (mkF m 9 #[.val (.ref a0_), .val (.ref fa), .val (.int (3 : Int32))] [(.ref a0_), (.int (3 : Int32))])) rfl rfl (hb hby d6_9) _ ?_
          rw [len_of S17 M17]
          exact kt
        by_cases hc18 : (3 : Int32) < n
        · refine own_thr (a := T15.setTop (mkF m 17 #[.val (.ref a0_), .val (.ref fa), .val (.int (3 : Int32))] [(.int (3 : Int32)), (.ref fa), (.int (3 : Int32)), (.ref a0_)])) (fun t kt => ?_) ?_
          · show Steps p.tables e below (T15.setTop (mkF m 10 #[.val (.ref a0_), .val (.ref fa), .val (.int (3 : Int32))] [(.int n), (.int (3 : Int32))])) _
            refine XS.icmpNo X15.here hx rfl (hb hby d6_10) rfl (tlt hc18).2.1 ?_
            refine XS.aloadN X15.here hx rfl (hb hby d6_13) rfl rfl ?_
            refine XS.iloadN X15.here hx rfl (hb hby d6_14) rfl ?_
            refine XS.aloadN X15.here hx rfl (hb hby d6_15) rfl rfl ?_
            refine XS.iloadN X15.here hx rfl (hb hby d6_16) rfl ?_
            exact kt
          obtain ⟨T19, L19, X19, N19q, e19, st19⟩ := Jvm.LamKit.own_lam X15 hx hZ (own := "java/util/Arrays") (host := "dev/chainlatch/bucket/Serials") (index := 591) (count := 2) (xi := (⟨"java/util/function/IntToLongFunction", "applyAsLong", "(I)J"⟩ : MethodName)) (y := (⟨"dev/chainlatch/bucket/Serials", "lambda$writeOut$0", "(I)J"⟩ : MethodName)) (σ := own_sig) (argsL := [(.int (3 : Int32))]) (argsT := [(.int (3 : Int32))]) (rest := [(.int (3 : Int32)), (.ref a0_)]) (val := (.long (f_rmLam (3 : Int32)))) (n0 := n0) (rmLam l Z a0 hw [] (3 : Int32) h15 n0 Z16) (fun v h' L q => q) hown (mvT hZ (hw _ (List.mem_of_getElem? (i := 45) rfl))) (mvT hZ (hw _ (List.mem_of_getElem? (i := 46) rfl))) (mvT hZ (hw _ (List.mem_of_getElem? (i := 47) rfl))) (mvT hZ (hw _ (List.mem_of_getElem? (i := 49) rfl))) (mvT hZ (hw _ (List.mem_of_getElem? (i := 48) rfl))) (mvT hZ (hw _ (List.mem_of_getElem? (i := 5) rfl))) (by decide +kernel) (by decide +kernel) (by decide) hfn (((hO.wr W5 g_a0_).wr W10 g_a0_).wr W15 g_a0_) e15 own_fwd own_f1 own_f4 (g := (mkF m 17 #[.val (.ref a0_), .val (.ref fa), .val (.int (3 : Int32))] [(.int (3 : Int32)), (.ref fa), (.int (3 : Int32)), (.ref a0_)])) rfl (by rw [hml]; rfl) (L0 := #[.val (.ref fa), .val (.int (3 : Int32))]) (lenOf pd__28I_29J rfl) (lenOf pd__28I_29J rfl) rfl (hb hby d6_17) (fun _ => rfl) rfl (fun U ck bl target hU hck _ _ k => XS.iloadN hU hx rfl (hb hck own_f0) rfl k) (Or.inr (Or.inl ⟨_, rfl, rfl, rfl⟩)) (by decide) (by show 2 * 0 + 2 + (2 + 11) + ((1 + 11) + 0) ≤ _; decide) (Nat.zero_le _) (Nat.zero_le _)
          obtain ⟨lc19, X19, N19⟩ := own_pack X19 rfl rfl rfl N15 N19q (C := 0) (S' := 0) rfl rfl
          refine own_thr (a := T19.setTop (mkF m 22 #[.val (.ref a0_), .val (.ref fa), .val (.int (3 : Int32))] [(.long (f_rmLam (3 : Int32))), (.int (3 : Int32)), (.ref a0_)])) (fun t kt => st19 t kt) ?_
          obtain ⟨cl20, Ar20, S20, M20, H20⟩ := id V15
          have hin20 : ¬ ((3 : Int32) < 0 ∨ cl20.slots.size ≤ ((3 : Int32)).toNatClampNeg) := inb_of S20 ⟨(by decide), hc18⟩
          obtain ⟨T20, h20, X20, e20, W20, st20⟩ := stJ X19 hx hZ e19 Ar20 (j := (3 : Int32)) hin20 (g := (mkF m 22 #[.val (.ref a0_), .val (.ref fa), .val (.int (3 : Int32))] [(.long (f_rmLam (3 : Int32))), (.int (3 : Int32)), (.ref a0_)])) rfl rfl (hb hby d6_22)
          have Z21 : n0 ≤ h20.size := Nat.le_trans Z16 (Nat.le_of_eq W20.size.symm)
          have Z21h : h0.size ≤ h20.size := Nat.le_trans Z16h (Nat.le_of_eq W20.size.symm)
          have V20 : own_AL Z h20 a0_ n (own_upL (own_upL (own_upL (own_upL x (0 : Int32) (f_rmLam (0 : Int32))) (1 : Int32) (f_rmLam (1 : Int32))) (2 : Int32) (f_rmLam (2 : Int32))) (3 : Int32) (f_rmLam (3 : Int32))) := own_AL.set Ar20 S20 M20 H20 hin20 W20
          obtain ⟨lc20, X20, N20⟩ := own_pack1 X20 N19 g_a0_
          refine own_thr (a := T20.setTop (mkF m 23 #[.val (.ref a0_), .val (.ref fa), .val (.int (3 : Int32))] [])) (fun t kt => st20 t kt) ?_
          refine own_thr (a := T20.setTop (mkF m 9 #[.val (.ref a0_), .val (.ref fa), .val (.int (4 : Int32))] [(.ref a0_), (.int (4 : Int32))])) (fun t kt => ?_) ?_
          · show Steps p.tables e below (T20.setTop (mkF m 23 #[.val (.ref a0_), .val (.ref fa), .val (.int (3 : Int32))] [])) _
            refine XS.iinc X20.here hx rfl (hb hby d6_23) rfl (l' := #[.val (.ref a0_), .val (.ref fa), .val (.int (4 : Int32))]) rfl ?_
            refine XS.goto X20.here hx rfl (pc0 := 26) (pc' := 7) rfl (hb hby d6_26) (by decide) (by decide) ?_
            refine XS.iloadN X20.here hx rfl (hb hby d6_7) rfl ?_
            refine XS.aloadN X20.here hx rfl (hb hby d6_8) rfl rfl ?_
            exact kt
          obtain ⟨cl22, Ar22, S22, M22, -⟩ := id V20
          refine own_thr (a := T20.setTop (mkF m 29 #[.val (.ref a0_), .val (.ref fa), .val (.int (4 : Int32))] [])) (fun t kt => ?_) ?_
          · show Steps p.tables e below (T20.setTop (mkF m 9 #[.val (.ref a0_), .val (.ref fa), .val (.int (4 : Int32))] [(.ref a0_), (.int (4 : Int32))])) _
            refine X20.arraylength hx (by rw [e20]; exact Ar22.1) (State.isArrayOf_alike hZ.alike Ar22.2.1) (g := (mkF m 9 #[.val (.ref a0_), .val (.ref fa), .val (.int (4 : Int32))] [(.ref a0_), (.int (4 : Int32))])) rfl rfl (hb hby d6_9) _ ?_
            rw [len_of S22 M22]
            refine XS.icmpYes X20.here hx rfl (pc0 := 10) (pc' := 29) rfl (hb hby d6_10) rfl (flt hn4).2.1 (by decide) (by decide) ?_
            exact kt
          have vz23 : own_AL Z h20 a0_ n own_idL := own_AL.congr V20 (own_fill4 hn4)
          exact own_end X20 hlk (v := none) (fun _ => rfl) (fun fs hr => X20.returnOut hx Bd.returns (hb hby d6_29) hr) (by rw [e20]; exact ⟨rfl, N20, (((((Keep.refl h0 [a0_]).wr W5 (Or.inl (List.mem_of_getElem? (i := 0) rfl))).wr W10 (Or.inl (List.mem_of_getElem? (i := 0) rfl))).wr W15 (Or.inl (List.mem_of_getElem? (i := 0) rfl))).wr W20 (Or.inl (List.mem_of_getElem? (i := 0) rfl))), vz23⟩) (by decide : 0 ≤ _) (by decide : 0 ≤ _)
        · refine own_thr (a := T15.setTop (mkF m 29 #[.val (.ref a0_), .val (.ref fa), .val (.int (3 : Int32))] [])) (fun t kt => ?_) ?_
          · show Steps p.tables e below (T15.setTop (mkF m 10 #[.val (.ref a0_), .val (.ref fa), .val (.int (3 : Int32))] [(.int n), (.int (3 : Int32))])) _
            refine XS.icmpYes X15.here hx rfl (pc0 := 10) (pc' := 29) rfl (hb hby d6_10) rfl (flt hc18).2.1 (by decide) (by decide) ?_
            exact kt
          have vz24 : own_AL Z h15 a0_ n own_idL := own_AL.congr V15 (own_fill3 hc18)
          exact own_end X15 hlk (v := none) (fun _ => rfl) (fun fs hr => X15.returnOut hx Bd.returns (hb hby d6_29) hr) (by rw [e15]; exact ⟨rfl, N15, ((((Keep.refl h0 [a0_]).wr W5 (Or.inl (List.mem_of_getElem? (i := 0) rfl))).wr W10 (Or.inl (List.mem_of_getElem? (i := 0) rfl))).wr W15 (Or.inl (List.mem_of_getElem? (i := 0) rfl))), vz24⟩) (by decide : 0 ≤ _) (by decide : 0 ≤ _)
      · refine own_thr (a := T10.setTop (mkF m 29 #[.val (.ref a0_), .val (.ref fa), .val (.int (2 : Int32))] [])) (fun t kt => ?_) ?_
        · show Steps p.tables e below (T10.setTop (mkF m 10 #[.val (.ref a0_), .val (.ref fa), .val (.int (2 : Int32))] [(.int n), (.int (2 : Int32))])) _
          refine XS.icmpYes X10.here hx rfl (pc0 := 10) (pc' := 29) rfl (hb hby d6_10) rfl (flt hc13).2.1 (by decide) (by decide) ?_
          exact kt
        have vz25 : own_AL Z h10 a0_ n own_idL := own_AL.congr V10 (own_fill2 hc13)
        exact own_end X10 hlk (v := none) (fun _ => rfl) (fun fs hr => X10.returnOut hx Bd.returns (hb hby d6_29) hr) (by rw [e10]; exact ⟨rfl, N10, (((Keep.refl h0 [a0_]).wr W5 (Or.inl (List.mem_of_getElem? (i := 0) rfl))).wr W10 (Or.inl (List.mem_of_getElem? (i := 0) rfl))), vz25⟩) (by decide : 0 ≤ _) (by decide : 0 ≤ _)
    · refine own_thr (a := T5.setTop (mkF m 29 #[.val (.ref a0_), .val (.ref fa), .val (.int (1 : Int32))] [])) (fun t kt => ?_) ?_
      · show Steps p.tables e below (T5.setTop (mkF m 10 #[.val (.ref a0_), .val (.ref fa), .val (.int (1 : Int32))] [(.int n), (.int (1 : Int32))])) _
        refine XS.icmpYes X5.here hx rfl (pc0 := 10) (pc' := 29) rfl (hb hby d6_10) rfl (flt hc8).2.1 (by decide) (by decide) ?_
        exact kt
      have vz26 : own_AL Z h5 a0_ n own_idL := own_AL.congr V5 (own_fill1 hc8)
      exact own_end X5 hlk (v := none) (fun _ => rfl) (fun fs hr => X5.returnOut hx Bd.returns (hb hby d6_29) hr) (by rw [e5]; exact ⟨rfl, N5, ((Keep.refl h0 [a0_]).wr W5 (Or.inl (List.mem_of_getElem? (i := 0) rfl))), vz26⟩) (by decide : 0 ≤ _) (by decide : 0 ≤ _)
  · refine own_thr (a := T1.setTop (mkF m 29 #[.val (.ref a0_), .val (.ref fa), .val (.int (0 : Int32))] [])) (fun t kt => ?_) ?_
    · show Steps p.tables e below (T1.setTop (mkF m 10 #[.val (.ref a0_), .val (.ref fa), .val (.int (0 : Int32))] [(.int n), (.int (0 : Int32))])) _
      refine XS.icmpYes X1.here hx rfl (pc0 := 10) (pc' := 29) rfl (hb hby d6_10) rfl (flt hc3).2.1 (by decide) (by decide) ?_
      exact kt
    have vz27 : own_AL Z h0 a0_ n own_idL := own_AL.congr V_a0_ (own_fill0 hc3)
    exact own_end X1 hlk (v := none) (fun _ => rfl) (fun fs hr => X1.returnOut hx Bd.returns (hb hby d6_29) hr) (by rw [e1]; exact ⟨rfl, N1, (Keep.refl h0 [a0_]), vz27⟩) (by decide : 0 ≤ _) (by decide : 0 ≤ _)
theorem d5_0 : decode prog_12_method_5_code 0 = .ok (.aload_n 0, 1) := by decide +kernel
theorem d5_1 : decode prog_12_method_5_code 1 = .ok (.getfield 13, 3) := by decide +kernel
theorem d5_4 : decode prog_12_method_5_code 4 = .ok (.ifnonnull 28, 3) := by decide +kernel
theorem d5_7 : decode prog_12_method_5_code 7 = .ok (.aload_n 0, 1) := by decide +kernel
theorem d5_8 : decode prog_12_method_5_code 8 = .ok (.iload_n 1, 1) := by decide +kernel
theorem d5_9 : decode prog_12_method_5_code 9 = .ok (.newarray .long, 2) := by decide +kernel
theorem d5_11 : decode prog_12_method_5_code 11 = .ok (.putfield 13, 3) := by decide +kernel
theorem d5_14 : decode prog_12_method_5_code 14 = .ok (.aload_n 0, 1) := by decide +kernel
theorem d5_15 : decode prog_12_method_5_code 15 = .ok (.getfield 13, 3) := by decide +kernel
theorem d5_18 : decode prog_12_method_5_code 18 = .ok (.invokedynamic 31, 5) := by decide +kernel
theorem pd__28_5bJLjava_2futil_2ffunction_2fIntToLongFunction_3b_29V : parseMethodDescriptor "([JLjava/util/function/IntToLongFunction;)V" = some ⟨[(.array .long), (.object "java/util/function/IntToLongFunction")], none⟩ := by decide +kernel
theorem d5_23 : decode prog_12_method_5_code 23 = .ok (.invokestatic 35, 3) := by decide +kernel
theorem d5_26 : decode prog_12_method_5_code 26 = .ok (.aload_n 0, 1) := by decide +kernel
theorem d5_27 : decode prog_12_method_5_code 27 = .ok (.iload_n 1, 1) := by decide +kernel
theorem d5_28 : decode prog_12_method_5_code 28 = .ok (.i2l, 1) := by decide +kernel
theorem d5_29 : decode prog_12_method_5_code 29 = .ok (.putfield 41, 3) := by decide +kernel
theorem d5_32 : decode prog_12_method_5_code 32 = .ok (.return_, 1) := by decide +kernel
theorem ef_rmW (m : MethodId) (o0 : Addr) (p1 : Int32)  : entryFrame m #[(.ref o0), (.int p1)] 2 = mkF m 0 #[.val (.ref o0), .val (.int p1)] [] := by first |  (simp [entryFrame, mkF, argsToLocals, Value.category]; done) | rfl
def Q_rmW (Z : State) (o0 : Addr) (p1 : Int32) (nx : Int64) (h0 : Heap) (n0 : Nat) (v : Option Value) (h : Heap) (L : List Loc) : Prop := ∃ b : Addr, v = none ∧ Fr n0 L ∧ Keep h0 h [o0] ∧ Exa Z h o0 "dev/chainlatch/bucket/Serials" ∧ Fld Z h o0 "dev/chainlatch/bucket/Serials" "bySlot" "[J" (.ref b) ∧ Fld Z h o0 "dev/chainlatch/bucket/Serials" "next" "J" (.long (p1.toInt64)) ∧ own_AL Z h b p1 own_idL ∧ h0.size ≤ b
set_option maxRecDepth 65536 in
set_option maxHeartbeats 40000000 in
theorem rmW (l : Launch) (Z : State) (a0 : Array Value) (hw : ∀ d ∈ tables_1, d.before a0 Z = true) (ws : List Jvm.Cond) (o0 : Addr) (p1 : Int32) (nx : Int64) (h0 : Heap) (n0 : Nat) (Z0 : n0 ≤ h0.size) (E_o0 : Exa Z h0 o0 "dev/chainlatch/bucket/Serials") (F_b : Fld Z h0 o0 "dev/chainlatch/bucket/Serials" "bySlot" "[J" .null) (F_n : Fld Z h0 o0 "dev/chainlatch/bucket/Serials" "next" "J" (.long nx)) (g_o0 : n0 ≤ o0) (hO : Old Z n0 h0) (hn0 : ¬ p1 < 0) (hn1 : p1.toNatClampNeg ≤ 4) (hn4 : ¬ (4 : Int32) < p1) :
    MetFree l (⟨"dev/chainlatch/bucket/Serials", "writeOut", "(I)V"⟩ : MethodName) (head1 (Jvm.Cond.code (⟨"dev/chainlatch/bucket/Serials", "writeOut", "(I)V"⟩ : MethodName) prog_12_method_5_code 2 none :: ws) ({ frames := 3, cells := 1, slots := 4, locals := 3073 } : Room)) (fun a U => a = #[(.ref o0), (.int p1)] ∧ Z.Warmed39 U.vm ∧ U.heap = h0) (fun _ _ _ _ _ => True) (fun _ U o U' => ∃ v L, o = .returned v ∧ Q_rmW Z o0 p1 nx h0 n0 v U'.heap L ∧ FrameEnd U o U' L ({ frames := 3, cells := 1, slots := 4, locals := 3073 } : Room).cells ({ frames := 3, cells := 1, slots := 4, locals := 3073 } : Room).slots) := by
  refine MetFree.of_bodySF (plainFor_of_name pn_dev_chainlatch_bucket_Serials) hisR ?_
  intro p e s m args below meth c s₁ Bd hml0 hP hK
  obtain ⟨rfl, hZ, hh⟩ := hP
  have hx := Bd.exec
  have hby := Bd.bytes
  have hml : c.maxLocals = 2 := hml0
  have hown : s.vm.findClass "dev/chainlatch/bucket/Serials" = some m.cls := findClass_of_methodNamed Bd.named
  have hnm := (name_of_methodNamed Bd.named Bd.method).1
  have hlk := Bd.notSynchronized
  have X0 : Stand p l e ({ frames := 3, cells := 1, slots := 4, locals := 3073 } : Room) s m #[(.ref o0), (.int p1)] below meth c s₁ [] 0 0 := Stand.of_body Bd
  have e0 : s₁.heap = h0 := by rw [← hh, Bd.state]; rfl
  have N0 := Fr.nil n0
  show own_G p.tables e below s (Q_rmW Z o0 p1 nx h0 n0) ({ frames := 3, cells := 1, slots := 4, locals := 3073 } : Room).cells ({ frames := 3, cells := 1, slots := 4, locals := 3073 } : Room).slots _
  refine own_thr (a := s₁.setTop (mkF m 0 #[.val (.ref o0), .val (.int p1)] [])) (fun t kt => castTop (ef_rmW m o0 p1) kt) ?_
  refine own_thr (a := s₁.setTop (mkF m 1 #[.val (.ref o0), .val (.int p1)] [(.ref o0)])) (fun t kt => ?_) ?_
  · show Steps p.tables e below (s₁.setTop (mkF m 0 #[.val (.ref o0), .val (.int p1)] [])) _
    refine XS.aloadN X0.here hx rfl (hb hby d5_0) rfl rfl ?_
    exact kt
  obtain ⟨T1, X1, e1, st1⟩ := getF X0 hx hZ hown (host := "") (Or.inl (hw _ (List.mem_of_getElem? (i := 19) rfl))) Via.refl e0 F_b (g := (mkF m 1 #[.val (.ref o0), .val (.int p1)] [(.ref o0)])) rfl rfl (hb hby d5_1)
  refine own_thr (a := T1.setTop (mkF m 4 #[.val (.ref o0), .val (.int p1)] [.null])) (fun t kt => st1 t kt) ?_
  refine own_thr (a := T1.setTop (mkF m 9 #[.val (.ref o0), .val (.int p1)] [(.int p1), (.ref o0)])) (fun t kt => ?_) ?_
  · show Steps p.tables e below (T1.setTop (mkF m 4 #[.val (.ref o0), .val (.int p1)] [.null])) _
    refine XS.ifnonnullNo X1.here hx rfl (hb hby d5_4) rfl ?_
    refine XS.aloadN X1.here hx rfl (hb hby d5_7) rfl rfl ?_
    refine XS.iloadN X1.here hx rfl (hb hby d5_8) rfl ?_
    exact kt
  obtain ⟨T2, h2, k2, X2, e2, E2, A2, st2⟩ := newP X1 hx hZ (hw _ (List.mem_of_getElem? (i := 33) rfl)) e1 (g := (mkF m 9 #[.val (.ref o0), .val (.int p1)] [(.int p1), (.ref o0)])) rfl (hb hby d5_9) rfl hn0 (cap := 4) hn1 (by decide) (by decide : 0 + 1 ≤ _) (by decide : 0 + 4 ≤ _)
  obtain ⟨b2, g2⟩ : ∃ z, z = h0.size := ⟨_, rfl⟩
  rw [← g2] at A2 st2
  have g_b2 : n0 ≤ b2 := Nat.le_trans Z0 (Nat.le_of_eq g2.symm)
  have sz_b2 : h0.size ≤ b2 := Nat.le_trans (Nat.le_refl h0.size) (Nat.le_of_eq g2.symm)
  have lt_o0_b2 : o0 < b2 := Nat.lt_of_lt_of_le E_o0.lt (Nat.le_of_eq g2.symm)
  have ne_o0_b2 : o0 ≠ b2 := Nat.ne_of_lt lt_o0_b2
  have V_b2 : Arv Z h2 b2 k2 .long p1 [] (.long (0 : Int64)) := Arv.new A2 hn0
  have Z3 : n0 ≤ h2.size := Nat.le_trans Z0 E2.1
  have Z3h : h0.size ≤ h2.size := Nat.le_trans (Nat.le_refl h0.size) E2.1
  refine own_thr (a := T2.setTop (mkF m 11 #[.val (.ref o0), .val (.int p1)] [(.ref b2), (.ref o0)])) (fun t kt => st2 t kt) ?_
  have AF_b2 : own_AL Z h2 b2 p1 (fun _ => 0) := own_AL.new A2 hn0
  obtain ⟨T4, h4, X4, e4, W4, st4⟩ := putF X2 hx hZ hown (host := "") (Or.inl (hw _ (List.mem_of_getElem? (i := 19) rfl))) Via.refl e2 (F_b.ext E2) (E_o0.ext E2) (Or.inl (hw _ (List.mem_of_getElem? (i := 20) rfl))) (hw _ (List.mem_of_getElem? (i := 4) rfl)) (ty := (.array .long)) (by decide) rfl rfl (g := (mkF m 11 #[.val (.ref o0), .val (.int p1)] [(.ref b2), (.ref o0)])) rfl rfl (hb hby d5_11)
  have Fw4 := (F_b.ext E2).same W4
  have Z5 : n0 ≤ h4.size := Nat.le_trans Z3 (Nat.le_of_eq W4.size.symm)
  have Z5h : h0.size ≤ h4.size := Nat.le_trans Z3h (Nat.le_of_eq W4.size.symm)
  obtain ⟨lc4, X4, N4⟩ := own_pack1 X4 N0 g_o0
  refine own_thr (a := T4.setTop (mkF m 14 #[.val (.ref o0), .val (.int p1)] [])) (fun t kt => st4 t kt) ?_
  refine own_thr (a := T4.setTop (mkF m 15 #[.val (.ref o0), .val (.int p1)] [(.ref o0)])) (fun t kt => ?_) ?_
  · show Steps p.tables e below (T4.setTop (mkF m 14 #[.val (.ref o0), .val (.int p1)] [])) _
    refine XS.aloadN X4.here hx rfl (hb hby d5_14) rfl rfl ?_
    exact kt
  obtain ⟨T6, X6, e6, st6⟩ := getF X4 hx hZ hown (host := "") (Or.inl (hw _ (List.mem_of_getElem? (i := 19) rfl))) Via.refl e4 Fw4 (g := (mkF m 15 #[.val (.ref o0), .val (.int p1)] [(.ref o0)])) rfl rfl (hb hby d5_15)
  refine own_thr (a := T6.setTop (mkF m 18 #[.val (.ref o0), .val (.int p1)] [(.ref b2)])) (fun t kt => st6 t kt) ?_
  obtain ⟨fa, cK, hfn, st7⟩ := Jvm.LamKit.own_site X6 hx hZ (x := (⟨"dev/chainlatch/bucket/Serials", "writeOut", "(I)V"⟩ : MethodName)) (σ := own_sig) Bd.named (hw _ (List.mem_of_getElem? (i := 34) rfl)) rfl (g := (mkF m 18 #[.val (.ref o0), .val (.int p1)] [(.ref b2)])) rfl rfl (by rw [hml]; rfl) (hb hby d5_18) (by show 2 * 0 + 1 + 3072 ≤ _; decide)
  refine own_thr (a := T6.setTop (mkF m 23 #[.val (.ref o0), .val (.int p1)] [(.ref fa), (.ref b2)])) (fun t kt => st7 t kt) ?_
  obtain ⟨_, _, ⟨T8, L8, k8, n8⟩, -, X8, ⟨Lc8, hQ8, l8, y8, z8⟩, st8⟩ := Jvm.LawKit.callS X6 hx (y := (⟨"java/util/Arrays", "setAll", "([JLjava/util/function/IntToLongFunction;)V"⟩ : MethodName)) hown (mvT hZ (hw _ (List.mem_of_getElem? (i := 37) rfl))) (mvT hZ (hw _ (List.mem_of_getElem? (i := 38) rfl))) (mvT hZ (hw _ (List.mem_of_getElem? (i := 39) rfl))) (mvT hZ (hw _ (List.mem_of_getElem? (i := 40) rfl))) (by decide) (backOf (W := 0) (rmSet l Z a0 hw [] b2 fa p1 (fun _ => 0) cK h4 n0 Z5 (AF_b2.other W4 (Ne.symm ne_o0_b2)) g_b2 ((hO.ext E2).wr W4 g_o0) hfn hn4) hZ (hw _ (List.mem_of_getElem? (i := 40) rfl)) (hw _ (List.mem_of_getElem? (i := 39) rfl)) (by decide) (by decide)) (g := (mkF m 23 #[.val (.ref o0), .val (.int p1)] [(.ref fa), (.ref b2)])) rfl (by rw [hml]; rfl) (argsL := [(.ref b2), (.ref fa)]) (rest := []) (lenOf pd__28_5bJLjava_2futil_2ffunction_2fIntToLongFunction_3b_29V rfl) rfl (by show 2 * 0 + _ ≤ _; exact Nat.le_of_eq rfl) (hb hby d5_23) (fun _ _ => ⟨rfl, e6, (by decide : 1 + 0 ≤ _), (by decide : 4 + 0 ≤ _)⟩)
  dsimp only [Pt.U, Pt.locs, Pt.cells, Pt.slots] at X8 l8 y8 z8 st8 hQ8
  obtain ⟨rfl, N8q, K8, o8_0⟩ := hQ8
  have Z9 : n0 ≤ T8.heap.size := Nat.le_trans Z5 K8.1
  have Z9h : h0.size ≤ T8.heap.size := Nat.le_trans Z5h K8.1
  obtain ⟨lc8, X8, N8⟩ := own_pack X8 l8 y8 z8 N4 N8q (C := 1) (S' := 4) rfl rfl
  refine own_thr (a := T8.setTop (mkF m 26 #[.val (.ref o0), .val (.int p1)] [])) (fun t kt => st8 t kt) ?_
  refine own_thr (a := T8.setTop (mkF m 29 #[.val (.ref o0), .val (.int p1)] [(.long (p1.toInt64)), (.ref o0)])) (fun t kt => ?_) ?_
  · show Steps p.tables e below (T8.setTop (mkF m 26 #[.val (.ref o0), .val (.int p1)] [])) _
    refine XS.aloadN X8.here hx rfl (hb hby d5_26) rfl rfl ?_
    refine XS.iloadN X8.here hx rfl (hb hby d5_27) rfl ?_
    refine XS.i2l X8.here hx rfl (hb hby d5_28) rfl ?_
    exact kt
  have c10 := (((F_n.ext E2).other W4 (Or.inr (slot_ne (Or.inl (hw _ (List.mem_of_getElem? (i := 51) rfl))) (Or.inl (hw _ (List.mem_of_getElem? (i := 20) rfl))) (by decide) (t := .long) (t' := (.array .long)) (by decide) (by decide)))).keep K8 (ninS ne_o0_b2 nin0))
  obtain ⟨T11, h11, X11, e11, W11, st11⟩ := putF X8 hx hZ hown (host := "") (Or.inl (hw _ (List.mem_of_getElem? (i := 50) rfl))) Via.refl rfl c10 (((E_o0.ext E2).wr W4).keep K8) (Or.inl (hw _ (List.mem_of_getElem? (i := 51) rfl))) (hw _ (List.mem_of_getElem? (i := 4) rfl)) (ty := .long) (by decide) rfl rfl (g := (mkF m 29 #[.val (.ref o0), .val (.int p1)] [(.long (p1.toInt64)), (.ref o0)])) rfl rfl (hb hby d5_29)
  have Fw11 := c10.same W11
  have Z12 : n0 ≤ h11.size := Nat.le_trans Z9 (Nat.le_of_eq W11.size.symm)
  have Z12h : h0.size ≤ h11.size := Nat.le_trans Z9h (Nat.le_of_eq W11.size.symm)
  obtain ⟨lc11, X11, N11⟩ := own_pack1 X11 N8 g_o0
  refine own_thr (a := T11.setTop (mkF m 32 #[.val (.ref o0), .val (.int p1)] [])) (fun t kt => st11 t kt) ?_
  have c13 := ((Fw4.keep K8 (ninS ne_o0_b2 nin0)).other W11 (Or.inr (slot_ne (Or.inl (hw _ (List.mem_of_getElem? (i := 20) rfl))) (Or.inl (hw _ (List.mem_of_getElem? (i := 51) rfl))) (by decide) (t := (.array .long)) (t' := .long) (by decide) (by decide))))
  exact own_end X11 hlk (v := none) (fun _ => rfl) (fun fs hr => X11.returnOut hx Bd.returns (hb hby d5_32) hr) (by rw [e11]; exact ⟨b2, rfl, N11, (((((Keep.refl h0 [o0]).ext E2).wr W4 (Or.inl (List.mem_of_getElem? (i := 0) rfl))).trans K8 (allS (Or.inr sz_b2) all0)).wr W11 (Or.inl (List.mem_of_getElem? (i := 0) rfl))), ((((E_o0.ext E2).wr W4).keep K8).wr W11), c13, Fw11, (o8_0.other W11 (Ne.symm ne_o0_b2)), sz_b2⟩) (by decide : 1 ≤ _) (by decide : 4 ≤ _)
theorem d9_0 : decode prog_12_method_6_code 0 = .ok (.aload_n 0, 1) := by decide +kernel
theorem d9_1 : decode prog_12_method_6_code 1 = .ok (.getfield 13, 3) := by decide +kernel
theorem d9_4 : decode prog_12_method_6_code 4 = .ok (.iload_n 1, 1) := by decide +kernel
theorem d9_5 : decode prog_12_method_6_code 5 = .ok (.aload_n 0, 1) := by decide +kernel
theorem d9_6 : decode prog_12_method_6_code 6 = .ok (.dup, 1) := by decide +kernel
theorem d9_7 : decode prog_12_method_6_code 7 = .ok (.getfield 41, 3) := by decide +kernel
theorem d9_10 : decode prog_12_method_6_code 10 = .ok (.dup2_x1, 1) := by decide +kernel
theorem d9_11 : decode prog_12_method_6_code 11 = .ok (.lconst 1, 1) := by decide +kernel
theorem d9_12 : decode prog_12_method_6_code 12 = .ok (.ladd, 1) := by decide +kernel
theorem d9_13 : decode prog_12_method_6_code 13 = .ok (.putfield 41, 3) := by decide +kernel
theorem d9_16 : decode prog_12_method_6_code 16 = .ok (.lastore, 1) := by decide +kernel
theorem d9_17 : decode prog_12_method_6_code 17 = .ok (.return_, 1) := by decide +kernel
theorem ef_rmNu (m : MethodId) (o0 : Addr) (p1 : Int32)  : entryFrame m #[(.ref o0), (.int p1)] 2 = mkF m 0 #[.val (.ref o0), .val (.int p1)] [] := by first |  (simp [entryFrame, mkF, argsToLocals, Value.category]; done) | rfl
def Q_rmNu (Z : State) (o0 : Addr) (p1 : Int32) (B : Addr) (nx : Int64) (n : Int32) (x : Int32 → Int64) (h0 : Heap) (n0 : Nat) (v : Option Value) (h : Heap) (L : List Loc) : Prop := v = none ∧ Fr n0 L ∧ Keep h0 h [o0, B] ∧ Exa Z h o0 "dev/chainlatch/bucket/Serials" ∧ Fld Z h o0 "dev/chainlatch/bucket/Serials" "bySlot" "[J" (.ref B) ∧ Fld Z h o0 "dev/chainlatch/bucket/Serials" "next" "J" (.long (nx + (1 : Int64))) ∧ own_AL Z h B n (own_upL x p1 nx)
set_option maxRecDepth 65536 in
set_option maxHeartbeats 40000000 in
theorem rmNu (l : Launch) (Z : State) (a0 : Array Value) (hw : ∀ d ∈ tables_1, d.before a0 Z = true) (ws : List Jvm.Cond) (o0 : Addr) (p1 : Int32) (B : Addr) (nx : Int64) (n : Int32) (x : Int32 → Int64) (h0 : Heap) (n0 : Nat) (Z0 : n0 ≤ h0.size) (E_o0 : Exa Z h0 o0 "dev/chainlatch/bucket/Serials") (F_bySlot_o0 : Fld Z h0 o0 "dev/chainlatch/bucket/Serials" "bySlot" "[J" (.ref B)) (F_next_o0 : Fld Z h0 o0 "dev/chainlatch/bucket/Serials" "next" "J" (.long nx)) (V_B : own_AL Z h0 B n x) (g_o0 : n0 ≤ o0) (g_B : n0 ≤ B) (ne_o0_B : o0 ≠ B) (hp0 : ¬ p1 < 0) (hp1 : p1 < n) :
    MetFree l (⟨"dev/chainlatch/bucket/Serials", "number", "(I)V"⟩ : MethodName) (head1 (Jvm.Cond.code (⟨"dev/chainlatch/bucket/Serials", "number", "(I)V"⟩ : MethodName) prog_12_method_6_code 2 none :: ws) ({ frames := 0, cells := 0, slots := 0, locals := 0 } : Room)) (fun a U => a = #[(.ref o0), (.int p1)] ∧ Z.Warmed39 U.vm ∧ U.heap = h0) (fun _ _ _ _ _ => True) (fun _ U o U' => ∃ v L, o = .returned v ∧ Q_rmNu Z o0 p1 B nx n x h0 n0 v U'.heap L ∧ FrameEnd U o U' L ({ frames := 0, cells := 0, slots := 0, locals := 0 } : Room).cells ({ frames := 0, cells := 0, slots := 0, locals := 0 } : Room).slots) := by
  refine MetFree.of_bodySF (plainFor_of_name pn_dev_chainlatch_bucket_Serials) hisR ?_
  intro p e s m args below meth c s₁ Bd hml0 hP hK
  obtain ⟨rfl, hZ, hh⟩ := hP
  have hx := Bd.exec
  have hby := Bd.bytes
  have hml : c.maxLocals = 2 := hml0
  have hown : s.vm.findClass "dev/chainlatch/bucket/Serials" = some m.cls := findClass_of_methodNamed Bd.named
  have hnm := (name_of_methodNamed Bd.named Bd.method).1
  have hlk := Bd.notSynchronized
  have X0 : Stand p l e ({ frames := 0, cells := 0, slots := 0, locals := 0 } : Room) s m #[(.ref o0), (.int p1)] below meth c s₁ [] 0 0 := Stand.of_body Bd
  have e0 : s₁.heap = h0 := by rw [← hh, Bd.state]; rfl
  have N0 := Fr.nil n0
  show own_G p.tables e below s (Q_rmNu Z o0 p1 B nx n x h0 n0) ({ frames := 0, cells := 0, slots := 0, locals := 0 } : Room).cells ({ frames := 0, cells := 0, slots := 0, locals := 0 } : Room).slots _
  refine own_thr (a := s₁.setTop (mkF m 0 #[.val (.ref o0), .val (.int p1)] [])) (fun t kt => castTop (ef_rmNu m o0 p1) kt) ?_
  refine own_thr (a := s₁.setTop (mkF m 1 #[.val (.ref o0), .val (.int p1)] [(.ref o0)])) (fun t kt => ?_) ?_
  · show Steps p.tables e below (s₁.setTop (mkF m 0 #[.val (.ref o0), .val (.int p1)] [])) _
    refine XS.aloadN X0.here hx rfl (hb hby d9_0) rfl rfl ?_
    exact kt
  obtain ⟨T1, X1, e1, st1⟩ := getF X0 hx hZ hown (host := "") (Or.inl (hw _ (List.mem_of_getElem? (i := 19) rfl))) Via.refl e0 F_bySlot_o0 (g := (mkF m 1 #[.val (.ref o0), .val (.int p1)] [(.ref o0)])) rfl rfl (hb hby d9_1)
  refine own_thr (a := T1.setTop (mkF m 4 #[.val (.ref o0), .val (.int p1)] [(.ref B)])) (fun t kt => st1 t kt) ?_
  refine own_thr (a := T1.setTop (mkF m 7 #[.val (.ref o0), .val (.int p1)] [(.ref o0), (.ref o0), (.int p1), (.ref B)])) (fun t kt => ?_) ?_
  · show Steps p.tables e below (T1.setTop (mkF m 4 #[.val (.ref o0), .val (.int p1)] [(.ref B)])) _
    refine XS.iloadN X1.here hx rfl (hb hby d9_4) rfl ?_
    refine XS.aloadN X1.here hx rfl (hb hby d9_5) rfl rfl ?_
    refine XS.dup X1.here hx rfl (hb hby d9_6) rfl rfl ?_
    exact kt
  obtain ⟨T2, X2, e2, st2⟩ := getF X1 hx hZ hown (host := "") (Or.inl (hw _ (List.mem_of_getElem? (i := 50) rfl))) Via.refl e1 F_next_o0 (g := (mkF m 7 #[.val (.ref o0), .val (.int p1)] [(.ref o0), (.ref o0), (.int p1), (.ref B)])) rfl rfl (hb hby d9_7)
  refine own_thr (a := T2.setTop (mkF m 10 #[.val (.ref o0), .val (.int p1)] [(.long nx), (.ref o0), (.int p1), (.ref B)])) (fun t kt => st2 t kt) ?_
  refine own_thr (a := T2.setTop (mkF m 13 #[.val (.ref o0), .val (.int p1)] [(.long (nx + (1 : Int64))), (.ref o0), (.long nx), (.int p1), (.ref B)])) (fun t kt => ?_) ?_
  · show Steps p.tables e below (T2.setTop (mkF m 10 #[.val (.ref o0), .val (.int p1)] [(.long nx), (.ref o0), (.int p1), (.ref B)])) _
    jvm_step X2.here [X2.here.top, hx, (hb hby d9_10), Value.category]
    refine XS.lconst X2.here hx rfl (hb hby d9_11) ?_
    refine XS.ladd X2.here hx rfl (hb hby d9_12) rfl ?_
    exact kt
  obtain ⟨T3, h3, X3, e3, W3, st3⟩ := putF X2 hx hZ hown (host := "") (Or.inl (hw _ (List.mem_of_getElem? (i := 50) rfl))) Via.refl e2 F_next_o0 E_o0 (Or.inl (hw _ (List.mem_of_getElem? (i := 51) rfl))) (hw _ (List.mem_of_getElem? (i := 4) rfl)) (ty := .long) (by decide) rfl rfl (g := (mkF m 13 #[.val (.ref o0), .val (.int p1)] [(.long (nx + (1 : Int64))), (.ref o0), (.long nx), (.int p1), (.ref B)])) rfl rfl (hb hby d9_13)
  have Fw3 := F_next_o0.same W3
  have Z4 : n0 ≤ h3.size := Nat.le_trans Z0 (Nat.le_of_eq W3.size.symm)
  have Z4h : h0.size ≤ h3.size := Nat.le_trans (Nat.le_refl h0.size) (Nat.le_of_eq W3.size.symm)
  obtain ⟨lc3, X3, N3⟩ := own_pack1 X3 N0 g_o0
  refine own_thr (a := T3.setTop (mkF m 16 #[.val (.ref o0), .val (.int p1)] [(.long nx), (.int p1), (.ref B)])) (fun t kt => st3 t kt) ?_
  obtain ⟨cl5, Ar5, S5, M5, H5⟩ := id (V_B.other W3 (Ne.symm ne_o0_B))
  have hin5 : ¬ (p1 < 0 ∨ cl5.slots.size ≤ (p1).toNatClampNeg) := inb_of S5 ⟨hp0, hp1⟩
  obtain ⟨T5, h5, X5, e5, W5, st5⟩ := stJ X3 hx hZ e3 Ar5 (j := p1) hin5 (g := (mkF m 16 #[.val (.ref o0), .val (.int p1)] [(.long nx), (.int p1), (.ref B)])) rfl rfl (hb hby d9_16)
  have Z6 : n0 ≤ h5.size := Nat.le_trans Z4 (Nat.le_of_eq W5.size.symm)
  have Z6h : h0.size ≤ h5.size := Nat.le_trans Z4h (Nat.le_of_eq W5.size.symm)
  have V5 : own_AL Z h5 B n (own_upL x p1 nx) := own_AL.set Ar5 S5 M5 H5 hin5 W5
  obtain ⟨lc5, X5, N5⟩ := own_pack1 X5 N3 g_B
  refine own_thr (a := T5.setTop (mkF m 17 #[.val (.ref o0), .val (.int p1)] [])) (fun t kt => st5 t kt) ?_
  have c7 := ((F_bySlot_o0.other W3 (Or.inr (slot_ne (Or.inl (hw _ (List.mem_of_getElem? (i := 20) rfl))) (Or.inl (hw _ (List.mem_of_getElem? (i := 51) rfl))) (by decide) (t := (.array .long)) (t' := .long) (by decide) (by decide)))).other W5 (Or.inl ne_o0_B))
  exact own_end X5 hlk (v := none) (fun _ => rfl) (fun fs hr => X5.returnOut hx Bd.returns (hb hby d9_17) hr) (by rw [e5]; exact ⟨rfl, N5, (((Keep.refl h0 [o0, B]).wr W3 (Or.inl (List.mem_of_getElem? (i := 0) rfl))).wr W5 (Or.inl (List.mem_of_getElem? (i := 1) rfl))), ((E_o0.wr W3).wr W5), c7, (Fw3.other W5 (Or.inl ne_o0_B)), V5⟩) (by decide : 0 ≤ _) (by decide : 0 ≤ _)
theorem d3_8 : decode prog_12_method_8_code 8 = .ok (.aload_n 1, 1) := by decide +kernel
theorem d3_9 : decode prog_12_method_8_code 9 = .ok (.arraylength, 1) := by decide +kernel
theorem d3_10 : decode prog_12_method_8_code 10 = .ok (.newarray .long, 2) := by decide +kernel
theorem d3_12 : decode prog_12_method_8_code 12 = .ok (.astore_n 2, 1) := by decide +kernel
theorem d3_13 : decode prog_12_method_8_code 13 = .ok (.iconst 0, 1) := by decide +kernel
theorem d3_14 : decode prog_12_method_8_code 14 = .ok (.istore_n 3, 1) := by decide +kernel
theorem d3_15 : decode prog_12_method_8_code 15 = .ok (.iload_n 3, 1) := by decide +kernel
theorem d3_16 : decode prog_12_method_8_code 16 = .ok (.aload_n 1, 1) := by decide +kernel
theorem d3_17 : decode prog_12_method_8_code 17 = .ok (.arraylength, 1) := by decide +kernel
theorem d3_18 : decode prog_12_method_8_code 18 = .ok (.if_icmp .ge 28, 3) := by decide +kernel
theorem d3_21 : decode prog_12_method_8_code 21 = .ok (.aload_n 1, 1) := by decide +kernel
theorem d3_22 : decode prog_12_method_8_code 22 = .ok (.iload_n 3, 1) := by decide +kernel
theorem d3_23 : decode prog_12_method_8_code 23 = .ok (.iaload, 1) := by decide +kernel
theorem d3_24 : decode prog_12_method_8_code 24 = .ok (.ifCond .eq 16, 3) := by decide +kernel
theorem d3_40 : decode prog_12_method_8_code 40 = .ok (.iinc 3 1, 3) := by decide +kernel
theorem d3_43 : decode prog_12_method_8_code 43 = .ok (.goto (-28), 3) := by decide +kernel
theorem d3_46 : decode prog_12_method_8_code 46 = .ok (.aload_n 0, 1) := by decide +kernel
theorem d3_47 : decode prog_12_method_8_code 47 = .ok (.aload_n 2, 1) := by decide +kernel
theorem d3_48 : decode prog_12_method_8_code 48 = .ok (.putfield 13, 3) := by decide +kernel
theorem d3_51 : decode prog_12_method_8_code 51 = .ok (.return_, 1) := by decide +kernel
theorem d3_27 : decode prog_12_method_8_code 27 = .ok (.aload_n 2, 1) := by decide +kernel
theorem d3_28 : decode prog_12_method_8_code 28 = .ok (.iload_n 3, 1) := by decide +kernel
theorem d3_29 : decode prog_12_method_8_code 29 = .ok (.aload_n 0, 1) := by decide +kernel
theorem d3_30 : decode prog_12_method_8_code 30 = .ok (.getfield 13, 3) := by decide +kernel
theorem d3_33 : decode prog_12_method_8_code 33 = .ok (.aload_n 1, 1) := by decide +kernel
theorem d3_34 : decode prog_12_method_8_code 34 = .ok (.iload_n 3, 1) := by decide +kernel
theorem d3_35 : decode prog_12_method_8_code 35 = .ok (.iaload, 1) := by decide +kernel
theorem d3_36 : decode prog_12_method_8_code 36 = .ok (.iconst 1, 1) := by decide +kernel
theorem d3_37 : decode prog_12_method_8_code 37 = .ok (.isub, 1) := by decide +kernel
theorem d3_38 : decode prog_12_method_8_code 38 = .ok (.laload, 1) := by decide +kernel
theorem d3_39 : decode prog_12_method_8_code 39 = .ok (.lastore, 1) := by decide +kernel
theorem ef_rmR (m : MethodId) (o0 : Addr) (G : Addr)  : entryFrame m #[(.ref o0), (.ref G)] 4 = mkF m 0 #[.val (.ref o0), .val (.ref G), .unset, .unset] [] := by first |  (simp [entryFrame, mkF, argsToLocals, Value.category]; done) | rfl
def Q_rmR (Z : State) (o0 : Addr) (G : Addr) (B : Addr) (n : Int32) (x : Int32 → Int64) (kG : ClassId) (r0 : Int32) (r1 : Int32) (r2 : Int32) (r3 : Int32) (h0 : Heap) (n0 : Nat) (v : Option Value) (h : Heap) (L : List Loc) : Prop := ∃ (F : Addr) (kF : ClassId), v = none ∧ Fr n0 L ∧ Keep h0 h [o0] ∧ Exa Z h o0 "dev/chainlatch/bucket/Serials" ∧ Fld Z h o0 "dev/chainlatch/bucket/Serials" "bySlot" "[J" (.ref F) ∧ Arv Z h F kF .long (4 : Int32) [(.long (own_o x r0)), (.long (own_o x r1)), (.long (own_o x r2)), (.long (own_o x r3))] (.long (0 : Int64)) ∧ h0.size ≤ F
set_option maxRecDepth 65536 in
set_option maxHeartbeats 40000000 in
theorem rmR (l : Launch) (Z : State) (a0 : Array Value) (hw : ∀ d ∈ tables_1, d.before a0 Z = true) (ws : List Jvm.Cond) (o0 : Addr) (G : Addr) (B : Addr) (n : Int32) (x : Int32 → Int64) (kG : ClassId) (r0 : Int32) (r1 : Int32) (r2 : Int32) (r3 : Int32) (h0 : Heap) (n0 : Nat) (Z0 : n0 ≤ h0.size) (E_o0 : Exa Z h0 o0 "dev/chainlatch/bucket/Serials") (F_b : Fld Z h0 o0 "dev/chainlatch/bucket/Serials" "bySlot" "[J" (.ref B)) (V_B : own_AL Z h0 B n x) (V_G : Arv Z h0 G kG .int (4 : Int32) [(.int r0), (.int r1), (.int r2), (.int r3)] (.int (0 : Int32))) (g_o0 : n0 ≤ o0) (hr0 : ¬ r0 = 0 → ¬ (r0 - (1 : Int32)) < 0 ∧ (r0 - (1 : Int32)) < n) (hr1 : ¬ r1 = 0 → ¬ (r1 - (1 : Int32)) < 0 ∧ (r1 - (1 : Int32)) < n) (hr2 : ¬ r2 = 0 → ¬ (r2 - (1 : Int32)) < 0 ∧ (r2 - (1 : Int32)) < n) (hr3 : ¬ r3 = 0 → ¬ (r3 - (1 : Int32)) < 0 ∧ (r3 - (1 : Int32)) < n) :
    MetFree l (⟨"dev/chainlatch/bucket/Serials", "remap", "([I)V"⟩ : MethodName) (head1 (Jvm.Cond.code (⟨"dev/chainlatch/bucket/Serials", "remap", "([I)V"⟩ : MethodName) prog_12_method_8_code 4 none :: ws) ({ frames := 0, cells := 1, slots := 4, locals := 0 } : Room)) (fun a U => a = #[(.ref o0), (.ref G)] ∧ Z.Warmed39 U.vm ∧ U.heap = h0) (fun _ _ _ _ _ => True) (fun _ U o U' => ∃ v L, o = .returned v ∧ Q_rmR Z o0 G B n x kG r0 r1 r2 r3 h0 n0 v U'.heap L ∧ FrameEnd U o U' L ({ frames := 0, cells := 1, slots := 4, locals := 0 } : Room).cells ({ frames := 0, cells := 1, slots := 4, locals := 0 } : Room).slots) := by
  refine MetFree.of_bodySF (plainFor_of_name pn_dev_chainlatch_bucket_Serials) hisR ?_
  intro p e s m args below meth c s₁ Bd hml0 hP hK
  obtain ⟨rfl, hZ, hh⟩ := hP
  have hx := Bd.exec
  have hby := Bd.bytes
  have hml : c.maxLocals = 4 := hml0
  have hown : s.vm.findClass "dev/chainlatch/bucket/Serials" = some m.cls := findClass_of_methodNamed Bd.named
  have hnm := (name_of_methodNamed Bd.named Bd.method).1
  have hlk := Bd.notSynchronized
  have X0 : Stand p l e ({ frames := 0, cells := 1, slots := 4, locals := 0 } : Room) s m #[(.ref o0), (.ref G)] below meth c s₁ [] 0 0 := Stand.of_body Bd
  have e0 : s₁.heap = h0 := by rw [← hh, Bd.state]; rfl
  have N0 := Fr.nil n0
  show own_G p.tables e below s (Q_rmR Z o0 G B n x kG r0 r1 r2 r3 h0 n0) ({ frames := 0, cells := 1, slots := 4, locals := 0 } : Room).cells ({ frames := 0, cells := 1, slots := 4, locals := 0 } : Room).slots _
  refine own_thr (a := s₁.setTop (mkF m 0 #[.val (.ref o0), .val (.ref G), .unset, .unset] [])) (fun t kt => castTop (ef_rmR m o0 G) kt) ?_
  refine own_thr (a := s₁.setTop (mkF m 1 #[.val (.ref o0), .val (.ref G), .unset, .unset] [(.ref o0)])) (fun t kt => ?_) ?_
  · show Steps p.tables e below (s₁.setTop (mkF m 0 #[.val (.ref o0), .val (.ref G), .unset, .unset] [])) _
    refine XS.aloadN X0.here hx rfl (hb hby d3_0) rfl rfl ?_
    exact kt
  obtain ⟨T1, X1, e1, st1⟩ := getF X0 hx hZ hown (host := "") (Or.inl (hw _ (List.mem_of_getElem? (i := 19) rfl))) Via.refl e0 F_b (g := (mkF m 1 #[.val (.ref o0), .val (.ref G), .unset, .unset] [(.ref o0)])) rfl rfl (hb hby d3_1)
  refine own_thr (a := T1.setTop (mkF m 4 #[.val (.ref o0), .val (.ref G), .unset, .unset] [(.ref B)])) (fun t kt => st1 t kt) ?_
  refine own_thr (a := T1.setTop (mkF m 9 #[.val (.ref o0), .val (.ref G), .unset, .unset] [(.ref G)])) (fun t kt => ?_) ?_
  · show Steps p.tables e below (T1.setTop (mkF m 4 #[.val (.ref o0), .val (.ref G), .unset, .unset] [(.ref B)])) _
    refine XS.ifnonnullYes X1.here hx rfl (pc0 := 4) (pc' := 8) rfl (hb hby d3_4) rfl (by decide) (by decide) ?_
    refine XS.aloadN X1.here hx rfl (hb hby d3_8) rfl rfl ?_
    exact kt
  obtain ⟨cl2, Ar2, -, S2, M2, -, -⟩ := id V_G
  refine own_thr (a := T1.setTop (mkF m 10 #[.val (.ref o0), .val (.ref G), .unset, .unset] [(.int (4 : Int32))])) (fun t kt => ?_) ?_
  · show Steps p.tables e below (T1.setTop (mkF m 9 #[.val (.ref o0), .val (.ref G), .unset, .unset] [(.ref G)])) _
    refine X1.arraylength hx (by rw [e1]; exact Ar2.1) (State.isArrayOf_alike hZ.alike Ar2.2.1) (g := (mkF m 9 #[.val (.ref o0), .val (.ref G), .unset, .unset] [(.ref G)])) rfl rfl (hb hby d3_9) _ ?_
    rw [len_of S2 M2]
    exact kt
  obtain ⟨T3, h3, k3, X3, e3, E3, A3, st3⟩ := newP X1 hx hZ (hw _ (List.mem_of_getElem? (i := 33) rfl)) e1 (g := (mkF m 10 #[.val (.ref o0), .val (.ref G), .unset, .unset] [(.int (4 : Int32))])) rfl (hb hby d3_10) rfl (by decide) (cap := 4) (by decide) (by decide) (by decide : 0 + 1 ≤ _) (by decide : 0 + 4 ≤ _)
  obtain ⟨b3, g3⟩ : ∃ z, z = h0.size := ⟨_, rfl⟩
  rw [← g3] at A3 st3
  have g_b3 : n0 ≤ b3 := Nat.le_trans Z0 (Nat.le_of_eq g3.symm)
  have sz_b3 : h0.size ≤ b3 := Nat.le_trans (Nat.le_refl h0.size) (Nat.le_of_eq g3.symm)
  have lt_o0_b3 : o0 < b3 := Nat.lt_of_lt_of_le E_o0.lt (Nat.le_of_eq g3.symm)
  have ne_o0_b3 : o0 ≠ b3 := Nat.ne_of_lt lt_o0_b3
  have lt_B_b3 : B < b3 := Nat.lt_of_lt_of_le V_B.lt (Nat.le_of_eq g3.symm)
  have ne_B_b3 : B ≠ b3 := Nat.ne_of_lt lt_B_b3
  have lt_G_b3 : G < b3 := Nat.lt_of_lt_of_le V_G.lt (Nat.le_of_eq g3.symm)
  have ne_G_b3 : G ≠ b3 := Nat.ne_of_lt lt_G_b3
  have V_b3 : Arv Z h3 b3 k3 .long (4 : Int32) [(.long (0 : Int64)), (.long (0 : Int64)), (.long (0 : Int64)), (.long (0 : Int64))] (.long (0 : Int64)) := (Arv.new A3 (by decide)).pad (pad_rep [] (.long (0 : Int64)) 4)
  have Z4 : n0 ≤ h3.size := Nat.le_trans Z0 E3.1
  have Z4h : h0.size ≤ h3.size := Nat.le_trans (Nat.le_refl h0.size) E3.1
  refine own_thr (a := T3.setTop (mkF m 12 #[.val (.ref o0), .val (.ref G), .unset, .unset] [(.ref b3)])) (fun t kt => st3 t kt) ?_
  refine own_thr (a := T3.setTop (mkF m 17 #[.val (.ref o0), .val (.ref G), .val (.ref b3), .val (.int (0 : Int32))] [(.ref G), (.int (0 : Int32))])) (fun t kt => ?_) ?_
  · show Steps p.tables e below (T3.setTop (mkF m 12 #[.val (.ref o0), .val (.ref G), .unset, .unset] [(.ref b3)])) _
    refine XS.astoreN X3.here hx rfl (hb hby d3_12) rfl rfl (l' := #[.val (.ref o0), .val (.ref G), .val (.ref b3), .unset]) rfl ?_
    refine XS.iconst X3.here hx rfl (hb hby d3_13) ?_
    refine XS.istoreN X3.here hx rfl (hb hby d3_14) rfl (l' := #[.val (.ref o0), .val (.ref G), .val (.ref b3), .val (.int (0 : Int32))]) rfl ?_
    refine XS.iloadN X3.here hx rfl (hb hby d3_15) rfl ?_
    refine XS.aloadN X3.here hx rfl (hb hby d3_16) rfl rfl ?_
    exact kt
  obtain ⟨cl5, Ar5, -, S5, M5, -, -⟩ := id (V_G.ext E3)
  refine own_thr (a := T3.setTop (mkF m 23 #[.val (.ref o0), .val (.ref G), .val (.ref b3), .val (.int (0 : Int32))] [(.int (0 : Int32)), (.ref G)])) (fun t kt => ?_) ?_
  · show Steps p.tables e below (T3.setTop (mkF m 17 #[.val (.ref o0), .val (.ref G), .val (.ref b3), .val (.int (0 : Int32))] [(.ref G), (.int (0 : Int32))])) _
    refine X3.arraylength hx (by rw [e3]; exact Ar5.1) (State.isArrayOf_alike hZ.alike Ar5.2.1) (g := (mkF m 17 #[.val (.ref o0), .val (.ref G), .val (.ref b3), .val (.int (0 : Int32))] [(.ref G), (.int (0 : Int32))])) rfl rfl (hb hby d3_17) _ ?_
    rw [len_of S5 M5]
    refine XS.icmpNo X3.here hx rfl (hb hby d3_18) rfl (tlt (by decide)).2.1 ?_
    refine XS.aloadN X3.here hx rfl (hb hby d3_21) rfl rfl ?_
    refine XS.iloadN X3.here hx rfl (hb hby d3_22) rfl ?_
    exact kt
  obtain ⟨cl6, Ar6, -, S6, M6, H6, -⟩ := id (V_G.ext E3)
  have hin6 : ¬ ((0 : Int32) < 0 ∨ cl6.slots.size ≤ ((0 : Int32)).toNatClampNeg) := inb_of S6 ⟨by decide, by decide⟩
  have hat6 : cl6.slots[((0 : Int32)).toNatClampNeg]? = some (.int r0) := Has.at H6 hin6 rfl
  refine own_thr (a := T3.setTop (mkF m 24 #[.val (.ref o0), .val (.ref G), .val (.ref b3), .val (.int (0 : Int32))] [(.int r0)])) (fun t kt => ?_) ?_
  · show Steps p.tables e below (T3.setTop (mkF m 23 #[.val (.ref o0), .val (.ref G), .val (.ref b3), .val (.int (0 : Int32))] [(.int (0 : Int32)), (.ref G)])) _
    refine X3.iaload hx (j := (0 : Int32)) (v := (.int r0)) (by rw [e3]; exact Ar6.1) (State.isArrayOf_alike hZ.alike Ar6.2.1) Ar6.2.2 hin6 hat6 (g := (mkF m 23 #[.val (.ref o0), .val (.ref G), .val (.ref b3), .val (.int (0 : Int32))] [(.int (0 : Int32)), (.ref G)])) rfl rfl (hb hby d3_23) _ ?_
    exact kt
  by_cases hc7 : r0 = (0 : Int32)
  · refine own_thr (a := T3.setTop (mkF m 17 #[.val (.ref o0), .val (.ref G), .val (.ref b3), .val (.int (1 : Int32))] [(.ref G), (.int (1 : Int32))])) (fun t kt => ?_) ?_
    · show Steps p.tables e below (T3.setTop (mkF m 24 #[.val (.ref o0), .val (.ref G), .val (.ref b3), .val (.int (0 : Int32))] [(.int r0)])) _
      refine XS.ifYes X3.here hx rfl (pc0 := 24) (pc' := 40) rfl (hb hby d3_24) rfl ((if0 _ _).trans (teq hc7).1) (by decide) (by decide) ?_
      refine XS.iinc X3.here hx rfl (hb hby d3_40) rfl (l' := #[.val (.ref o0), .val (.ref G), .val (.ref b3), .val (.int (1 : Int32))]) rfl ?_
      refine XS.goto X3.here hx rfl (pc0 := 43) (pc' := 15) rfl (hb hby d3_43) (by decide) (by decide) ?_
      refine XS.iloadN X3.here hx rfl (hb hby d3_15) rfl ?_
      refine XS.aloadN X3.here hx rfl (hb hby d3_16) rfl rfl ?_
      exact kt
    obtain ⟨cl8, Ar8, -, S8, M8, -, -⟩ := id (V_G.ext E3)
    refine own_thr (a := T3.setTop (mkF m 23 #[.val (.ref o0), .val (.ref G), .val (.ref b3), .val (.int (1 : Int32))] [(.int (1 : Int32)), (.ref G)])) (fun t kt => ?_) ?_
    · show Steps p.tables e below (T3.setTop (mkF m 17 #[.val (.ref o0), .val (.ref G), .val (.ref b3), .val (.int (1 : Int32))] [(.ref G), (.int (1 : Int32))])) _
      refine X3.arraylength hx (by rw [e3]; exact Ar8.1) (State.isArrayOf_alike hZ.alike Ar8.2.1) (g := (mkF m 17 #[.val (.ref o0), .val (.ref G), .val (.ref b3), .val (.int (1 : Int32))] [(.ref G), (.int (1 : Int32))])) rfl rfl (hb hby d3_17) _ ?_
      rw [len_of S8 M8]
      refine XS.icmpNo X3.here hx rfl (hb hby d3_18) rfl (tlt (by decide)).2.1 ?_
      refine XS.aloadN X3.here hx rfl (hb hby d3_21) rfl rfl ?_
      refine XS.iloadN X3.here hx rfl (hb hby d3_22) rfl ?_
      exact kt
    obtain ⟨cl9, Ar9, -, S9, M9, H9, -⟩ := id (V_G.ext E3)
    have hin9 : ¬ ((1 : Int32) < 0 ∨ cl9.slots.size ≤ ((1 : Int32)).toNatClampNeg) := inb_of S9 ⟨by decide, by decide⟩
    have hat9 : cl9.slots[((1 : Int32)).toNatClampNeg]? = some (.int r1) := Has.at H9 hin9 rfl
    refine own_thr (a := T3.setTop (mkF m 24 #[.val (.ref o0), .val (.ref G), .val (.ref b3), .val (.int (1 : Int32))] [(.int r1)])) (fun t kt => ?_) ?_
    · show Steps p.tables e below (T3.setTop (mkF m 23 #[.val (.ref o0), .val (.ref G), .val (.ref b3), .val (.int (1 : Int32))] [(.int (1 : Int32)), (.ref G)])) _
      refine X3.iaload hx (j := (1 : Int32)) (v := (.int r1)) (by rw [e3]; exact Ar9.1) (State.isArrayOf_alike hZ.alike Ar9.2.1) Ar9.2.2 hin9 hat9 (g := (mkF m 23 #[.val (.ref o0), .val (.ref G), .val (.ref b3), .val (.int (1 : Int32))] [(.int (1 : Int32)), (.ref G)])) rfl rfl (hb hby d3_23) _ ?_
      exact kt
    by_cases hc10 : r1 = (0 : Int32)
    · refine own_thr (a := T3.setTop (mkF m 17 #[.val (.ref o0), .val (.ref G), .val (.ref b3), .val (.int (2 : Int32))] [(.ref G), (.int (2 : Int32))])) (fun t kt => ?_) ?_
      · show Steps p.tables e below (T3.setTop (mkF m 24 #[.val (.ref o0), .val (.ref G), .val (.ref b3), .val (.int (1 : Int32))] [(.int r1)])) _
        refine XS.ifYes X3.here hx rfl (pc0 := 24) (pc' := 40) rfl (hb hby d3_24) rfl ((if0 _ _).trans (teq hc10).1) (by decide) (by decide) ?_
        refine XS.iinc X3.here hx rfl (hb hby d3_40) rfl (l' := #[.val (.ref o0), .val (.ref G), .val (.ref b3), .val (.int (2 : Int32))]) rfl ?_
        refine XS.goto X3.here hx rfl (pc0 := 43) (pc' := 15) rfl (hb hby d3_43) (by decide) (by decide) ?_
        refine XS.iloadN X3.here hx rfl (hb hby d3_15) rfl ?_
        refine XS.aloadN X3.here hx rfl (hb hby d3_16) rfl rfl ?_
        exact kt
      obtain ⟨cl11, Ar11, -, S11, M11, -, -⟩ := id (V_G.ext E3)
      refine own_thr (a := T3.setTop (mkF m 23 #[.val (.ref o0), .val (.ref G), .val (.ref b3), .val (.int (2 : Int32))] [(.int (2 : Int32)), (.ref G)])) (fun t kt => ?_) ?_
      · show Steps p.tables e below (T3.setTop (mkF m 17 #[.val (.ref o0), .val (.ref G), .val (.ref b3), .val (.int (2 : Int32))] [(.ref G), (.int (2 : Int32))])) _
        refine X3.arraylength hx (by rw [e3]; exact Ar11.1) (State.isArrayOf_alike hZ.alike Ar11.2.1) (g := (mkF m 17 #[.val (.ref o0), .val (.ref G), .val (.ref b3), .val (.int (2 : Int32))] [(.ref G), (.int (2 : Int32))])) rfl rfl (hb hby d3_17) _ ?_
        rw [len_of S11 M11]
        refine XS.icmpNo X3.here hx rfl (hb hby d3_18) rfl (tlt (by decide)).2.1 ?_
        refine XS.aloadN X3.here hx rfl (hb hby d3_21) rfl rfl ?_
        refine XS.iloadN X3.here hx rfl (hb hby d3_22) rfl ?_
        exact kt
      obtain ⟨cl12, Ar12, -, S12, M12, H12, -⟩ := id (V_G.ext E3)
      have hin12 : ¬ ((2 : Int32) < 0 ∨ cl12.slots.size ≤ ((2 : Int32)).toNatClampNeg) := inb_of S12 ⟨by decide, by decide⟩
      have hat12 : cl12.slots[((2 : Int32)).toNatClampNeg]? = some (.int r2) := Has.at H12 hin12 rfl
      refine own_thr (a := T3.setTop (mkF m 24 #[.val (.ref o0), .val (.ref G), .val (.ref b3), .val (.int (2 : Int32))] [(.int r2)])) (fun t kt => ?_) ?_
      · show Steps p.tables e below (T3.setTop (mkF m 23 #[.val (.ref o0), .val (.ref G), .val (.ref b3), .val (.int (2 : Int32))] [(.int (2 : Int32)), (.ref G)])) _
        refine X3.iaload hx (j := (2 : Int32)) (v := (.int r2)) (by rw [e3]; exact Ar12.1) (State.isArrayOf_alike hZ.alike Ar12.2.1) Ar12.2.2 hin12 hat12 (g := (mkF m 23 #[.val (.ref o0), .val (.ref G), .val (.ref b3), .val (.int (2 : Int32))] [(.int (2 : Int32)), (.ref G)])) rfl rfl (hb hby d3_23) _ ?_
        exact kt
      by_cases hc13 : r2 = (0 : Int32)
      · refine own_thr (a := T3.setTop (mkF m 17 #[.val (.ref o0), .val (.ref G), .val (.ref b3), .val (.int (3 : Int32))] [(.ref G), (.int (3 : Int32))])) (fun t kt => ?_) ?_
        · show Steps p.tables e below (T3.setTop (mkF m 24 #[.val (.ref o0), .val (.ref G), .val (.ref b3), .val (.int (2 : Int32))] [(.int r2)])) _
          refine XS.ifYes X3.here hx rfl (pc0 := 24) (pc' := 40) rfl (hb hby d3_24) rfl ((if0 _ _).trans (teq hc13).1) (by decide) (by decide) ?_
          refine XS.iinc X3.here hx rfl (hb hby d3_40) rfl (l' := #[.val (.ref o0), .val (.ref G), .val (.ref b3), .val (.int (3 : Int32))]) rfl ?_
          refine XS.goto X3.here hx rfl (pc0 := 43) (pc' := 15) rfl (hb hby d3_43) (by decide) (by decide) ?_
          refine XS.iloadN X3.here hx rfl (hb hby d3_15) rfl ?_
          refine XS.aloadN X3.here hx rfl (hb hby d3_16) rfl rfl ?_
          exact kt
        obtain ⟨cl14, Ar14, -, S14, M14, -, -⟩ := id (V_G.ext E3)
        refine own_thr (a := T3.setTop (mkF m 23 #[.val (.ref o0), .val (.ref G), .val (.ref b3), .val (.int (3 : Int32))] [(.int (3 : Int32)), (.ref G)])) (fun t kt => ?_) ?_
        · show Steps p.tables e below (T3.setTop (mkF m 17 #[.val (.ref o0), .val (.ref G), .val (.ref b3), .val (.int (3 : Int32))] [(.ref G), (.int (3 : Int32))])) _
          refine X3.arraylength hx (by rw [e3]; exact Ar14.1) (State.isArrayOf_alike hZ.alike Ar14.2.1) (g := (mkF m 17 #[.val (.ref o0), .val (.ref G), .val (.ref b3), .val (.int (3 : Int32))] [(.ref G), (.int (3 : Int32))])) rfl rfl (hb hby d3_17) _ ?_
          rw [len_of S14 M14]
          refine XS.icmpNo X3.here hx rfl (hb hby d3_18) rfl (tlt (by decide)).2.1 ?_
          refine XS.aloadN X3.here hx rfl (hb hby d3_21) rfl rfl ?_
          refine XS.iloadN X3.here hx rfl (hb hby d3_22) rfl ?_
          exact kt
        obtain ⟨cl15, Ar15, -, S15, M15, H15, -⟩ := id (V_G.ext E3)
        have hin15 : ¬ ((3 : Int32) < 0 ∨ cl15.slots.size ≤ ((3 : Int32)).toNatClampNeg) := inb_of S15 ⟨by decide, by decide⟩
        have hat15 : cl15.slots[((3 : Int32)).toNatClampNeg]? = some (.int r3) := Has.at H15 hin15 rfl
        refine own_thr (a := T3.setTop (mkF m 24 #[.val (.ref o0), .val (.ref G), .val (.ref b3), .val (.int (3 : Int32))] [(.int r3)])) (fun t kt => ?_) ?_
        · show Steps p.tables e below (T3.setTop (mkF m 23 #[.val (.ref o0), .val (.ref G), .val (.ref b3), .val (.int (3 : Int32))] [(.int (3 : Int32)), (.ref G)])) _
          refine X3.iaload hx (j := (3 : Int32)) (v := (.int r3)) (by rw [e3]; exact Ar15.1) (State.isArrayOf_alike hZ.alike Ar15.2.1) Ar15.2.2 hin15 hat15 (g := (mkF m 23 #[.val (.ref o0), .val (.ref G), .val (.ref b3), .val (.int (3 : Int32))] [(.int (3 : Int32)), (.ref G)])) rfl rfl (hb hby d3_23) _ ?_
          exact kt
        by_cases hc16 : r3 = (0 : Int32)
        · refine own_thr (a := T3.setTop (mkF m 17 #[.val (.ref o0), .val (.ref G), .val (.ref b3), .val (.int (4 : Int32))] [(.ref G), (.int (4 : Int32))])) (fun t kt => ?_) ?_
          · show Steps p.tables e below (T3.setTop (mkF m 24 #[.val (.ref o0), .val (.ref G), .val (.ref b3), .val (.int (3 : Int32))] [(.int r3)])) _
            refine XS.ifYes X3.here hx rfl (pc0 := 24) (pc' := 40) rfl (hb hby d3_24) rfl ((if0 _ _).trans (teq hc16).1) (by decide) (by decide) ?_
            refine XS.iinc X3.here hx rfl (hb hby d3_40) rfl (l' := #[.val (.ref o0), .val (.ref G), .val (.ref b3), .val (.int (4 : Int32))]) rfl ?_
            refine XS.goto X3.here hx rfl (pc0 := 43) (pc' := 15) rfl (hb hby d3_43) (by decide) (by decide) ?_
            refine XS.iloadN X3.here hx rfl (hb hby d3_15) rfl ?_
            refine XS.aloadN X3.here hx rfl (hb hby d3_16) rfl rfl ?_
            exact kt
          obtain ⟨cl17, Ar17, -, S17, M17, -, -⟩ := id (V_G.ext E3)
          refine own_thr (a := T3.setTop (mkF m 48 #[.val (.ref o0), .val (.ref G), .val (.ref b3), .val (.int (4 : Int32))] [(.ref b3), (.ref o0)])) (fun t kt => ?_) ?_
          · show Steps p.tables e below (T3.setTop (mkF m 17 #[.val (.ref o0), .val (.ref G), .val (.ref b3), .val (.int (4 : Int32))] [(.ref G), (.int (4 : Int32))])) _
            refine X3.arraylength hx (by rw [e3]; exact Ar17.1) (State.isArrayOf_alike hZ.alike Ar17.2.1) (g := (mkF m 17 #[.val (.ref o0), .val (.ref G), .val (.ref b3), .val (.int (4 : Int32))] [(.ref G), (.int (4 : Int32))])) rfl rfl (hb hby d3_17) _ ?_
            rw [len_of S17 M17]
            refine XS.icmpYes X3.here hx rfl (pc0 := 18) (pc' := 46) rfl (hb hby d3_18) rfl (flt (by decide)).2.1 (by decide) (by decide) ?_
            refine XS.aloadN X3.here hx rfl (hb hby d3_46) rfl rfl ?_
            refine XS.aloadN X3.here hx rfl (hb hby d3_47) rfl rfl ?_
            exact kt
          obtain ⟨T18, h18, X18, e18, W18, st18⟩ := putF X3 hx hZ hown (host := "") (Or.inl (hw _ (List.mem_of_getElem? (i := 19) rfl))) Via.refl e3 (F_b.ext E3) (E_o0.ext E3) (Or.inl (hw _ (List.mem_of_getElem? (i := 20) rfl))) (hw _ (List.mem_of_getElem? (i := 4) rfl)) (ty := (.array .long)) (by decide) rfl rfl (g := (mkF m 48 #[.val (.ref o0), .val (.ref G), .val (.ref b3), .val (.int (4 : Int32))] [(.ref b3), (.ref o0)])) rfl rfl (hb hby d3_48)
          have Fw18 := (F_b.ext E3).same W18
          have Z19 : n0 ≤ h18.size := Nat.le_trans Z4 (Nat.le_of_eq W18.size.symm)
          have Z19h : h0.size ≤ h18.size := Nat.le_trans Z4h (Nat.le_of_eq W18.size.symm)
          obtain ⟨lc18, X18, N18⟩ := own_pack1 X18 N0 g_o0
          refine own_thr (a := T18.setTop (mkF m 51 #[.val (.ref o0), .val (.ref G), .val (.ref b3), .val (.int (4 : Int32))] [])) (fun t kt => st18 t kt) ?_
          exact own_end X18 hlk (v := none) (fun _ => rfl) (fun fs hr => X18.returnOut hx Bd.returns (hb hby d3_51) hr) (by rw [e18]; exact ⟨b3, k3, rfl, N18, (((Keep.refl h0 [o0]).ext E3).wr W18 (Or.inl (List.mem_of_getElem? (i := 0) rfl))), ((E_o0.ext E3).wr W18), Fw18, (by rw [own_o0 hc7, own_o0 hc10, own_o0 hc13, own_o0 hc16]; exact (V_b3.other W18 (Ne.symm ne_o0_b3))), sz_b3⟩) (by decide : 1 ≤ _) (by decide : 4 ≤ _)
        · refine own_thr (a := T3.setTop (mkF m 30 #[.val (.ref o0), .val (.ref G), .val (.ref b3), .val (.int (3 : Int32))] [(.ref o0), (.int (3 : Int32)), (.ref b3)])) (fun t kt => ?_) ?_
          · show Steps p.tables e below (T3.setTop (mkF m 24 #[.val (.ref o0), .val (.ref G), .val (.ref b3), .val (.int (3 : Int32))] [(.int r3)])) _
            refine XS.ifNo X3.here hx rfl (hb hby d3_24) rfl ((if0 _ _).trans (feq hc16).1) ?_
            refine XS.aloadN X3.here hx rfl (hb hby d3_27) rfl rfl ?_
            refine XS.iloadN X3.here hx rfl (hb hby d3_28) rfl ?_
            refine XS.aloadN X3.here hx rfl (hb hby d3_29) rfl rfl ?_
            exact kt
          obtain ⟨T20, X20, e20, st20⟩ := getF X3 hx hZ hown (host := "") (Or.inl (hw _ (List.mem_of_getElem? (i := 19) rfl))) Via.refl e3 (F_b.ext E3) (g := (mkF m 30 #[.val (.ref o0), .val (.ref G), .val (.ref b3), .val (.int (3 : Int32))] [(.ref o0), (.int (3 : Int32)), (.ref b3)])) rfl rfl (hb hby d3_30)
          refine own_thr (a := T20.setTop (mkF m 33 #[.val (.ref o0), .val (.ref G), .val (.ref b3), .val (.int (3 : Int32))] [(.ref B), (.int (3 : Int32)), (.ref b3)])) (fun t kt => st20 t kt) ?_
          refine own_thr (a := T20.setTop (mkF m 35 #[.val (.ref o0), .val (.ref G), .val (.ref b3), .val (.int (3 : Int32))] [(.int (3 : Int32)), (.ref G), (.ref B), (.int (3 : Int32)), (.ref b3)])) (fun t kt => ?_) ?_
          · show Steps p.tables e below (T20.setTop (mkF m 33 #[.val (.ref o0), .val (.ref G), .val (.ref b3), .val (.int (3 : Int32))] [(.ref B), (.int (3 : Int32)), (.ref b3)])) _
            refine XS.aloadN X20.here hx rfl (hb hby d3_33) rfl rfl ?_
            refine XS.iloadN X20.here hx rfl (hb hby d3_34) rfl ?_
            exact kt
          obtain ⟨cl21, Ar21, -, S21, M21, H21, -⟩ := id (V_G.ext E3)
          have hin21 : ¬ ((3 : Int32) < 0 ∨ cl21.slots.size ≤ ((3 : Int32)).toNatClampNeg) := inb_of S21 ⟨by decide, by decide⟩
          have hat21 : cl21.slots[((3 : Int32)).toNatClampNeg]? = some (.int r3) := Has.at H21 hin21 rfl
          refine own_thr (a := T20.setTop (mkF m 38 #[.val (.ref o0), .val (.ref G), .val (.ref b3), .val (.int (3 : Int32))] [(.int (r3 - (1 : Int32))), (.ref B), (.int (3 : Int32)), (.ref b3)])) (fun t kt => ?_) ?_
          · show Steps p.tables e below (T20.setTop (mkF m 35 #[.val (.ref o0), .val (.ref G), .val (.ref b3), .val (.int (3 : Int32))] [(.int (3 : Int32)), (.ref G), (.ref B), (.int (3 : Int32)), (.ref b3)])) _
            refine X20.iaload hx (j := (3 : Int32)) (v := (.int r3)) (by rw [e20]; exact Ar21.1) (State.isArrayOf_alike hZ.alike Ar21.2.1) Ar21.2.2 hin21 hat21 (g := (mkF m 35 #[.val (.ref o0), .val (.ref G), .val (.ref b3), .val (.int (3 : Int32))] [(.int (3 : Int32)), (.ref G), (.ref B), (.int (3 : Int32)), (.ref b3)])) rfl rfl (hb hby d3_35) _ ?_
            refine XS.iconst X20.here hx rfl (hb hby d3_36) ?_
            refine XS.isub X20.here hx rfl (hb hby d3_37) rfl ?_
            exact kt
          obtain ⟨cl22, Ar22, S22, M22, H22⟩ := id (V_B.ext E3)
          have hin22 : ¬ ((r3 - (1 : Int32)) < 0 ∨ cl22.slots.size ≤ ((r3 - (1 : Int32))).toNatClampNeg) := inb_of S22 ⟨(hr3 hc16).1, (hr3 hc16).2⟩
          refine own_thr (a := T20.setTop (mkF m 39 #[.val (.ref o0), .val (.ref G), .val (.ref b3), .val (.int (3 : Int32))] [(.long (x (r3 - (1 : Int32)))), (.int (3 : Int32)), (.ref b3)])) (fun t kt => ?_) ?_
          · show Steps p.tables e below (T20.setTop (mkF m 38 #[.val (.ref o0), .val (.ref G), .val (.ref b3), .val (.int (3 : Int32))] [(.int (r3 - (1 : Int32))), (.ref B), (.int (3 : Int32)), (.ref b3)])) _
            refine X20.laload hx (j := (r3 - (1 : Int32))) (v := (.long (x (r3 - (1 : Int32))))) (by rw [e20]; exact Ar22.1) (State.isArrayOf_alike hZ.alike Ar22.2.1) Ar22.2.2 hin22 (H22 (r3 - (1 : Int32)) (hr3 hc16).1 (hr3 hc16).2) (g := (mkF m 38 #[.val (.ref o0), .val (.ref G), .val (.ref b3), .val (.int (3 : Int32))] [(.int (r3 - (1 : Int32))), (.ref B), (.int (3 : Int32)), (.ref b3)])) rfl rfl (hb hby d3_38) _ ?_
            exact kt
          obtain ⟨cl23, Ar23, q23, S23, M23, H23, G23⟩ := id V_b3
          have hin23 : ¬ ((3 : Int32) < 0 ∨ cl23.slots.size ≤ ((3 : Int32)).toNatClampNeg) := inb_of S23 ⟨by decide, by decide⟩
          obtain ⟨T23, h23, X23, e23, W23, st23⟩ := stJ X20 hx hZ e20 Ar23 (j := (3 : Int32)) hin23 (g := (mkF m 39 #[.val (.ref o0), .val (.ref G), .val (.ref b3), .val (.int (3 : Int32))] [(.long (x (r3 - (1 : Int32)))), (.int (3 : Int32)), (.ref b3)])) rfl rfl (hb hby d3_39)
          have Z24 : n0 ≤ h23.size := Nat.le_trans Z4 (Nat.le_of_eq W23.size.symm)
          have Z24h : h0.size ≤ h23.size := Nat.le_trans Z4h (Nat.le_of_eq W23.size.symm)
          have V23 : Arv Z h23 b3 k3 .long (4 : Int32) [(.long (0 : Int64)), (.long (0 : Int64)), (.long (0 : Int64)), (.long (x (r3 - (1 : Int32))))] (.long (0 : Int64)) := Arv.set Ar23 q23 S23 M23 H23 G23 rfl W23 3 rfl (Nat.le_of_ble_eq_true rfl)
          obtain ⟨lc23, X23, N23⟩ := own_pack1 X23 N0 g_b3
          refine own_thr (a := T23.setTop (mkF m 40 #[.val (.ref o0), .val (.ref G), .val (.ref b3), .val (.int (3 : Int32))] [])) (fun t kt => st23 t kt) ?_
          refine own_thr (a := T23.setTop (mkF m 17 #[.val (.ref o0), .val (.ref G), .val (.ref b3), .val (.int (4 : Int32))] [(.ref G), (.int (4 : Int32))])) (fun t kt => ?_) ?_
          · show Steps p.tables e below (T23.setTop (mkF m 40 #[.val (.ref o0), .val (.ref G), .val (.ref b3), .val (.int (3 : Int32))] [])) _
            refine XS.iinc X23.here hx rfl (hb hby d3_40) rfl (l' := #[.val (.ref o0), .val (.ref G), .val (.ref b3), .val (.int (4 : Int32))]) rfl ?_
            refine XS.goto X23.here hx rfl (pc0 := 43) (pc' := 15) rfl (hb hby d3_43) (by decide) (by decide) ?_
            refine XS.iloadN X23.here hx rfl (hb hby d3_15) rfl ?_
            refine XS.aloadN X23.here hx rfl (hb hby d3_16) rfl rfl ?_
            exact kt
          obtain ⟨cl25, Ar25, -, S25, M25, -, -⟩ := id ((V_G.ext E3).other W23 ne_G_b3)
          refine own_thr (a := T23.setTop (mkF m 48 #[.val (.ref o0), .val (.ref G), .val (.ref b3), .val (.int (4 : Int32))] [(.ref b3), (.ref o0)])) (fun t kt => ?_) ?_
          · show Steps p.tables e below (T23.setTop (mkF m 17 #[.val (.ref o0), .val (.ref G), .val (.ref b3), .val (.int (4 : Int32))] [(.ref G), (.int (4 : Int32))])) _
            refine X23.arraylength hx (by rw [e23]; exact Ar25.1) (State.isArrayOf_alike hZ.alike Ar25.2.1) (g := (mkF m 17 #[.val (.ref o0), .val (.ref G), .val (.ref b3), .val (.int (4 : Int32))] [(.ref G), (.int (4 : Int32))])) rfl rfl (hb hby d3_17) _ ?_
            rw [len_of S25 M25]
            refine XS.icmpYes X23.here hx rfl (pc0 := 18) (pc' := 46) rfl (hb hby d3_18) rfl (flt (by decide)).2.1 (by decide) (by decide) ?_
            refine XS.aloadN X23.here hx rfl (hb hby d3_46) rfl rfl ?_
            refine XS.aloadN X23.here hx rfl (hb hby d3_47) rfl rfl ?_
            exact kt
          obtain ⟨T26, h26, X26, e26, W26, st26⟩ := putF X23 hx hZ hown (host := "") (Or.inl (hw _ (List.mem_of_getElem? (i := 19) rfl))) Via.refl e23 ((F_b.ext E3).other W23 (Or.inl ne_o0_b3)) ((E_o0.ext E3).wr W23) (Or.inl (hw _ (List.mem_of_getElem? (i := 20) rfl))) (hw _ (List.mem_of_getElem? (i := 4) rfl)) (ty := (.array .long)) (by decide) rfl rfl (g := (mkF m 48 #[.val (.ref o0), .val (.ref G), .val (.ref b3), .val (.int (4 : Int32))] [(.ref b3), (.ref o0)])) rfl rfl (hb hby d3_48)
          have Fw26 := ((F_b.ext E3).other W23 (Or.inl ne_o0_b3)).same W26
          have Z27 : n0 ≤ h26.size := Nat.le_trans Z24 (Nat.le_of_eq W26.size.symm)
          have Z27h : h0.size ≤ h26.size := Nat.le_trans Z24h (Nat.le_of_eq W26.size.symm)
          obtain ⟨lc26, X26, N26⟩ := own_pack1 X26 N23 g_o0
          refine own_thr (a := T26.setTop (mkF m 51 #[.val (.ref o0), .val (.ref G), .val (.ref b3), .val (.int (4 : Int32))] [])) (fun t kt => st26 t kt) ?_
          exact own_end X26 hlk (v := none) (fun _ => rfl) (fun fs hr => X26.returnOut hx Bd.returns (hb hby d3_51) hr) (by rw [e26]; exact ⟨b3, k3, rfl, N26, ((((Keep.refl h0 [o0]).ext E3).wr W23 (Or.inr sz_b3)).wr W26 (Or.inl (List.mem_of_getElem? (i := 0) rfl))), (((E_o0.ext E3).wr W23).wr W26), Fw26, (by rw [own_o0 hc7, own_o0 hc10, own_o0 hc13, own_o1 hc16]; exact (V23.other W26 (Ne.symm ne_o0_b3))), sz_b3⟩) (by decide : 1 ≤ _) (by decide : 4 ≤ _)
      · refine own_thr (a := T3.setTop (mkF m 30 #[.val (.ref o0), .val (.ref G), .val (.ref b3), .val (.int (2 : Int32))] [(.ref o0), (.int (2 : Int32)), (.ref b3)])) (fun t kt => ?_) ?_
        · show Steps p.tables e below (T3.setTop (mkF m 24 #[.val (.ref o0), .val (.ref G), .val (.ref b3), .val (.int (2 : Int32))] [(.int r2)])) _
          refine XS.ifNo X3.here hx rfl (hb hby d3_24) rfl ((if0 _ _).trans (feq hc13).1) ?_
          refine XS.aloadN X3.here hx rfl (hb hby d3_27) rfl rfl ?_
          refine XS.iloadN X3.here hx rfl (hb hby d3_28) rfl ?_
          refine XS.aloadN X3.here hx rfl (hb hby d3_29) rfl rfl ?_
          exact kt
        obtain ⟨T28, X28, e28, st28⟩ := getF X3 hx hZ hown (host := "") (Or.inl (hw _ (List.mem_of_getElem? (i := 19) rfl))) Via.refl e3 (F_b.ext E3) (g := (mkF m 30 #[.val (.ref o0), .val (.ref G), .val (.ref b3), .val (.int (2 : Int32))] [(.ref o0), (.int (2 : Int32)), (.ref b3)])) rfl rfl (hb hby d3_30)
        refine own_thr (a := T28.setTop (mkF m 33 #[.val (.ref o0), .val (.ref G), .val (.ref b3), .val (.int (2 : Int32))] [(.ref B), (.int (2 : Int32)), (.ref b3)])) (fun t kt => st28 t kt) ?_
        refine own_thr (a := T28.setTop (mkF m 35 #[.val (.ref o0), .val (.ref G), .val (.ref b3), .val (.int (2 : Int32))] [(.int (2 : Int32)), (.ref G), (.ref B), (.int (2 : Int32)), (.ref b3)])) (fun t kt => ?_) ?_
        · show Steps p.tables e below (T28.setTop (mkF m 33 #[.val (.ref o0), .val (.ref G), .val (.ref b3), .val (.int (2 : Int32))] [(.ref B), (.int (2 : Int32)), (.ref b3)])) _
          refine XS.aloadN X28.here hx rfl (hb hby d3_33) rfl rfl ?_
          refine XS.iloadN X28.here hx rfl (hb hby d3_34) rfl ?_
          exact kt
        obtain ⟨cl29, Ar29, -, S29, M29, H29, -⟩ := id (V_G.ext E3)
        have hin29 : ¬ ((2 : Int32) < 0 ∨ cl29.slots.size ≤ ((2 : Int32)).toNatClampNeg) := inb_of S29 ⟨by decide, by decide⟩
        have hat29 : cl29.slots[((2 : Int32)).toNatClampNeg]? = some (.int r2) := Has.at H29 hin29 rfl
        refine own_thr (a := T28.setTop (mkF m 38 #[.val (.ref o0), .val (.ref G), .val (.ref b3), .val (.int (2 : Int32))] [(.int (r2 - (1 : Int32))), (.ref B), (.int (2 : Int32)), (.ref b3)])) (fun t kt => ?_) ?_
        · show Steps p.tables e below (T28.setTop (mkF m 35 #[.val (.ref o0), .val (.ref G), .val (.ref b3), .val (.int (2 : Int32))] [(.int (2 : Int32)), (.ref G), (.ref B), (.int (2 : Int32)), (.ref b3)])) _
          refine X28.iaload hx (j := (2 : Int32)) (v := (.int r2)) (by rw [e28]; exact Ar29.1) (State.isArrayOf_alike hZ.alike Ar29.2.1) Ar29.2.2 hin29 hat29 (g := (mkF m 35 #[.val (.ref o0), .val (.ref G), .val (.ref b3), .val (.int (2 : Int32))] [(.int (2 : Int32)), (.ref G), (.ref B), (.int (2 : Int32)), (.ref b3)])) rfl rfl (hb hby d3_35) _ ?_
          refine XS.iconst X28.here hx rfl (hb hby d3_36) ?_
          refine XS.isub X28.here hx rfl (hb hby d3_37) rfl ?_
          exact kt
        obtain ⟨cl30, Ar30, S30, M30, H30⟩ := id (V_B.ext E3)
        have hin30 : ¬ ((r2 - (1 : Int32)) < 0 ∨ cl30.slots.size ≤ ((r2 - (1 : Int32))).toNatClampNeg) := inb_of S30 ⟨(hr2 hc13).1, (hr2 hc13).2⟩
        refine own_thr (a := T28.setTop (mkF m 39 #[.val (.ref o0), .val (.ref G), .val (.ref b3), .val (.int (2 : Int32))] [(.long (x (r2 - (1 : Int32)))), (.int (2 : Int32)), (.ref b3)])) (fun t kt => ?_) ?_
        · show Steps p.tables e below (T28.setTop (mkF m 38 #[.val (.ref o0), .val (.ref G), .val (.ref b3), .val (.int (2 : Int32))] [(.int (r2 - (1 : Int32))), (.ref B), (.int (2 : Int32)), (.ref b3)])) _
          refine X28.laload hx (j := (r2 - (1 : Int32))) (v := (.long (x (r2 - (1 : Int32))))) (by rw [e28]; exact Ar30.1) (State.isArrayOf_alike hZ.alike Ar30.2.1) Ar30.2.2 hin30 (H30 (r2 - (1 : Int32)) (hr2 hc13).1 (hr2 hc13).2) (g := (mkF m 38 #[.val (.ref o0), .val (.ref G), .val (.ref b3), .val (.int (2 : Int32))] [(.int (r2 - (1 : Int32))), (.ref B), (.int (2 : Int32)), (.ref b3)])) rfl rfl (hb hby d3_38) _ ?_
          exact kt
        obtain ⟨cl31, Ar31, q31, S31, M31, H31, G31⟩ := id V_b3
        have hin31 : ¬ ((2 : Int32) < 0 ∨ cl31.slots.size ≤ ((2 : Int32)).toNatClampNeg) := inb_of S31 ⟨by decide, by decide⟩
        obtain ⟨T31, h31, X31, e31, W31, st31⟩ := stJ X28 hx hZ e28 Ar31 (j := (2 : Int32)) hin31 (g := (mkF m 39 #[.val (.ref o0), .val (.ref G), .val (.ref b3), .val (.int (2 : Int32))] [(.long (x (r2 - (1 : Int32)))), (.int (2 : Int32)), (.ref b3)])) rfl rfl (hb hby d3_39)
        have Z32 : n0 ≤ h31.size := Nat.le_trans Z4 (Nat.le_of_eq W31.size.symm)
        have Z32h : h0.size ≤ h31.size := Nat.le_trans Z4h (Nat.le_of_eq W31.size.symm)
        have V31 : Arv Z h31 b3 k3 .long (4 : Int32) [(.long (0 : Int64)), (.long (0 : Int64)), (.long (x (r2 - (1 : Int32)))), (.long (0 : Int64))] (.long (0 : Int64)) := Arv.set Ar31 q31 S31 M31 H31 G31 rfl W31 2 rfl (Nat.le_of_ble_eq_true rfl)
        obtain ⟨lc31, X31, N31⟩ := own_pack1 X31 N0 g_b3
        refine own_thr (a := T31.setTop (mkF m 40 #[.val (.ref o0), .val (.ref G), .val (.ref b3), .val (.int (2 : Int32))] [])) (fun t kt => st31 t kt) ?_
        refine own_thr (a := T31.setTop (mkF m 17 #[.val (.ref o0), .val (.ref G), .val (.ref b3), .val (.int (3 : Int32))] [(.ref G), (.int (3 : Int32))])) (fun t kt => ?_) ?_
        · show Steps p.tables e below (T31.setTop (mkF m 40 #[.val (.ref o0), .val (.ref G), .val (.ref b3), .val (.int (2 : Int32))] [])) _
          refine XS.iinc X31.here hx rfl (hb hby d3_40) rfl (l' := #[.val (.ref o0), .val (.ref G), .val (.ref b3), .val (.int (3 : Int32))]) rfl ?_
          refine XS.goto X31.here hx rfl (pc0 := 43) (pc' := 15) rfl (hb hby d3_43) (by decide) (by decide) ?_
          refine XS.iloadN X31.here hx rfl (hb hby d3_15) rfl ?_
          refine XS.aloadN X31.here hx rfl (hb hby d3_16) rfl rfl ?_
          exact kt
        obtain ⟨cl33, Ar33, -, S33, M33, -, -⟩ := id ((V_G.ext E3).other W31 ne_G_b3)
        refine own_thr (a := T31.setTop (mkF m 23 #[.val (.ref o0), .val (.ref G), .val (.ref b3), .val (.int (3 : Int32))] [(.int (3 : Int32)), (.ref G)])) (fun t kt => ?_) ?_
        · show Steps p.tables e below (T31.setTop (mkF m 17 #[.val (.ref o0), .val (.ref G), .val (.ref b3), .val (.int (3 : Int32))] [(.ref G), (.int (3 : Int32))])) _
          refine X31.arraylength hx (by rw [e31]; exact Ar33.1) (State.isArrayOf_alike hZ.alike Ar33.2.1) (g := (mkF m 17 #[.val (.ref o0), .val (.ref G), .val (.ref b3), .val (.int (3 : Int32))] [(.ref G), (.int (3 : Int32))])) rfl rfl (hb hby d3_17) _ ?_
          rw [len_of S33 M33]
          refine XS.icmpNo X31.here hx rfl (hb hby d3_18) rfl (tlt (by decide)).2.1 ?_
          refine XS.aloadN X31.here hx rfl (hb hby d3_21) rfl rfl ?_
          refine XS.iloadN X31.here hx rfl (hb hby d3_22) rfl ?_
          exact kt
        obtain ⟨cl34, Ar34, -, S34, M34, H34, -⟩ := id ((V_G.ext E3).other W31 ne_G_b3)
        have hin34 : ¬ ((3 : Int32) < 0 ∨ cl34.slots.size ≤ ((3 : Int32)).toNatClampNeg) := inb_of S34 ⟨by decide, by decide⟩
        have hat34 : cl34.slots[((3 : Int32)).toNatClampNeg]? = some (.int r3) := Has.at H34 hin34 rfl
        refine own_thr (a := T31.setTop (mkF m 24 #[.val (.ref o0), .val (.ref G), .val (.ref b3), .val (.int (3 : Int32))] [(.int r3)])) (fun t kt => ?_) ?_
        · show Steps p.tables e below (T31.setTop (mkF m 23 #[.val (.ref o0), .val (.ref G), .val (.ref b3), .val (.int (3 : Int32))] [(.int (3 : Int32)), (.ref G)])) _
          refine X31.iaload hx (j := (3 : Int32)) (v := (.int r3)) (by rw [e31]; exact Ar34.1) (State.isArrayOf_alike hZ.alike Ar34.2.1) Ar34.2.2 hin34 hat34 (g := (mkF m 23 #[.val (.ref o0), .val (.ref G), .val (.ref b3), .val (.int (3 : Int32))] [(.int (3 : Int32)), (.ref G)])) rfl rfl (hb hby d3_23) _ ?_
          exact kt
        by_cases hc35 : r3 = (0 : Int32)
        · refine own_thr (a := T31.setTop (mkF m 17 #[.val (.ref o0), .val (.ref G), .val (.ref b3), .val (.int (4 : Int32))] [(.ref G), (.int (4 : Int32))])) (fun t kt => ?_) ?_
          · show Steps p.tables e below (T31.setTop (mkF m 24 #[.val (.ref o0), .val (.ref G), .val (.ref b3), .val (.int (3 : Int32))] [(.int r3)])) _
            refine XS.ifYes X31.here hx rfl (pc0 := 24) (pc' := 40) rfl (hb hby d3_24) rfl ((if0 _ _).trans (teq hc35).1) (by decide) (by decide) ?_
            refine XS.iinc X31.here hx rfl (hb hby d3_40) rfl (l' := #[.val (.ref o0), .val (.ref G), .val (.ref b3), .val (.int (4 : Int32))]) rfl ?_
            refine XS.goto X31.here hx rfl (pc0 := 43) (pc' := 15) rfl (hb hby d3_43) (by decide) (by decide) ?_
            refine XS.iloadN X31.here hx rfl (hb hby d3_15) rfl ?_
            refine XS.aloadN X31.here hx rfl (hb hby d3_16) rfl rfl ?_
            exact kt
          obtain ⟨cl36, Ar36, -, S36, M36, -, -⟩ := id ((V_G.ext E3).other W31 ne_G_b3)
          refine own_thr (a := T31.setTop (mkF m 48 #[.val (.ref o0), .val (.ref G), .val (.ref b3), .val (.int (4 : Int32))] [(.ref b3), (.ref o0)])) (fun t kt => ?_) ?_
          · show Steps p.tables e below (T31.setTop (mkF m 17 #[.val (.ref o0), .val (.ref G), .val (.ref b3), .val (.int (4 : Int32))] [(.ref G), (.int (4 : Int32))])) _
            refine X31.arraylength hx (by rw [e31]; exact Ar36.1) (State.isArrayOf_alike hZ.alike Ar36.2.1) (g := (mkF m 17 #[.val (.ref o0), .val (.ref G), .val (.ref b3), .val (.int (4 : Int32))] [(.ref G), (.int (4 : Int32))])) rfl rfl (hb hby d3_17) _ ?_
            rw [len_of S36 M36]
            refine XS.icmpYes X31.here hx rfl (pc0 := 18) (pc' := 46) rfl (hb hby d3_18) rfl (flt (by decide)).2.1 (by decide) (by decide) ?_
            refine XS.aloadN X31.here hx rfl (hb hby d3_46) rfl rfl ?_
            refine XS.aloadN X31.here hx rfl (hb hby d3_47) rfl rfl ?_
            exact kt
          obtain ⟨T37, h37, X37, e37, W37, st37⟩ := putF X31 hx hZ hown (host := "") (Or.inl (hw _ (List.mem_of_getElem? (i := 19) rfl))) Via.refl e31 ((F_b.ext E3).other W31 (Or.inl ne_o0_b3)) ((E_o0.ext E3).wr W31) (Or.inl (hw _ (List.mem_of_getElem? (i := 20) rfl))) (hw _ (List.mem_of_getElem? (i := 4) rfl)) (ty := (.array .long)) (by decide) rfl rfl (g := (mkF m 48 #[.val (.ref o0), .val (.ref G), .val (.ref b3), .val (.int (4 : Int32))] [(.ref b3), (.ref o0)])) rfl rfl (hb hby d3_48)
          have Fw37 := ((F_b.ext E3).other W31 (Or.inl ne_o0_b3)).same W37
          have Z38 : n0 ≤ h37.size := Nat.le_trans Z32 (Nat.le_of_eq W37.size.symm)
          have Z38h : h0.size ≤ h37.size := Nat.le_trans Z32h (Nat.le_of_eq W37.size.symm)
          obtain ⟨lc37, X37, N37⟩ := own_pack1 X37 N31 g_o0
          refine own_thr (a := T37.setTop (mkF m 51 #[.val (.ref o0), .val (.ref G), .val (.ref b3), .val (.int (4 : Int32))] [])) (fun t kt => st37 t kt) ?_
          exact own_end X37 hlk (v := none) (fun _ => rfl) (fun fs hr => X37.returnOut hx Bd.returns (hb hby d3_51) hr) (by rw [e37]; exact ⟨b3, k3, rfl, N37, ((((Keep.refl h0 [o0]).ext E3).wr W31 (Or.inr sz_b3)).wr W37 (Or.inl (List.mem_of_getElem? (i := 0) rfl))), (((E_o0.ext E3).wr W31).wr W37), Fw37, (by rw [own_o0 hc7, own_o0 hc10, own_o1 hc13, own_o0 hc35]; exact (V31.other W37 (Ne.symm ne_o0_b3))), sz_b3⟩) (by decide : 1 ≤ _) (by decide : 4 ≤ _)
        · refine own_thr (a := T31.setTop (mkF m 30 #[.val (.ref o0), .val (.ref G), .val (.ref b3), .val (.int (3 : Int32))] [(.ref o0), (.int (3 : Int32)), (.ref b3)])) (fun t kt => ?_) ?_
          · show Steps p.tables e below (T31.setTop (mkF m 24 #[.val (.ref o0), .val (.ref G), .val (.ref b3), .val (.int (3 : Int32))] [(.int r3)])) _
            refine XS.ifNo X31.here hx rfl (hb hby d3_24) rfl ((if0 _ _).trans (feq hc35).1) ?_
            refine XS.aloadN X31.here hx rfl (hb hby d3_27) rfl rfl ?_
            refine XS.iloadN X31.here hx rfl (hb hby d3_28) rfl ?_
            refine XS.aloadN X31.here hx rfl (hb hby d3_29) rfl rfl ?_
            exact kt
          obtain ⟨T39, X39, e39, st39⟩ := getF X31 hx hZ hown (host := "") (Or.inl (hw _ (List.mem_of_getElem? (i := 19) rfl))) Via.refl e31 ((F_b.ext E3).other W31 (Or.inl ne_o0_b3)) (g := (mkF m 30 #[.val (.ref o0), .val (.ref G), .val (.ref b3), .val (.int (3 : Int32))] [(.ref o0), (.int (3 : Int32)), (.ref b3)])) rfl rfl (hb hby d3_30)
          refine own_thr (a := T39.setTop (mkF m 33 #[.val (.ref o0), .val (.ref G), .val (.ref b3), .val (.int (3 : Int32))] [(.ref B), (.int (3 : Int32)), (.ref b3)])) (fun t kt => st39 t kt) ?_
          refine own_thr (a := T39.setTop (mkF m 35 #[.val (.ref o0), .val (.ref G), .val (.ref b3), .val (.int (3 : Int32))] [(.int (3 : Int32)), (.ref G), (.ref B), (.int (3 : Int32)), (.ref b3)])) (fun t kt => ?_) ?_
          · show Steps p.tables e below (T39.setTop (mkF m 33 #[.val (.ref o0), .val (.ref G), .val (.ref b3), .val (.int (3 : Int32))] [(.ref B), (.int (3 : Int32)), (.ref b3)])) _
            refine XS.aloadN X39.here hx rfl (hb hby d3_33) rfl rfl ?_
            refine XS.iloadN X39.here hx rfl (hb hby d3_34) rfl ?_
            exact kt
          obtain ⟨cl40, Ar40, -, S40, M40, H40, -⟩ := id ((V_G.ext E3).other W31 ne_G_b3)
          have hin40 : ¬ ((3 : Int32) < 0 ∨ cl40.slots.size ≤ ((3 : Int32)).toNatClampNeg) := inb_of S40 ⟨by decide, by decide⟩
          have hat40 : cl40.slots[((3 : Int32)).toNatClampNeg]? = some (.int r3) := Has.at H40 hin40 rfl
          refine own_thr (a := T39.setTop (mkF m 38 #[.val (.ref o0), .val (.ref G), .val (.ref b3), .val (.int (3 : Int32))] [(.int (r3 - (1 : Int32))), (.ref B), (.int (3 : Int32)), (.ref b3)])) (fun t kt => ?_) ?_
          · show Steps p.tables e below (T39.setTop (mkF m 35 #[.val (.ref o0), .val (.ref G), .val (.ref b3), .val (.int (3 : Int32))] [(.int (3 : Int32)), (.ref G), (.ref B), (.int (3 : Int32)), (.ref b3)])) _
            refine X39.iaload hx (j := (3 : Int32)) (v := (.int r3)) (by rw [e39]; exact Ar40.1) (State.isArrayOf_alike hZ.alike Ar40.2.1) Ar40.2.2 hin40 hat40 (g := (mkF m 35 #[.val (.ref o0), .val (.ref G), .val (.ref b3), .val (.int (3 : Int32))] [(.int (3 : Int32)), (.ref G), (.ref B), (.int (3 : Int32)), (.ref b3)])) rfl rfl (hb hby d3_35) _ ?_
            refine XS.iconst X39.here hx rfl (hb hby d3_36) ?_
            refine XS.isub X39.here hx rfl (hb hby d3_37) rfl ?_
            exact kt
          obtain ⟨cl41, Ar41, S41, M41, H41⟩ := id ((V_B.ext E3).other W31 ne_B_b3)
          have hin41 : ¬ ((r3 - (1 : Int32)) < 0 ∨ cl41.slots.size ≤ ((r3 - (1 : Int32))).toNatClampNeg) := inb_of S41 ⟨(hr3 hc35).1, (hr3 hc35).2⟩
          refine own_thr (a := T39.setTop (mkF m 39 #[.val (.ref o0), .val (.ref G), .val (.ref b3), .val (.int (3 : Int32))] [(.long (x (r3 - (1 : Int32)))), (.int (3 : Int32)), (.ref b3)])) (fun t kt => ?_) ?_
          · show Steps p.tables e below (T39.setTop (mkF m 38 #[.val (.ref o0), .val (.ref G), .val (.ref b3), .val (.int (3 : Int32))] [(.int (r3 - (1 : Int32))), (.ref B), (.int (3 : Int32)), (.ref b3)])) _
            refine X39.laload hx (j := (r3 - (1 : Int32))) (v := (.long (x (r3 - (1 : Int32))))) (by rw [e39]; exact Ar41.1) (State.isArrayOf_alike hZ.alike Ar41.2.1) Ar41.2.2 hin41 (H41 (r3 - (1 : Int32)) (hr3 hc35).1 (hr3 hc35).2) (g := (mkF m 38 #[.val (.ref o0), .val (.ref G), .val (.ref b3), .val (.int (3 : Int32))] [(.int (r3 - (1 : Int32))), (.ref B), (.int (3 : Int32)), (.ref b3)])) rfl rfl (hb hby d3_38) _ ?_
            exact kt
          obtain ⟨cl42, Ar42, q42, S42, M42, H42, G42⟩ := id V31
          have hin42 : ¬ ((3 : Int32) < 0 ∨ cl42.slots.size ≤ ((3 : Int32)).toNatClampNeg) := inb_of S42 ⟨by decide, by decide⟩
          obtain ⟨T42, h42, X42, e42, W42, st42⟩ := stJ X39 hx hZ e39 Ar42 (j := (3 : Int32)) hin42 (g := (mkF m 39 #[.val (.ref o0), .val (.ref G), .val (.ref b3), .val (.int (3 : Int32))] [(.long (x (r3 - (1 : Int32)))), (.int (3 : Int32)), (.ref b3)])) rfl rfl (hb hby d3_39)
          have Z43 : n0 ≤ h42.size := Nat.le_trans Z32 (Nat.le_of_eq W42.size.symm)
          have Z43h : h0.size ≤ h42.size := Nat.le_trans Z32h (Nat.le_of_eq W42.size.symm)
          have V42 : Arv Z h42 b3 k3 .long (4 : Int32) [(.long (0 : Int64)), (.long (0 : Int64)), (.long (x (r2 - (1 : Int32)))), (.long (x (r3 - (1 : Int32))))] (.long (0 : Int64)) := Arv.set Ar42 q42 S42 M42 H42 G42 rfl W42 3 rfl (Nat.le_of_ble_eq_true rfl)
          obtain ⟨lc42, X42, N42⟩ := own_pack1 X42 N31 g_b3
          refine own_thr (a := T42.setTop (mkF m 40 #[.val (.ref o0), .val (.ref G), .val (.ref b3), .val (.int (3 : Int32))] [])) (fun t kt => st42 t kt) ?_
          refine own_thr (a := T42.setTop (mkF m 17 #[.val (.ref o0), .val (.ref G), .val (.ref b3), .val (.int (4 : Int32))] [(.ref G), (.int (4 : Int32))])) (fun t kt => ?_) ?_
          · show Steps p.tables e below (T42.setTop (mkF m 40 #[.val (.ref o0), .val (.ref G), .val (.ref b3), .val (.int (3 : Int32))] [])) _
            refine XS.iinc X42.here hx rfl (hb hby d3_40) rfl (l' := #[.val (.ref o0), .val (.ref G), .val (.ref b3), .val (.int (4 : Int32))]) rfl ?_
            refine XS.goto X42.here hx rfl (pc0 := 43) (pc' := 15) rfl (hb hby d3_43) (by decide) (by decide) ?_
            refine XS.iloadN X42.here hx rfl (hb hby d3_15) rfl ?_
            refine XS.aloadN X42.here hx rfl (hb hby d3_16) rfl rfl ?_
            exact kt
          obtain ⟨cl44, Ar44, -, S44, M44, -, -⟩ := id (((V_G.ext E3).other W31 ne_G_b3).other W42 ne_G_b3)
          refine own_thr (a := T42.setTop (mkF m 48 #[.val (.ref o0), .val (.ref G), .val (.ref b3), .val (.int (4 : Int32))] [(.ref b3), (.ref o0)])) (fun t kt => ?_) ?_
          · show Steps p.tables e below (T42.setTop (mkF m 17 #[.val (.ref o0), .val (.ref G), .val (.ref b3), .val (.int (4 : Int32))] [(.ref G), (.int (4 : Int32))])) _
            refine X42.arraylength hx (by rw [e42]; exact Ar44.1) (State.isArrayOf_alike hZ.alike Ar44.2.1) (g := (mkF m 17 #[.val (.ref o0), .val (.ref G), .val (.ref b3), .val (.int (4 : Int32))] [(.ref G), (.int (4 : Int32))])) rfl rfl (hb hby d3_17) _ ?_
            rw [len_of S44 M44]
            refine XS.icmpYes X42.here hx rfl (pc0 := 18) (pc' := 46) rfl (hb hby d3_18) rfl (flt (by decide)).2.1 (by decide) (by decide) ?_
            refine XS.aloadN X42.here hx rfl (hb hby d3_46) rfl rfl ?_
            refine XS.aloadN X42.here hx rfl (hb hby d3_47) rfl rfl ?_
            exact kt
          have c45 := (((F_b.ext E3).other W31 (Or.inl ne_o0_b3)).other W42 (Or.inl ne_o0_b3))
          obtain ⟨T46, h46, X46, e46, W46, st46⟩ := putF X42 hx hZ hown (host := "") (Or.inl (hw _ (List.mem_of_getElem? (i := 19) rfl))) Via.refl e42 c45 (((E_o0.ext E3).wr W31).wr W42) (Or.inl (hw _ (List.mem_of_getElem? (i := 20) rfl))) (hw _ (List.mem_of_getElem? (i := 4) rfl)) (ty := (.array .long)) (by decide) rfl rfl (g := (mkF m 48 #[.val (.ref o0), .val (.ref G), .val (.ref b3), .val (.int (4 : Int32))] [(.ref b3), (.ref o0)])) rfl rfl (hb hby d3_48)
          have Fw46 := c45.same W46
          have Z47 : n0 ≤ h46.size := Nat.le_trans Z43 (Nat.le_of_eq W46.size.symm)
          have Z47h : h0.size ≤ h46.size := Nat.le_trans Z43h (Nat.le_of_eq W46.size.symm)
          obtain ⟨lc46, X46, N46⟩ := own_pack1 X46 N42 g_o0
          refine own_thr (a := T46.setTop (mkF m 51 #[.val (.ref o0), .val (.ref G), .val (.ref b3), .val (.int (4 : Int32))] [])) (fun t kt => st46 t kt) ?_
          exact own_end X46 hlk (v := none) (fun _ => rfl) (fun fs hr => X46.returnOut hx Bd.returns (hb hby d3_51) hr) (by rw [e46]; exact ⟨b3, k3, rfl, N46, (((((Keep.refl h0 [o0]).ext E3).wr W31 (Or.inr sz_b3)).wr W42 (Or.inr sz_b3)).wr W46 (Or.inl (List.mem_of_getElem? (i := 0) rfl))), ((((E_o0.ext E3).wr W31).wr W42).wr W46), Fw46, (by rw [own_o0 hc7, own_o0 hc10, own_o1 hc13, own_o1 hc35]; exact (V42.other W46 (Ne.symm ne_o0_b3))), sz_b3⟩) (by decide : 1 ≤ _) (by decide : 4 ≤ _)
    · refine own_thr (a := T3.setTop (mkF m 30 #[.val (.ref o0), .val (.ref G), .val (.ref b3), .val (.int (1 : Int32))] [(.ref o0), (.int (1 : Int32)), (.ref b3)])) (fun t kt => ?_) ?_
      · show Steps p.tables e below (T3.setTop (mkF m 24 #[.val (.ref o0), .val (.ref G), .val (.ref b3), .val (.int (1 : Int32))] [(.int r1)])) _
        refine XS.ifNo X3.here hx rfl (hb hby d3_24) rfl ((if0 _ _).trans (feq hc10).1) ?_
        refine XS.aloadN X3.here hx rfl (hb hby d3_27) rfl rfl ?_
        refine XS.iloadN X3.here hx rfl (hb hby d3_28) rfl ?_
        refine XS.aloadN X3.here hx rfl (hb hby d3_29) rfl rfl ?_
        exact kt
      obtain ⟨T48, X48, e48, st48⟩ := getF X3 hx hZ hown (host := "") (Or.inl (hw _ (List.mem_of_getElem? (i := 19) rfl))) Via.refl e3 (F_b.ext E3) (g := (mkF m 30 #[.val (.ref o0), .val (.ref G), .val (.ref b3), .val (.int (1 : Int32))] [(.ref o0), (.int (1 : Int32)), (.ref b3)])) rfl rfl (hb hby d3_30)
      refine own_thr (a := T48.setTop (mkF m 33 #[.val (.ref o0), .val (.ref G), .val (.ref b3), .val (.int (1 : Int32))] [(.ref B), (.int (1 : Int32)), (.ref b3)])) (fun t kt => st48 t kt) ?_
      refine own_thr (a := T48.setTop (mkF m 35 #[.val (.ref o0), .val (.ref G), .val (.ref b3), .val (.int (1 : Int32))] [(.int (1 : Int32)), (.ref G), (.ref B), (.int (1 : Int32)), (.ref b3)])) (fun t kt => ?_) ?_
      · show Steps p.tables e below (T48.setTop (mkF m 33 #[.val (.ref o0), .val (.ref G), .val (.ref b3), .val (.int (1 : Int32))] [(.ref B), (.int (1 : Int32)), (.ref b3)])) _
        refine XS.aloadN X48.here hx rfl (hb hby d3_33) rfl rfl ?_
        refine XS.iloadN X48.here hx rfl (hb hby d3_34) rfl ?_
        exact kt
      obtain ⟨cl49, Ar49, -, S49, M49, H49, -⟩ := id (V_G.ext E3)
      have hin49 : ¬ ((1 : Int32) < 0 ∨ cl49.slots.size ≤ ((1 : Int32)).toNatClampNeg) := inb_of S49 ⟨by decide, by decide⟩
      have hat49 : cl49.slots[((1 : Int32)).toNatClampNeg]? = some (.int r1) := Has.at H49 hin49 rfl
      refine own_thr (a := T48.setTop (mkF m 38 #[.val (.ref o0), .val (.ref G), .val (.ref b3), .val (.int (1 : Int32))] [(.int (r1 - (1 : Int32))), (.ref B), (.int (1 : Int32)), (.ref b3)])) (fun t kt => ?_) ?_
      · show Steps p.tables e below (T48.setTop (mkF m 35 #[.val (.ref o0), .val (.ref G), .val (.ref b3), .val (.int (1 : Int32))] [(.int (1 : Int32)), (.ref G), (.ref B), (.int (1 : Int32)), (.ref b3)])) _
        refine X48.iaload hx (j := (1 : Int32)) (v := (.int r1)) (by rw [e48]; exact Ar49.1) (State.isArrayOf_alike hZ.alike Ar49.2.1) Ar49.2.2 hin49 hat49 (g := (mkF m 35 #[.val (.ref o0), .val (.ref G), .val (.ref b3), .val (.int (1 : Int32))] [(.int (1 : Int32)), (.ref G), (.ref B), (.int (1 : Int32)), (.ref b3)])) rfl rfl (hb hby d3_35) _ ?_
        refine XS.iconst X48.here hx rfl (hb hby d3_36) ?_
        refine XS.isub X48.here hx rfl (hb hby d3_37) rfl ?_
        exact kt
      obtain ⟨cl50, Ar50, S50, M50, H50⟩ := id (V_B.ext E3)
      have hin50 : ¬ ((r1 - (1 : Int32)) < 0 ∨ cl50.slots.size ≤ ((r1 - (1 : Int32))).toNatClampNeg) := inb_of S50 ⟨(hr1 hc10).1, (hr1 hc10).2⟩
      refine own_thr (a := T48.setTop (mkF m 39 #[.val (.ref o0), .val (.ref G), .val (.ref b3), .val (.int (1 : Int32))] [(.long (x (r1 - (1 : Int32)))), (.int (1 : Int32)), (.ref b3)])) (fun t kt => ?_) ?_
      · show Steps p.tables e below (T48.setTop (mkF m 38 #[.val (.ref o0), .val (.ref G), .val (.ref b3), .val (.int (1 : Int32))] [(.int (r1 - (1 : Int32))), (.ref B), (.int (1 : Int32)), (.ref b3)])) _
        refine X48.laload hx (j := (r1 - (1 : Int32))) (v := (.long (x (r1 - (1 : Int32))))) (by rw [e48]; exact Ar50.1) (State.isArrayOf_alike hZ.alike Ar50.2.1) Ar50.2.2 hin50 (H50 (r1 - (1 : Int32)) (hr1 hc10).1 (hr1 hc10).2) (g := (mkF m 38 #[.val (.ref o0), .val (.ref G), .val (.ref b3), .val (.int (1 : Int32))] [(.int (r1 - (1 : Int32))), (.ref B), (.int (1 : Int32)), (.ref b3)])) rfl rfl (hb hby d3_38) _ ?_
        exact kt
      obtain ⟨cl51, Ar51, q51, S51, M51, H51, G51⟩ := id V_b3
      have hin51 : ¬ ((1 : Int32) < 0 ∨ cl51.slots.size ≤ ((1 : Int32)).toNatClampNeg) := inb_of S51 ⟨by decide, by decide⟩
      obtain ⟨T51, h51, X51, e51, W51, st51⟩ := stJ X48 hx hZ e48 Ar51 (j := (1 : Int32)) hin51 (g := (mkF m 39 #[.val (.ref o0), .val (.ref G), .val (.ref b3), .val (.int (1 : Int32))] [(.long (x (r1 - (1 : Int32)))), (.int (1 : Int32)), (.ref b3)])) rfl rfl (hb hby d3_39)
      have Z52 : n0 ≤ h51.size := Nat.le_trans Z4 (Nat.le_of_eq W51.size.symm)
      have Z52h : h0.size ≤ h51.size := Nat.le_trans Z4h (Nat.le_of_eq W51.size.symm)
      have V51 : Arv Z h51 b3 k3 .long (4 : Int32) [(.long (0 : Int64)), (.long (x (r1 - (1 : Int32)))), (.long (0 : Int64)), (.long (0 : Int64))] (.long (0 : Int64)) := Arv.set Ar51 q51 S51 M51 H51 G51 rfl W51 1 rfl (Nat.le_of_ble_eq_true rfl)
      obtain ⟨lc51, X51, N51⟩ := own_pack1 X51 N0 g_b3
      refine own_thr (a := T51.setTop (mkF m 40 #[.val (.ref o0), .val (.ref G), .val (.ref b3), .val (.int (1 : Int32))] [])) (fun t kt => st51 t kt) ?_
      refine own_thr (a := T51.setTop (mkF m 17 #[.val (.ref o0), .val (.ref G), .val (.ref b3), .val (.int (2 : Int32))] [(.ref G), (.int (2 : Int32))])) (fun t kt => ?_) ?_
      · show Steps p.tables e below (T51.setTop (mkF m 40 #[.val (.ref o0), .val (.ref G), .val (.ref b3), .val (.int (1 : Int32))] [])) _
        refine XS.iinc X51.here hx rfl (hb hby d3_40) rfl (l' := #[.val (.ref o0), .val (.ref G), .val (.ref b3), .val (.int (2 : Int32))]) rfl ?_
        refine XS.goto X51.here hx rfl (pc0 := 43) (pc' := 15) rfl (hb hby d3_43) (by decide) (by decide) ?_
        refine XS.iloadN X51.here hx rfl (hb hby d3_15) rfl ?_
        refine XS.aloadN X51.here hx rfl (hb hby d3_16) rfl rfl ?_
        exact kt
      obtain ⟨cl53, Ar53, -, S53, M53, -, -⟩ := id ((V_G.ext E3).other W51 ne_G_b3)
      refine own_thr (a := T51.setTop (mkF m 23 #[.val (.ref o0), .val (.ref G), .val (.ref b3), .val (.int (2 : Int32))] [(.int (2 : Int32)), (.ref G)])) (fun t kt => ?_) ?_
      · show Steps p.tables e below (T51.setTop (mkF m 17 #[.val (.ref o0), .val (.ref G), .val (.ref b3), .val (.int (2 : Int32))] [(.ref G), (.int (2 : Int32))])) _
        refine X51.arraylength hx (by rw [e51]; exact Ar53.1) (State.isArrayOf_alike hZ.alike Ar53.2.1) (g := (mkF m 17 #[.val (.ref o0), .val (.ref G), .val (.ref b3), .val (.int (2 : Int32))] [(.ref G), (.int (2 : Int32))])) rfl rfl (hb hby d3_17) _ ?_
        rw [len_of S53 M53]
        refine XS.icmpNo X51.here hx rfl (hb hby d3_18) rfl (tlt (by decide)).2.1 ?_
        refine XS.aloadN X51.here hx rfl (hb hby d3_21) rfl rfl ?_
        refine XS.iloadN X51.here hx rfl (hb hby d3_22) rfl ?_
        exact kt
      obtain ⟨cl54, Ar54, -, S54, M54, H54, -⟩ := id ((V_G.ext E3).other W51 ne_G_b3)
      have hin54 : ¬ ((2 : Int32) < 0 ∨ cl54.slots.size ≤ ((2 : Int32)).toNatClampNeg) := inb_of S54 ⟨by decide, by decide⟩
      have hat54 : cl54.slots[((2 : Int32)).toNatClampNeg]? = some (.int r2) := Has.at H54 hin54 rfl
      refine own_thr (a := T51.setTop (mkF m 24 #[.val (.ref o0), .val (.ref G), .val (.ref b3), .val (.int (2 : Int32))] [(.int r2)])) (fun t kt => ?_) ?_
      · show Steps p.tables e below (T51.setTop (mkF m 23 #[.val (.ref o0), .val (.ref G), .val (.ref b3), .val (.int (2 : Int32))] [(.int (2 : Int32)), (.ref G)])) _
        refine X51.iaload hx (j := (2 : Int32)) (v := (.int r2)) (by rw [e51]; exact Ar54.1) (State.isArrayOf_alike hZ.alike Ar54.2.1) Ar54.2.2 hin54 hat54 (g := (mkF m 23 #[.val (.ref o0), .val (.ref G), .val (.ref b3), .val (.int (2 : Int32))] [(.int (2 : Int32)), (.ref G)])) rfl rfl (hb hby d3_23) _ ?_
        exact kt
      by_cases hc55 : r2 = (0 : Int32)
      · refine own_thr (a := T51.setTop (mkF m 17 #[.val (.ref o0), .val (.ref G), .val (.ref b3), .val (.int (3 : Int32))] [(.ref G), (.int (3 : Int32))])) (fun t kt => ?_) ?_
        · show Steps p.tables e below (T51.setTop (mkF m 24 #[.val (.ref o0), .val (.ref G), .val (.ref b3), .val (.int (2 : Int32))] [(.int r2)])) _
          refine XS.ifYes X51.here hx rfl (pc0 := 24) (pc' := 40) rfl (hb hby d3_24) rfl ((if0 _ _).trans (teq hc55).1) (by decide) (by decide) ?_
          refine XS.iinc X51.here hx rfl (hb hby d3_40) rfl (l' := #[.val (.ref o0), .val (.ref G), .val (.ref b3), .val (.int (3 : Int32))]) rfl ?_
          refine XS.goto X51.here hx rfl (pc0 := 43) (pc' := 15) rfl (hb hby d3_43) (by decide) (by decide) ?_
          refine XS.iloadN X51.here hx rfl (hb hby d3_15) rfl ?_
          refine XS.aloadN X51.here hx rfl (hb hby d3_16) rfl rfl ?_
          exact kt
        obtain ⟨cl56, Ar56, -, S56, M56, -, -⟩ := id ((V_G.ext E3).other W51 ne_G_b3)
        refine own_thr (a := T51.setTop (mkF m 23 #[.val (.ref o0), .val (.ref G), .val (.ref b3), .val (.int (3 : Int32))] [(.int (3 : Int32)), (.ref G)])) (fun t kt => ?_) ?_
        · show Steps p.tables e below (T51.setTop (mkF m 17 #[.val (.ref o0), .val (.ref G), .val (.ref b3), .val (.int (3 : Int32))] [(.ref G), (.int (3 : Int32))])) _
          refine X51.arraylength hx (by rw [e51]; exact Ar56.1) (State.isArrayOf_alike hZ.alike Ar56.2.1) (g := (mkF m 17 #[.val (.ref o0), .val (.ref G), .val (.ref b3), .val (.int (3 : Int32))] [(.ref G), (.int (3 : Int32))])) rfl rfl (hb hby d3_17) _ ?_
          rw [len_of S56 M56]
          refine XS.icmpNo X51.here hx rfl (hb hby d3_18) rfl (tlt (by decide)).2.1 ?_
          refine XS.aloadN X51.here hx rfl (hb hby d3_21) rfl rfl ?_
          refine XS.iloadN X51.here hx rfl (hb hby d3_22) rfl ?_
          exact kt
        obtain ⟨cl57, Ar57, -, S57, M57, H57, -⟩ := id ((V_G.ext E3).other W51 ne_G_b3)
        have hin57 : ¬ ((3 : Int32) < 0 ∨ cl57.slots.size ≤ ((3 : Int32)).toNatClampNeg) := inb_of S57 ⟨by decide, by decide⟩
        have hat57 : cl57.slots[((3 : Int32)).toNatClampNeg]? = some (.int r3) := Has.at H57 hin57 rfl
        refine own_thr (a := T51.setTop (mkF m 24 #[.val (.ref o0), .val (.ref G), .val (.ref b3), .val (.int (3 : Int32))] [(.int r3)])) (fun t kt => ?_) ?_
        · show Steps p.tables e below (T51.setTop (mkF m 23 #[.val (.ref o0), .val (.ref G), .val (.ref b3), .val (.int (3 : Int32))] [(.int (3 : Int32)), (.ref G)])) _
          refine X51.iaload hx (j := (3 : Int32)) (v := (.int r3)) (by rw [e51]; exact Ar57.1) (State.isArrayOf_alike hZ.alike Ar57.2.1) Ar57.2.2 hin57 hat57 (g := (mkF m 23 #[.val (.ref o0), .val (.ref G), .val (.ref b3), .val (.int (3 : Int32))] [(.int (3 : Int32)), (.ref G)])) rfl rfl (hb hby d3_23) _ ?_
          exact kt
        by_cases hc58 : r3 = (0 : Int32)
        · refine own_thr (a := T51.setTop (mkF m 17 #[.val (.ref o0), .val (.ref G), .val (.ref b3), .val (.int (4 : Int32))] [(.ref G), (.int (4 : Int32))])) (fun t kt => ?_) ?_
          · show Steps p.tables e below (T51.setTop (mkF m 24 #[.val (.ref o0), .val (.ref G), .val (.ref b3), .val (.int (3 : Int32))] [(.int r3)])) _
            refine XS.ifYes X51.here hx rfl (pc0 := 24) (pc' := 40) rfl (hb hby d3_24) rfl ((if0 _ _).trans (teq hc58).1) (by decide) (by decide) ?_
            refine XS.iinc X51.here hx rfl (hb hby d3_40) rfl (l' := #[.val (.ref o0), .val (.ref G), .val (.ref b3), .val (.int (4 : Int32))]) rfl ?_
            refine XS.goto X51.here hx rfl (pc0 := 43) (pc' := 15) rfl (hb hby d3_43) (by decide) (by decide) ?_
            refine XS.iloadN X51.here hx rfl (hb hby d3_15) rfl ?_
            refine XS.aloadN X51.here hx rfl (hb hby d3_16) rfl rfl ?_
            exact kt
          obtain ⟨cl59, Ar59, -, S59, M59, -, -⟩ := id ((V_G.ext E3).other W51 ne_G_b3)
          refine own_thr (a := T51.setTop (mkF m 48 #[.val (.ref o0), .val (.ref G), .val (.ref b3), .val (.int (4 : Int32))] [(.ref b3), (.ref o0)])) (fun t kt => ?_) ?_
          · show Steps p.tables e below (T51.setTop (mkF m 17 #[.val (.ref o0), .val (.ref G), .val (.ref b3), .val (.int (4 : Int32))] [(.ref G), (.int (4 : Int32))])) _
            refine X51.arraylength hx (by rw [e51]; exact Ar59.1) (State.isArrayOf_alike hZ.alike Ar59.2.1) (g := (mkF m 17 #[.val (.ref o0), .val (.ref G), .val (.ref b3), .val (.int (4 : Int32))] [(.ref G), (.int (4 : Int32))])) rfl rfl (hb hby d3_17) _ ?_
            rw [len_of S59 M59]
            refine XS.icmpYes X51.here hx rfl (pc0 := 18) (pc' := 46) rfl (hb hby d3_18) rfl (flt (by decide)).2.1 (by decide) (by decide) ?_
            refine XS.aloadN X51.here hx rfl (hb hby d3_46) rfl rfl ?_
            refine XS.aloadN X51.here hx rfl (hb hby d3_47) rfl rfl ?_
            exact kt
          obtain ⟨T60, h60, X60, e60, W60, st60⟩ := putF X51 hx hZ hown (host := "") (Or.inl (hw _ (List.mem_of_getElem? (i := 19) rfl))) Via.refl e51 ((F_b.ext E3).other W51 (Or.inl ne_o0_b3)) ((E_o0.ext E3).wr W51) (Or.inl (hw _ (List.mem_of_getElem? (i := 20) rfl))) (hw _ (List.mem_of_getElem? (i := 4) rfl)) (ty := (.array .long)) (by decide) rfl rfl (g := (mkF m 48 #[.val (.ref o0), .val (.ref G), .val (.ref b3), .val (.int (4 : Int32))] [(.ref b3), (.ref o0)])) rfl rfl (hb hby d3_48)
          have Fw60 := ((F_b.ext E3).other W51 (Or.inl ne_o0_b3)).same W60
          have Z61 : n0 ≤ h60.size := Nat.le_trans Z52 (Nat.le_of_eq W60.size.symm)
          have Z61h : h0.size ≤ h60.size := Nat.le_trans Z52h (Nat.le_of_eq W60.size.symm)
          obtain ⟨lc60, X60, N60⟩ := own_pack1 X60 N51 g_o0
          refine own_thr (a := T60.setTop (mkF m 51 #[.val (.ref o0), .val (.ref G), .val (.ref b3), .val (.int (4 : Int32))] [])) (fun t kt => st60 t kt) ?_
          exact own_end X60 hlk (v := none) (fun _ => rfl) (fun fs hr => X60.returnOut hx Bd.returns (hb hby d3_51) hr) (by rw [e60]; exact ⟨b3, k3, rfl, N60, ((((Keep.refl h0 [o0]).ext E3).wr W51 (Or.inr sz_b3)).wr W60 (Or.inl (List.mem_of_getElem? (i := 0) rfl))), (((E_o0.ext E3).wr W51).wr W60), Fw60, (by rw [own_o0 hc7, own_o1 hc10, own_o0 hc55, own_o0 hc58]; exact (V51.other W60 (Ne.symm ne_o0_b3))), sz_b3⟩) (by decide : 1 ≤ _) (by decide : 4 ≤ _)
        · refine own_thr (a := T51.setTop (mkF m 30 #[.val (.ref o0), .val (.ref G), .val (.ref b3), .val (.int (3 : Int32))] [(.ref o0), (.int (3 : Int32)), (.ref b3)])) (fun t kt => ?_) ?_
          · show Steps p.tables e below (T51.setTop (mkF m 24 #[.val (.ref o0), .val (.ref G), .val (.ref b3), .val (.int (3 : Int32))] [(.int r3)])) _
            refine XS.ifNo X51.here hx rfl (hb hby d3_24) rfl ((if0 _ _).trans (feq hc58).1) ?_
            refine XS.aloadN X51.here hx rfl (hb hby d3_27) rfl rfl ?_
            refine XS.iloadN X51.here hx rfl (hb hby d3_28) rfl ?_
            refine XS.aloadN X51.here hx rfl (hb hby d3_29) rfl rfl ?_
            exact kt
          obtain ⟨T62, X62, e62, st62⟩ := getF X51 hx hZ hown (host := "") (Or.inl (hw _ (List.mem_of_getElem? (i := 19) rfl))) Via.refl e51 ((F_b.ext E3).other W51 (Or.inl ne_o0_b3)) (g := (mkF m 30 #[.val (.ref o0), .val (.ref G), .val (.ref b3), .val (.int (3 : Int32))] [(.ref o0), (.int (3 : Int32)), (.ref b3)])) rfl rfl (hb hby d3_30)
          refine own_thr (a := T62.setTop (mkF m 33 #[.val (.ref o0), .val (.ref G), .val (.ref b3), .val (.int (3 : Int32))] [(.ref B), (.int (3 : Int32)), (.ref b3)])) (fun t kt => st62 t kt) ?_
          refine own_thr (a := T62.setTop (mkF m 35 #[.val (.ref o0), .val (.ref G), .val (.ref b3), .val (.int (3 : Int32))] [(.int (3 : Int32)), (.ref G), (.ref B), (.int (3 : Int32)), (.ref b3)])) (fun t kt => ?_) ?_
          · show Steps p.tables e below (T62.setTop (mkF m 33 #[.val (.ref o0), .val (.ref G), .val (.ref b3), .val (.int (3 : Int32))] [(.ref B), (.int (3 : Int32)), (.ref b3)])) _
            refine XS.aloadN X62.here hx rfl (hb hby d3_33) rfl rfl ?_
            refine XS.iloadN X62.here hx rfl (hb hby d3_34) rfl ?_
            exact kt
          obtain ⟨cl63, Ar63, -, S63, M63, H63, -⟩ := id ((V_G.ext E3).other W51 ne_G_b3)
          have hin63 : ¬ ((3 : Int32) < 0 ∨ cl63.slots.size ≤ ((3 : Int32)).toNatClampNeg) := inb_of S63 ⟨by decide, by decide⟩
          have hat63 : cl63.slots[((3 : Int32)).toNatClampNeg]? = some (.int r3) := Has.at H63 hin63 rfl
          refine own_thr (a := T62.setTop (mkF m 38 #[.val (.ref o0), .val (.ref G), .val (.ref b3), .val (.int (3 : Int32))] [(.int (r3 - (1 : Int32))), (.ref B), (.int (3 : Int32)), (.ref b3)])) (fun t kt => ?_) ?_
          · show Steps p.tables e below (T62.setTop (mkF m 35 #[.val (.ref o0), .val (.ref G), .val (.ref b3), .val (.int (3 : Int32))] [(.int (3 : Int32)), (.ref G), (.ref B), (.int (3 : Int32)), (.ref b3)])) _
            refine X62.iaload hx (j := (3 : Int32)) (v := (.int r3)) (by rw [e62]; exact Ar63.1) (State.isArrayOf_alike hZ.alike Ar63.2.1) Ar63.2.2 hin63 hat63 (g := (mkF m 35 #[.val (.ref o0), .val (.ref G), .val (.ref b3), .val (.int (3 : Int32))] [(.int (3 : Int32)), (.ref G), (.ref B), (.int (3 : Int32)), (.ref b3)])) rfl rfl (hb hby d3_35) _ ?_
            refine XS.iconst X62.here hx rfl (hb hby d3_36) ?_
            refine XS.isub X62.here hx rfl (hb hby d3_37) rfl ?_
            exact kt
          obtain ⟨cl64, Ar64, S64, M64, H64⟩ := id ((V_B.ext E3).other W51 ne_B_b3)
          have hin64 : ¬ ((r3 - (1 : Int32)) < 0 ∨ cl64.slots.size ≤ ((r3 - (1 : Int32))).toNatClampNeg) := inb_of S64 ⟨(hr3 hc58).1, (hr3 hc58).2⟩
          refine own_thr (a := T62.setTop (mkF m 39 #[.val (.ref o0), .val (.ref G), .val (.ref b3), .val (.int (3 : Int32))] [(.long (x (r3 - (1 : Int32)))), (.int (3 : Int32)), (.ref b3)])) (fun t kt => ?_) ?_
          · show Steps p.tables e below (T62.setTop (mkF m 38 #[.val (.ref o0), .val (.ref G), .val (.ref b3), .val (.int (3 : Int32))] [(.int (r3 - (1 : Int32))), (.ref B), (.int (3 : Int32)), (.ref b3)])) _
            refine X62.laload hx (j := (r3 - (1 : Int32))) (v := (.long (x (r3 - (1 : Int32))))) (by rw [e62]; exact Ar64.1) (State.isArrayOf_alike hZ.alike Ar64.2.1) Ar64.2.2 hin64 (H64 (r3 - (1 : Int32)) (hr3 hc58).1 (hr3 hc58).2) (g := (mkF m 38 #[.val (.ref o0), .val (.ref G), .val (.ref b3), .val (.int (3 : Int32))] [(.int (r3 - (1 : Int32))), (.ref B), (.int (3 : Int32)), (.ref b3)])) rfl rfl (hb hby d3_38) _ ?_
            exact kt
          obtain ⟨cl65, Ar65, q65, S65, M65, H65, G65⟩ := id V51
          have hin65 : ¬ ((3 : Int32) < 0 ∨ cl65.slots.size ≤ ((3 : Int32)).toNatClampNeg) := inb_of S65 ⟨by decide, by decide⟩
          obtain ⟨T65, h65, X65, e65, W65, st65⟩ := stJ X62 hx hZ e62 Ar65 (j := (3 : Int32)) hin65 (g := (mkF m 39 #[.val (.ref o0), .val (.ref G), .val (.ref b3), .val (.int (3 : Int32))] [(.long (x (r3 - (1 : Int32)))), (.int (3 : Int32)), (.ref b3)])) rfl rfl (hb hby d3_39)
          have Z66 : n0 ≤ h65.size := Nat.le_trans Z52 (Nat.le_of_eq W65.size.symm)
          have Z66h : h0.size ≤ h65.size := Nat.le_trans Z52h (Nat.le_of_eq W65.size.symm)
          have V65 : Arv Z h65 b3 k3 .long (4 : Int32) [(.long (0 : Int64)), (.long (x (r1 - (1 : Int32)))), (.long (0 : Int64)), (.long (x (r3 - (1 : Int32))))] (.long (0 : Int64)) := Arv.set Ar65 q65 S65 M65 H65 G65 rfl W65 3 rfl (Nat.le_of_ble_eq_true rfl)
          obtain ⟨lc65, X65, N65⟩ := own_pack1 X65 N51 g_b3
          refine own_thr (a := T65.setTop (mkF m 40 #[.val (.ref o0), .val (.ref G), .val (.ref b3), .val (.int (3 : Int32))] [])) (fun t kt => st65 t kt) ?_
          refine own_thr (a := T65.setTop (mkF m 17 #[.val (.ref o0), .val (.ref G), .val (.ref b3), .val (.int (4 : Int32))] [(.ref G), (.int (4 : Int32))])) (fun t kt => ?_) ?_
          · show Steps p.tables e below (T65.setTop (mkF m 40 #[.val (.ref o0), .val (.ref G), .val (.ref b3), .val (.int (3 : Int32))] [])) _
            refine XS.iinc X65.here hx rfl (hb hby d3_40) rfl (l' := #[.val (.ref o0), .val (.ref G), .val (.ref b3), .val (.int (4 : Int32))]) rfl ?_
            refine XS.goto X65.here hx rfl (pc0 := 43) (pc' := 15) rfl (hb hby d3_43) (by decide) (by decide) ?_
            refine XS.iloadN X65.here hx rfl (hb hby d3_15) rfl ?_
            refine XS.aloadN X65.here hx rfl (hb hby d3_16) rfl rfl ?_
            exact kt
          obtain ⟨cl67, Ar67, -, S67, M67, -, -⟩ := id (((V_G.ext E3).other W51 ne_G_b3).other W65 ne_G_b3)
          refine own_thr (a := T65.setTop (mkF m 48 #[.val (.ref o0), .val (.ref G), .val (.ref b3), .val (.int (4 : Int32))] [(.ref b3), (.ref o0)])) (fun t kt => ?_) ?_
          · show Steps p.tables e below (T65.setTop (mkF m 17 #[.val (.ref o0), .val (.ref G), .val (.ref b3), .val (.int (4 : Int32))] [(.ref G), (.int (4 : Int32))])) _
            refine X65.arraylength hx (by rw [e65]; exact Ar67.1) (State.isArrayOf_alike hZ.alike Ar67.2.1) (g := (mkF m 17 #[.val (.ref o0), .val (.ref G), .val (.ref b3), .val (.int (4 : Int32))] [(.ref G), (.int (4 : Int32))])) rfl rfl (hb hby d3_17) _ ?_
            rw [len_of S67 M67]
            refine XS.icmpYes X65.here hx rfl (pc0 := 18) (pc' := 46) rfl (hb hby d3_18) rfl (flt (by decide)).2.1 (by decide) (by decide) ?_
            refine XS.aloadN X65.here hx rfl (hb hby d3_46) rfl rfl ?_
            refine XS.aloadN X65.here hx rfl (hb hby d3_47) rfl rfl ?_
            exact kt
          have c68 := (((F_b.ext E3).other W51 (Or.inl ne_o0_b3)).other W65 (Or.inl ne_o0_b3))
          obtain ⟨T69, h69, X69, e69, W69, st69⟩ := putF X65 hx hZ hown (host := "") (Or.inl (hw _ (List.mem_of_getElem? (i := 19) rfl))) Via.refl e65 c68 (((E_o0.ext E3).wr W51).wr W65) (Or.inl (hw _ (List.mem_of_getElem? (i := 20) rfl))) (hw _ (List.mem_of_getElem? (i := 4) rfl)) (ty := (.array .long)) (by decide) rfl rfl (g := (mkF m 48 #[.val (.ref o0), .val (.ref G), .val (.ref b3), .val (.int (4 : Int32))] [(.ref b3), (.ref o0)])) rfl rfl (hb hby d3_48)
          have Fw69 := c68.same W69
          have Z70 : n0 ≤ h69.size := Nat.le_trans Z66 (Nat.le_of_eq W69.size.symm)
          have Z70h : h0.size ≤ h69.size := Nat.le_trans Z66h (Nat.le_of_eq W69.size.symm)
          obtain ⟨lc69, X69, N69⟩ := own_pack1 X69 N65 g_o0
          refine own_thr (a := T69.setTop (mkF m 51 #[.val (.ref o0), .val (.ref G), .val (.ref b3), .val (.int (4 : Int32))] [])) (fun t kt => st69 t kt) ?_
          exact own_end X69 hlk (v := none) (fun _ => rfl) (fun fs hr => X69.returnOut hx Bd.returns (hb hby d3_51) hr) (by rw [e69]; exact ⟨b3, k3, rfl, N69, (((((Keep.refl h0 [o0]).ext E3).wr W51 (Or.inr sz_b3)).wr W65 (Or.inr sz_b3)).wr W69 (Or.inl (List.mem_of_getElem? (i := 0) rfl))), ((((E_o0.ext E3).wr W51).wr W65).wr W69), Fw69, (by rw [own_o0 hc7, own_o1 hc10, own_o0 hc55, own_o1 hc58]; exact (V65.other W69 (Ne.symm ne_o0_b3))), sz_b3⟩) (by decide : 1 ≤ _) (by decide : 4 ≤ _)
      · refine own_thr (a := T51.setTop (mkF m 30 #[.val (.ref o0), .val (.ref G), .val (.ref b3), .val (.int (2 : Int32))] [(.ref o0), (.int (2 : Int32)), (.ref b3)])) (fun t kt => ?_) ?_
        · show Steps p.tables e below (T51.setTop (mkF m 24 #[.val (.ref o0), .val (.ref G), .val (.ref b3), .val (.int (2 : Int32))] [(.int r2)])) _
          refine XS.ifNo X51.here hx rfl (hb hby d3_24) rfl ((if0 _ _).trans (feq hc55).1) ?_
          refine XS.aloadN X51.here hx rfl (hb hby d3_27) rfl rfl ?_
          refine XS.iloadN X51.here hx rfl (hb hby d3_28) rfl ?_
          refine XS.aloadN X51.here hx rfl (hb hby d3_29) rfl rfl ?_
          exact kt
        obtain ⟨T71, X71, e71, st71⟩ := getF X51 hx hZ hown (host := "") (Or.inl (hw _ (List.mem_of_getElem? (i := 19) rfl))) Via.refl e51 ((F_b.ext E3).other W51 (Or.inl ne_o0_b3)) (g := (mkF m 30 #[.val (.ref o0), .val (.ref G), .val (.ref b3), .val (.int (2 : Int32))] [(.ref o0), (.int (2 : Int32)), (.ref b3)])) rfl rfl (hb hby d3_30)
        refine own_thr (a := T71.setTop (mkF m 33 #[.val (.ref o0), .val (.ref G), .val (.ref b3), .val (.int (2 : Int32))] [(.ref B), (.int (2 : Int32)), (.ref b3)])) (fun t kt => st71 t kt) ?_
        refine own_thr (a := T71.setTop (mkF m 35 #[.val (.ref o0), .val (.ref G), .val (.ref b3), .val (.int (2 : Int32))] [(.int (2 : Int32)), (.ref G), (.ref B), (.int (2 : Int32)), (.ref b3)])) (fun t kt => ?_) ?_
        · show Steps p.tables e below (T71.setTop (mkF m 33 #[.val (.ref o0), .val (.ref G), .val (.ref b3), .val (.int (2 : Int32))] [(.ref B), (.int (2 : Int32)), (.ref b3)])) _
          refine XS.aloadN X71.here hx rfl (hb hby d3_33) rfl rfl ?_
          refine XS.iloadN X71.here hx rfl (hb hby d3_34) rfl ?_
          exact kt
        obtain ⟨cl72, Ar72, -, S72, M72, H72, -⟩ := id ((V_G.ext E3).other W51 ne_G_b3)
        have hin72 : ¬ ((2 : Int32) < 0 ∨ cl72.slots.size ≤ ((2 : Int32)).toNatClampNeg) := inb_of S72 ⟨by decide, by decide⟩
        have hat72 : cl72.slots[((2 : Int32)).toNatClampNeg]? = some (.int r2) := Has.at H72 hin72 rfl
        refine own_thr (a := T71.setTop (mkF m 38 #[.val (.ref o0), .val (.ref G), .val (.ref b3), .val (.int (2 : Int32))] [(.int (r2 - (1 : Int32))), (.ref B), (.int (2 : Int32)), (.ref b3)])) (fun t kt => ?_) ?_
        · show Steps p.tables e below (T71.setTop (mkF m 35 #[.val (.ref o0), .val (.ref G), .val (.ref b3), .val (.int (2 : Int32))] [(.int (2 : Int32)), (.ref G), (.ref B), (.int (2 : Int32)), (.ref b3)])) _
          refine X71.iaload hx (j := (2 : Int32)) (v := (.int r2)) (by rw [e71]; exact Ar72.1) (State.isArrayOf_alike hZ.alike Ar72.2.1) Ar72.2.2 hin72 hat72 (g := (mkF m 35 #[.val (.ref o0), .val (.ref G), .val (.ref b3), .val (.int (2 : Int32))] [(.int (2 : Int32)), (.ref G), (.ref B), (.int (2 : Int32)), (.ref b3)])) rfl rfl (hb hby d3_35) _ ?_
          refine XS.iconst X71.here hx rfl (hb hby d3_36) ?_
          refine XS.isub X71.here hx rfl (hb hby d3_37) rfl ?_
          exact kt
        obtain ⟨cl73, Ar73, S73, M73, H73⟩ := id ((V_B.ext E3).other W51 ne_B_b3)
        have hin73 : ¬ ((r2 - (1 : Int32)) < 0 ∨ cl73.slots.size ≤ ((r2 - (1 : Int32))).toNatClampNeg) := inb_of S73 ⟨(hr2 hc55).1, (hr2 hc55).2⟩
        refine own_thr (a := T71.setTop (mkF m 39 #[.val (.ref o0), .val (.ref G), .val (.ref b3), .val (.int (2 : Int32))] [(.long (x (r2 - (1 : Int32)))), (.int (2 : Int32)), (.ref b3)])) (fun t kt => ?_) ?_
        · show Steps p.tables e below (T71.setTop (mkF m 38 #[.val (.ref o0), .val (.ref G), .val (.ref b3), .val (.int (2 : Int32))] [(.int (r2 - (1 : Int32))), (.ref B), (.int (2 : Int32)), (.ref b3)])) _
          refine X71.laload hx (j := (r2 - (1 : Int32))) (v := (.long (x (r2 - (1 : Int32))))) (by rw [e71]; exact Ar73.1) (State.isArrayOf_alike hZ.alike Ar73.2.1) Ar73.2.2 hin73 (H73 (r2 - (1 : Int32)) (hr2 hc55).1 (hr2 hc55).2) (g := (mkF m 38 #[.val (.ref o0), .val (.ref G), .val (.ref b3), .val (.int (2 : Int32))] [(.int (r2 - (1 : Int32))), (.ref B), (.int (2 : Int32)), (.ref b3)])) rfl rfl (hb hby d3_38) _ ?_
          exact kt
        obtain ⟨cl74, Ar74, q74, S74, M74, H74, G74⟩ := id V51
        have hin74 : ¬ ((2 : Int32) < 0 ∨ cl74.slots.size ≤ ((2 : Int32)).toNatClampNeg) := inb_of S74 ⟨by decide, by decide⟩
        obtain ⟨T74, h74, X74, e74, W74, st74⟩ := stJ X71 hx hZ e71 Ar74 (j := (2 : Int32)) hin74 (g := (mkF m 39 #[.val (.ref o0), .val (.ref G), .val (.ref b3), .val (.int (2 : Int32))] [(.long (x (r2 - (1 : Int32)))), (.int (2 : Int32)), (.ref b3)])) rfl rfl (hb hby d3_39)
        have Z75 : n0 ≤ h74.size := Nat.le_trans Z52 (Nat.le_of_eq W74.size.symm)
        have Z75h : h0.size ≤ h74.size := Nat.le_trans Z52h (Nat.le_of_eq W74.size.symm)
        have V74 : Arv Z h74 b3 k3 .long (4 : Int32) [(.long (0 : Int64)), (.long (x (r1 - (1 : Int32)))), (.long (x (r2 - (1 : Int32)))), (.long (0 : Int64))] (.long (0 : Int64)) := Arv.set Ar74 q74 S74 M74 H74 G74 rfl W74 2 rfl (Nat.le_of_ble_eq_true rfl)
        obtain ⟨lc74, X74, N74⟩ := own_pack1 X74 N51 g_b3
        refine own_thr (a := T74.setTop (mkF m 40 #[.val (.ref o0), .val (.ref G), .val (.ref b3), .val (.int (2 : Int32))] [])) (fun t kt => st74 t kt) ?_
        refine own_thr (a := T74.setTop (mkF m 17 #[.val (.ref o0), .val (.ref G), .val (.ref b3), .val (.int (3 : Int32))] [(.ref G), (.int (3 : Int32))])) (fun t kt => ?_) ?_
        · show Steps p.tables e below (T74.setTop (mkF m 40 #[.val (.ref o0), .val (.ref G), .val (.ref b3), .val (.int (2 : Int32))] [])) _
          refine XS.iinc X74.here hx rfl (hb hby d3_40) rfl (l' := #[.val (.ref o0), .val (.ref G), .val (.ref b3), .val (.int (3 : Int32))]) rfl ?_
          refine XS.goto X74.here hx rfl (pc0 := 43) (pc' := 15) rfl (hb hby d3_43) (by decide) (by decide) ?_
          refine XS.iloadN X74.here hx rfl (hb hby d3_15) rfl ?_
          refine XS.aloadN X74.here hx rfl (hb hby d3_16) rfl rfl ?_
          exact kt
        obtain ⟨cl76, Ar76, -, S76, M76, -, -⟩ := id (((V_G.ext E3).other W51 ne_G_b3).other W74 ne_G_b3)
        refine own_thr (a := T74.setTop (mkF m 23 #[.val (.ref o0), .val (.ref G), .val (.ref b3), .val (.int (3 : Int32))] [(.int (3 : Int32)), (.ref G)])) (fun t kt => ?_) ?_
        · show Steps p.tables e below (T74.setTop (mkF m 17 #[.val (.ref o0), .val (.ref G), .val (.ref b3), .val (.int (3 : Int32))] [(.ref G), (.int (3 : Int32))])) _
          refine X74.arraylength hx (by rw [e74]; exact Ar76.1) (State.isArrayOf_alike hZ.alike Ar76.2.1) (g := (mkF m 17 #[.val (.ref o0), .val (.ref G), .val (.ref b3), .val (.int (3 : Int32))] [(.ref G), (.int (3 : Int32))])) rfl rfl (hb hby d3_17) _ ?_
          rw [len_of S76 M76]
          refine XS.icmpNo X74.here hx rfl (hb hby d3_18) rfl (tlt (by decide)).2.1 ?_
          refine XS.aloadN X74.here hx rfl (hb hby d3_21) rfl rfl ?_
          refine XS.iloadN X74.here hx rfl (hb hby d3_22) rfl ?_
          exact kt
        obtain ⟨cl77, Ar77, -, S77, M77, H77, -⟩ := id (((V_G.ext E3).other W51 ne_G_b3).other W74 ne_G_b3)
        have hin77 : ¬ ((3 : Int32) < 0 ∨ cl77.slots.size ≤ ((3 : Int32)).toNatClampNeg) := inb_of S77 ⟨by decide, by decide⟩
        have hat77 : cl77.slots[((3 : Int32)).toNatClampNeg]? = some (.int r3) := Has.at H77 hin77 rfl
        refine own_thr (a := T74.setTop (mkF m 24 #[.val (.ref o0), .val (.ref G), .val (.ref b3), .val (.int (3 : Int32))] [(.int r3)])) (fun t kt => ?_) ?_
        · show Steps p.tables e below (T74.setTop (mkF m 23 #[.val (.ref o0), .val (.ref G), .val (.ref b3), .val (.int (3 : Int32))] [(.int (3 : Int32)), (.ref G)])) _
          refine X74.iaload hx (j := (3 : Int32)) (v := (.int r3)) (by rw [e74]; exact Ar77.1) (State.isArrayOf_alike hZ.alike Ar77.2.1) Ar77.2.2 hin77 hat77 (g := (mkF m 23 #[.val (.ref o0), .val (.ref G), .val (.ref b3), .val (.int (3 : Int32))] [(.int (3 : Int32)), (.ref G)])) rfl rfl (hb hby d3_23) _ ?_
          exact kt
        by_cases hc78 : r3 = (0 : Int32)
        · refine own_thr (a := T74.setTop (mkF m 17 #[.val (.ref o0), .val (.ref G), .val (.ref b3), .val (.int (4 : Int32))] [(.ref G), (.int (4 : Int32))])) (fun t kt => ?_) ?_
          · show Steps p.tables e below (T74.setTop (mkF m 24 #[.val (.ref o0), .val (.ref G), .val (.ref b3), .val (.int (3 : Int32))] [(.int r3)])) _
            refine XS.ifYes X74.here hx rfl (pc0 := 24) (pc' := 40) rfl (hb hby d3_24) rfl ((if0 _ _).trans (teq hc78).1) (by decide) (by decide) ?_
            refine XS.iinc X74.here hx rfl (hb hby d3_40) rfl (l' := #[.val (.ref o0), .val (.ref G), .val (.ref b3), .val (.int (4 : Int32))]) rfl ?_
            refine XS.goto X74.here hx rfl (pc0 := 43) (pc' := 15) rfl (hb hby d3_43) (by decide) (by decide) ?_
            refine XS.iloadN X74.here hx rfl (hb hby d3_15) rfl ?_
            refine XS.aloadN X74.here hx rfl (hb hby d3_16) rfl rfl ?_
            exact kt
          obtain ⟨cl79, Ar79, -, S79, M79, -, -⟩ := id (((V_G.ext E3).other W51 ne_G_b3).other W74 ne_G_b3)
          refine own_thr (a := T74.setTop (mkF m 48 #[.val (.ref o0), .val (.ref G), .val (.ref b3), .val (.int (4 : Int32))] [(.ref b3), (.ref o0)])) (fun t kt => ?_) ?_
          · show Steps p.tables e below (T74.setTop (mkF m 17 #[.val (.ref o0), .val (.ref G), .val (.ref b3), .val (.int (4 : Int32))] [(.ref G), (.int (4 : Int32))])) _
            refine X74.arraylength hx (by rw [e74]; exact Ar79.1) (State.isArrayOf_alike hZ.alike Ar79.2.1) (g := (mkF m 17 #[.val (.ref o0), .val (.ref G), .val (.ref b3), .val (.int (4 : Int32))] [(.ref G), (.int (4 : Int32))])) rfl rfl (hb hby d3_17) _ ?_
            rw [len_of S79 M79]
            refine XS.icmpYes X74.here hx rfl (pc0 := 18) (pc' := 46) rfl (hb hby d3_18) rfl (flt (by decide)).2.1 (by decide) (by decide) ?_
            refine XS.aloadN X74.here hx rfl (hb hby d3_46) rfl rfl ?_
            refine XS.aloadN X74.here hx rfl (hb hby d3_47) rfl rfl ?_
            exact kt
          have c80 := (((F_b.ext E3).other W51 (Or.inl ne_o0_b3)).other W74 (Or.inl ne_o0_b3))
          obtain ⟨T81, h81, X81, e81, W81, st81⟩ := putF X74 hx hZ hown (host := "") (Or.inl (hw _ (List.mem_of_getElem? (i := 19) rfl))) Via.refl e74 c80 (((E_o0.ext E3).wr W51).wr W74) (Or.inl (hw _ (List.mem_of_getElem? (i := 20) rfl))) (hw _ (List.mem_of_getElem? (i := 4) rfl)) (ty := (.array .long)) (by decide) rfl rfl (g := (mkF m 48 #[.val (.ref o0), .val (.ref G), .val (.ref b3), .val (.int (4 : Int32))] [(.ref b3), (.ref o0)])) rfl rfl (hb hby d3_48)
          have Fw81 := c80.same W81
          have Z82 : n0 ≤ h81.size := Nat.le_trans Z75 (Nat.le_of_eq W81.size.symm)
          have Z82h : h0.size ≤ h81.size := Nat.le_trans Z75h (Nat.le_of_eq W81.size.symm)
          obtain ⟨lc81, X81, N81⟩ := own_pack1 X81 N74 g_o0
          refine own_thr (a := T81.setTop (mkF m 51 #[.val (.ref o0), .val (.ref G), .val (.ref b3), .val (.int (4 : Int32))] [])) (fun t kt => st81 t kt) ?_
          exact own_end X81 hlk (v := none) (fun _ => rfl) (fun fs hr => X81.returnOut hx Bd.returns (hb hby d3_51) hr) (by rw [e81]; exact ⟨b3, k3, rfl, N81, (((((Keep.refl h0 [o0]).ext E3).wr W51 (Or.inr sz_b3)).wr W74 (Or.inr sz_b3)).wr W81 (Or.inl (List.mem_of_getElem? (i := 0) rfl))), ((((E_o0.ext E3).wr W51).wr W74).wr W81), Fw81, (by rw [own_o0 hc7, own_o1 hc10, own_o1 hc55, own_o0 hc78]; exact (V74.other W81 (Ne.symm ne_o0_b3))), sz_b3⟩) (by decide : 1 ≤ _) (by decide : 4 ≤ _)
        · refine own_thr (a := T74.setTop (mkF m 30 #[.val (.ref o0), .val (.ref G), .val (.ref b3), .val (.int (3 : Int32))] [(.ref o0), (.int (3 : Int32)), (.ref b3)])) (fun t kt => ?_) ?_
          · show Steps p.tables e below (T74.setTop (mkF m 24 #[.val (.ref o0), .val (.ref G), .val (.ref b3), .val (.int (3 : Int32))] [(.int r3)])) _
            refine XS.ifNo X74.here hx rfl (hb hby d3_24) rfl ((if0 _ _).trans (feq hc78).1) ?_
            refine XS.aloadN X74.here hx rfl (hb hby d3_27) rfl rfl ?_
            refine XS.iloadN X74.here hx rfl (hb hby d3_28) rfl ?_
            refine XS.aloadN X74.here hx rfl (hb hby d3_29) rfl rfl ?_
            exact kt
          have c83 := (((F_b.ext E3).other W51 (Or.inl ne_o0_b3)).other W74 (Or.inl ne_o0_b3))
          obtain ⟨T84, X84, e84, st84⟩ := getF X74 hx hZ hown (host := "") (Or.inl (hw _ (List.mem_of_getElem? (i := 19) rfl))) Via.refl e74 c83 (g := (mkF m 30 #[.val (.ref o0), .val (.ref G), .val (.ref b3), .val (.int (3 : Int32))] [(.ref o0), (.int (3 : Int32)), (.ref b3)])) rfl rfl (hb hby d3_30)
          refine own_thr (a := T84.setTop (mkF m 33 #[.val (.ref o0), .val (.ref G), .val (.ref b3), .val (.int (3 : Int32))] [(.ref B), (.int (3 : Int32)), (.ref b3)])) (fun t kt => st84 t kt) ?_
          refine own_thr (a := T84.setTop (mkF m 35 #[.val (.ref o0), .val (.ref G), .val (.ref b3), .val (.int (3 : Int32))] [(.int (3 : Int32)), (.ref G), (.ref B), (.int (3 : Int32)), (.ref b3)])) (fun t kt => ?_) ?_
          · show Steps p.tables e below (T84.setTop (mkF m 33 #[.val (.ref o0), .val (.ref G), .val (.ref b3), .val (.int (3 : Int32))] [(.ref B), (.int (3 : Int32)), (.ref b3)])) _
            refine XS.aloadN X84.here hx rfl (hb hby d3_33) rfl rfl ?_
            refine XS.iloadN X84.here hx rfl (hb hby d3_34) rfl ?_
            exact kt
          obtain ⟨cl85, Ar85, -, S85, M85, H85, -⟩ := id (((V_G.ext E3).other W51 ne_G_b3).other W74 ne_G_b3)
          have hin85 : ¬ ((3 : Int32) < 0 ∨ cl85.slots.size ≤ ((3 : Int32)).toNatClampNeg) := inb_of S85 ⟨by decide, by decide⟩
          have hat85 : cl85.slots[((3 : Int32)).toNatClampNeg]? = some (.int r3) := Has.at H85 hin85 rfl
          refine own_thr (a := T84.setTop (mkF m 38 #[.val (.ref o0), .val (.ref G), .val (.ref b3), .val (.int (3 : Int32))] [(.int (r3 - (1 : Int32))), (.ref B), (.int (3 : Int32)), (.ref b3)])) (fun t kt => ?_) ?_
          · show Steps p.tables e below (T84.setTop (mkF m 35 #[.val (.ref o0), .val (.ref G), .val (.ref b3), .val (.int (3 : Int32))] [(.int (3 : Int32)), (.ref G), (.ref B), (.int (3 : Int32)), (.ref b3)])) _
            refine X84.iaload hx (j := (3 : Int32)) (v := (.int r3)) (by rw [e84]; exact Ar85.1) (State.isArrayOf_alike hZ.alike Ar85.2.1) Ar85.2.2 hin85 hat85 (g := (mkF m 35 #[.val (.ref o0), .val (.ref G), .val (.ref b3), .val (.int (3 : Int32))] [(.int (3 : Int32)), (.ref G), (.ref B), (.int (3 : Int32)), (.ref b3)])) rfl rfl (hb hby d3_35) _ ?_
            refine XS.iconst X84.here hx rfl (hb hby d3_36) ?_
            refine XS.isub X84.here hx rfl (hb hby d3_37) rfl ?_
            exact kt
          obtain ⟨cl86, Ar86, S86, M86, H86⟩ := id (((V_B.ext E3).other W51 ne_B_b3).other W74 ne_B_b3)
          have hin86 : ¬ ((r3 - (1 : Int32)) < 0 ∨ cl86.slots.size ≤ ((r3 - (1 : Int32))).toNatClampNeg) := inb_of S86 ⟨(hr3 hc78).1, (hr3 hc78).2⟩
          refine own_thr (a := T84.setTop (mkF m 39 #[.val (.ref o0), .val (.ref G), .val (.ref b3), .val (.int (3 : Int32))] [(.long (x (r3 - (1 : Int32)))), (.int (3 : Int32)), (.ref b3)])) (fun t kt => ?_) ?_
          · show Steps p.tables e below (T84.setTop (mkF m 38 #[.val (.ref o0), .val (.ref G), .val (.ref b3), .val (.int (3 : Int32))] [(.int (r3 - (1 : Int32))), (.ref B), (.int (3 : Int32)), (.ref b3)])) _
            refine X84.laload hx (j := (r3 - (1 : Int32))) (v := (.long (x (r3 - (1 : Int32))))) (by rw [e84]; exact Ar86.1) (State.isArrayOf_alike hZ.alike Ar86.2.1) Ar86.2.2 hin86 (H86 (r3 - (1 : Int32)) (hr3 hc78).1 (hr3 hc78).2) (g := (mkF m 38 #[.val (.ref o0), .val (.ref G), .val (.ref b3), .val (.int (3 : Int32))] [(.int (r3 - (1 : Int32))), (.ref B), (.int (3 : Int32)), (.ref b3)])) rfl rfl (hb hby d3_38) _ ?_
            exact kt
          obtain ⟨cl87, Ar87, q87, S87, M87, H87, G87⟩ := id V74
          have hin87 : ¬ ((3 : Int32) < 0 ∨ cl87.slots.size ≤ ((3 : Int32)).toNatClampNeg) := inb_of S87 ⟨by decide, by decide⟩
          obtain ⟨T87, h87, X87, e87, W87, st87⟩ := stJ X84 hx hZ e84 Ar87 (j := (3 : Int32)) hin87 (g := (mkF m 39 #[.val (.ref o0), .val (.ref G), .val (.ref b3), .val (.int (3 : Int32))] [(.long (x (r3 - (1 : Int32)))), (.int (3 : Int32)), (.ref b3)])) rfl rfl (hb hby d3_39)
          have Z88 : n0 ≤ h87.size := Nat.le_trans Z75 (Nat.le_of_eq W87.size.symm)
          have Z88h : h0.size ≤ h87.size := Nat.le_trans Z75h (Nat.le_of_eq W87.size.symm)
          have V87 : Arv Z h87 b3 k3 .long (4 : Int32) [(.long (0 : Int64)), (.long (x (r1 - (1 : Int32)))), (.long (x (r2 - (1 : Int32)))), (.long (x (r3 - (1 : Int32))))] (.long (0 : Int64)) := Arv.set Ar87 q87 S87 M87 H87 G87 rfl W87 3 rfl (Nat.le_of_ble_eq_true rfl)
          obtain ⟨lc87, X87, N87⟩ := own_pack1 X87 N74 g_b3
          refine own_thr (a := T87.setTop (mkF m 40 #[.val (.ref o0), .val (.ref G), .val (.ref b3), .val (.int (3 : Int32))] [])) (fun t kt => st87 t kt) ?_
          refine own_thr (a := T87.setTop (mkF m 17 #[.val (.ref o0), .val (.ref G), .val (.ref b3), .val (.int (4 : Int32))] [(.ref G), (.int (4 : Int32))])) (fun t kt => ?_) ?_
          · show Steps p.tables e below (T87.setTop (mkF m 40 #[.val (.ref o0), .val (.ref G), .val (.ref b3), .val (.int (3 : Int32))] [])) _
            refine XS.iinc X87.here hx rfl (hb hby d3_40) rfl (l' := #[.val (.ref o0), .val (.ref G), .val (.ref b3), .val (.int (4 : Int32))]) rfl ?_
            refine XS.goto X87.here hx rfl (pc0 := 43) (pc' := 15) rfl (hb hby d3_43) (by decide) (by decide) ?_
            refine XS.iloadN X87.here hx rfl (hb hby d3_15) rfl ?_
            refine XS.aloadN X87.here hx rfl (hb hby d3_16) rfl rfl ?_
            exact kt
          have c90 := ((((V_G.ext E3).other W51 ne_G_b3).other W74 ne_G_b3).other W87 ne_G_b3)
          obtain ⟨cl89, Ar89, -, S89, M89, -, -⟩ := id c90
          refine own_thr (a := T87.setTop (mkF m 48 #[.val (.ref o0), .val (.ref G), .val (.ref b3), .val (.int (4 : Int32))] [(.ref b3), (.ref o0)])) (fun t kt => ?_) ?_
          · show Steps p.tables e below (T87.setTop (mkF m 17 #[.val (.ref o0), .val (.ref G), .val (.ref b3), .val (.int (4 : Int32))] [(.ref G), (.int (4 : Int32))])) _
            refine X87.arraylength hx (by rw [e87]; exact Ar89.1) (State.isArrayOf_alike hZ.alike Ar89.2.1) (g := (mkF m 17 #[.val (.ref o0), .val (.ref G), .val (.ref b3), .val (.int (4 : Int32))] [(.ref G), (.int (4 : Int32))])) rfl rfl (hb hby d3_17) _ ?_
            rw [len_of S89 M89]
            refine XS.icmpYes X87.here hx rfl (pc0 := 18) (pc' := 46) rfl (hb hby d3_18) rfl (flt (by decide)).2.1 (by decide) (by decide) ?_
            refine XS.aloadN X87.here hx rfl (hb hby d3_46) rfl rfl ?_
            refine XS.aloadN X87.here hx rfl (hb hby d3_47) rfl rfl ?_
            exact kt
          obtain ⟨T91, h91, X91, e91, W91, st91⟩ := putF X87 hx hZ hown (host := "") (Or.inl (hw _ (List.mem_of_getElem? (i := 19) rfl))) Via.refl e87 (c83.other W87 (Or.inl ne_o0_b3)) ((((E_o0.ext E3).wr W51).wr W74).wr W87) (Or.inl (hw _ (List.mem_of_getElem? (i := 20) rfl))) (hw _ (List.mem_of_getElem? (i := 4) rfl)) (ty := (.array .long)) (by decide) rfl rfl (g := (mkF m 48 #[.val (.ref o0), .val (.ref G), .val (.ref b3), .val (.int (4 : Int32))] [(.ref b3), (.ref o0)])) rfl rfl (hb hby d3_48)
          have Fw91 := (c83.other W87 (Or.inl ne_o0_b3)).same W91
          have Z92 : n0 ≤ h91.size := Nat.le_trans Z88 (Nat.le_of_eq W91.size.symm)
          have Z92h : h0.size ≤ h91.size := Nat.le_trans Z88h (Nat.le_of_eq W91.size.symm)
          obtain ⟨lc91, X91, N91⟩ := own_pack1 X91 N87 g_o0
          refine own_thr (a := T91.setTop (mkF m 51 #[.val (.ref o0), .val (.ref G), .val (.ref b3), .val (.int (4 : Int32))] [])) (fun t kt => st91 t kt) ?_
          exact own_end X91 hlk (v := none) (fun _ => rfl) (fun fs hr => X91.returnOut hx Bd.returns (hb hby d3_51) hr) (by rw [e91]; exact ⟨b3, k3, rfl, N91, ((((((Keep.refl h0 [o0]).ext E3).wr W51 (Or.inr sz_b3)).wr W74 (Or.inr sz_b3)).wr W87 (Or.inr sz_b3)).wr W91 (Or.inl (List.mem_of_getElem? (i := 0) rfl))), (((((E_o0.ext E3).wr W51).wr W74).wr W87).wr W91), Fw91, (by rw [own_o0 hc7, own_o1 hc10, own_o1 hc55, own_o1 hc78]; exact (V87.other W91 (Ne.symm ne_o0_b3))), sz_b3⟩) (by decide : 1 ≤ _) (by decide : 4 ≤ _)
  · refine own_thr (a := T3.setTop (mkF m 30 #[.val (.ref o0), .val (.ref G), .val (.ref b3), .val (.int (0 : Int32))] [(.ref o0), (.int (0 : Int32)), (.ref b3)])) (fun t kt => ?_) ?_
    · show Steps p.tables e below (T3.setTop (mkF m 24 #[.val (.ref o0), .val (.ref G), .val (.ref b3), .val (.int (0 : Int32))] [(.int r0)])) _
      refine XS.ifNo X3.here hx rfl (hb hby d3_24) rfl ((if0 _ _).trans (feq hc7).1) ?_
      refine XS.aloadN X3.here hx rfl (hb hby d3_27) rfl rfl ?_
      refine XS.iloadN X3.here hx rfl (hb hby d3_28) rfl ?_
      refine XS.aloadN X3.here hx rfl (hb hby d3_29) rfl rfl ?_
      exact kt
    obtain ⟨T93, X93, e93, st93⟩ := getF X3 hx hZ hown (host := "") (Or.inl (hw _ (List.mem_of_getElem? (i := 19) rfl))) Via.refl e3 (F_b.ext E3) (g := (mkF m 30 #[.val (.ref o0), .val (.ref G), .val (.ref b3), .val (.int (0 : Int32))] [(.ref o0), (.int (0 : Int32)), (.ref b3)])) rfl rfl (hb hby d3_30)
    refine own_thr (a := T93.setTop (mkF m 33 #[.val (.ref o0), .val (.ref G), .val (.ref b3), .val (.int (0 : Int32))] [(.ref B), (.int (0 : Int32)), (.ref b3)])) (fun t kt => st93 t kt) ?_
    refine own_thr (a := T93.setTop (mkF m 35 #[.val (.ref o0), .val (.ref G), .val (.ref b3), .val (.int (0 : Int32))] [(.int (0 : Int32)), (.ref G), (.ref B), (.int (0 : Int32)), (.ref b3)])) (fun t kt => ?_) ?_
    · show Steps p.tables e below (T93.setTop (mkF m 33 #[.val (.ref o0), .val (.ref G), .val (.ref b3), .val (.int (0 : Int32))] [(.ref B), (.int (0 : Int32)), (.ref b3)])) _
      refine XS.aloadN X93.here hx rfl (hb hby d3_33) rfl rfl ?_
      refine XS.iloadN X93.here hx rfl (hb hby d3_34) rfl ?_
      exact kt
    obtain ⟨cl94, Ar94, -, S94, M94, H94, -⟩ := id (V_G.ext E3)
    have hin94 : ¬ ((0 : Int32) < 0 ∨ cl94.slots.size ≤ ((0 : Int32)).toNatClampNeg) := inb_of S94 ⟨by decide, by decide⟩
    have hat94 : cl94.slots[((0 : Int32)).toNatClampNeg]? = some (.int r0) := Has.at H94 hin94 rfl
    refine own_thr (a := T93.setTop (mkF m 38 #[.val (.ref o0), .val (.ref G), .val (.ref b3), .val (.int (0 : Int32))] [(.int (r0 - (1 : Int32))), (.ref B), (.int (0 : Int32)), (.ref b3)])) (fun t kt => ?_) ?_
    · show Steps p.tables e below (T93.setTop (mkF m 35 #[.val (.ref o0), .val (.ref G), .val (.ref b3), .val (.int (0 : Int32))] [(.int (0 : Int32)), (.ref G), (.ref B), (.int (0 : Int32)), (.ref b3)])) _
      refine X93.iaload hx (j := (0 : Int32)) (v := (.int r0)) (by rw [e93]; exact Ar94.1) (State.isArrayOf_alike hZ.alike Ar94.2.1) Ar94.2.2 hin94 hat94 (g := (mkF m 35 #[.val (.ref o0), .val (.ref G), .val (.ref b3), .val (.int (0 : Int32))] [(.int (0 : Int32)), (.ref G), (.ref B), (.int (0 : Int32)), (.ref b3)])) rfl rfl (hb hby d3_35) _ ?_
      refine XS.iconst X93.here hx rfl (hb hby d3_36) ?_
      refine XS.isub X93.here hx rfl (hb hby d3_37) rfl ?_
      exact kt
    obtain ⟨cl95, Ar95, S95, M95, H95⟩ := id (V_B.ext E3)
    have hin95 : ¬ ((r0 - (1 : Int32)) < 0 ∨ cl95.slots.size ≤ ((r0 - (1 : Int32))).toNatClampNeg) := inb_of S95 ⟨(hr0 hc7).1, (hr0 hc7).2⟩
    refine own_thr (a := T93.setTop (mkF m 39 #[.val (.ref o0), .val (.ref G), .val (.ref b3), .val (.int (0 : Int32))] [(.long (x (r0 - (1 : Int32)))), (.int (0 : Int32)), (.ref b3)])) (fun t kt => ?_) ?_
    · show Steps p.tables e below (T93.setTop (mkF m 38 #[.val (.ref o0), .val (.ref G), .val (.ref b3), .val (.int (0 : Int32))] [(.int (r0 - (1 : Int32))), (.ref B), (.int (0 : Int32)), (.ref b3)])) _
      refine X93.laload hx (j := (r0 - (1 : Int32))) (v := (.long (x (r0 - (1 : Int32))))) (by rw [e93]; exact Ar95.1) (State.isArrayOf_alike hZ.alike Ar95.2.1) Ar95.2.2 hin95 (H95 (r0 - (1 : Int32)) (hr0 hc7).1 (hr0 hc7).2) (g := (mkF m 38 #[.val (.ref o0), .val (.ref G), .val (.ref b3), .val (.int (0 : Int32))] [(.int (r0 - (1 : Int32))), (.ref B), (.int (0 : Int32)), (.ref b3)])) rfl rfl (hb hby d3_38) _ ?_
      exact kt
    obtain ⟨cl96, Ar96, q96, S96, M96, H96, G96⟩ := id V_b3
    have hin96 : ¬ ((0 : Int32) < 0 ∨ cl96.slots.size ≤ ((0 : Int32)).toNatClampNeg) := inb_of S96 ⟨by decide, by decide⟩
    obtain ⟨T96, h96, X96, e96, W96, st96⟩ := stJ X93 hx hZ e93 Ar96 (j := (0 : Int32)) hin96 (g := (mkF m 39 #[.val (.ref o0), .val (.ref G), .val (.ref b3), .val (.int (0 : Int32))] [(.long (x (r0 - (1 : Int32)))), (.int (0 : Int32)), (.ref b3)])) rfl rfl (hb hby d3_39)
    have Z97 : n0 ≤ h96.size := Nat.le_trans Z4 (Nat.le_of_eq W96.size.symm)
    have Z97h : h0.size ≤ h96.size := Nat.le_trans Z4h (Nat.le_of_eq W96.size.symm)
    have V96 : Arv Z h96 b3 k3 .long (4 : Int32) [(.long (x (r0 - (1 : Int32)))), (.long (0 : Int64)), (.long (0 : Int64)), (.long (0 : Int64))] (.long (0 : Int64)) := Arv.set Ar96 q96 S96 M96 H96 G96 rfl W96 0 rfl (Nat.le_of_ble_eq_true rfl)
    obtain ⟨lc96, X96, N96⟩ := own_pack1 X96 N0 g_b3
    refine own_thr (a := T96.setTop (mkF m 40 #[.val (.ref o0), .val (.ref G), .val (.ref b3), .val (.int (0 : Int32))] [])) (fun t kt => st96 t kt) ?_
    refine own_thr (a := T96.setTop (mkF m 17 #[.val (.ref o0), .val (.ref G), .val (.ref b3), .val (.int (1 : Int32))] [(.ref G), (.int (1 : Int32))])) (fun t kt => ?_) ?_
    · show Steps p.tables e below (T96.setTop (mkF m 40 #[.val (.ref o0), .val (.ref G), .val (.ref b3), .val (.int (0 : Int32))] [])) _
      refine XS.iinc X96.here hx rfl (hb hby d3_40) rfl (l' := #[.val (.ref o0), .val (.ref G), .val (.ref b3), .val (.int (1 : Int32))]) rfl ?_
      refine XS.goto X96.here hx rfl (pc0 := 43) (pc' := 15) rfl (hb hby d3_43) (by decide) (by decide) ?_
      refine XS.iloadN X96.here hx rfl (hb hby d3_15) rfl ?_
      refine XS.aloadN X96.here hx rfl (hb hby d3_16) rfl rfl ?_
      exact kt
    obtain ⟨cl98, Ar98, -, S98, M98, -, -⟩ := id ((V_G.ext E3).other W96 ne_G_b3)
    refine own_thr (a := T96.setTop (mkF m 23 #[.val (.ref o0), .val (.ref G), .val (.ref b3), .val (.int (1 : Int32))] [(.int (1 : Int32)), (.ref G)])) (fun t kt => ?_) ?_
    · show Steps p.tables e below (T96.setTop (mkF m 17 #[.val (.ref o0), .val (.ref G), .val (.ref b3), .val (.int (1 : Int32))] [(.ref G), (.int (1 : Int32))])) _
      refine X96.arraylength hx (by rw [e96]; exact Ar98.1) (State.isArrayOf_alike hZ.alike Ar98.2.1) (g := (mkF m 17 #[.val (.ref o0), .val (.ref G), .val (.ref b3), .val (.int (1 : Int32))] [(.ref G), (.int (1 : Int32))])) rfl rfl (hb hby d3_17) _ ?_
      rw [len_of S98 M98]
      refine XS.icmpNo X96.here hx rfl (hb hby d3_18) rfl (tlt (by decide)).2.1 ?_
      refine XS.aloadN X96.here hx rfl (hb hby d3_21) rfl rfl ?_
      refine XS.iloadN X96.here hx rfl (hb hby d3_22) rfl ?_
      exact kt
    obtain ⟨cl99, Ar99, -, S99, M99, H99, -⟩ := id ((V_G.ext E3).other W96 ne_G_b3)
    have hin99 : ¬ ((1 : Int32) < 0 ∨ cl99.slots.size ≤ ((1 : Int32)).toNatClampNeg) := inb_of S99 ⟨by decide, by decide⟩
    have hat99 : cl99.slots[((1 : Int32)).toNatClampNeg]? = some (.int r1) := Has.at H99 hin99 rfl
    refine own_thr (a := T96.setTop (mkF m 24 #[.val (.ref o0), .val (.ref G), .val (.ref b3), .val (.int (1 : Int32))] [(.int r1)])) (fun t kt => ?_) ?_
    · show Steps p.tables e below (T96.setTop (mkF m 23 #[.val (.ref o0), .val (.ref G), .val (.ref b3), .val (.int (1 : Int32))] [(.int (1 : Int32)), (.ref G)])) _
      refine X96.iaload hx (j := (1 : Int32)) (v := (.int r1)) (by rw [e96]; exact Ar99.1) (State.isArrayOf_alike hZ.alike Ar99.2.1) Ar99.2.2 hin99 hat99 (g := (mkF m 23 #[.val (.ref o0), .val (.ref G), .val (.ref b3), .val (.int (1 : Int32))] [(.int (1 : Int32)), (.ref G)])) rfl rfl (hb hby d3_23) _ ?_
      exact kt
    by_cases hc100 : r1 = (0 : Int32)
    · refine own_thr (a := T96.setTop (mkF m 17 #[.val (.ref o0), .val (.ref G), .val (.ref b3), .val (.int (2 : Int32))] [(.ref G), (.int (2 : Int32))])) (fun t kt => ?_) ?_
      · show Steps p.tables e below (T96.setTop (mkF m 24 #[.val (.ref o0), .val (.ref G), .val (.ref b3), .val (.int (1 : Int32))] [(.int r1)])) _
        refine XS.ifYes X96.here hx rfl (pc0 := 24) (pc' := 40) rfl (hb hby d3_24) rfl ((if0 _ _).trans (teq hc100).1) (by decide) (by decide) ?_
        refine XS.iinc X96.here hx rfl (hb hby d3_40) rfl (l' := #[.val (.ref o0), .val (.ref G), .val (.ref b3), .val (.int (2 : Int32))]) rfl ?_
        refine XS.goto X96.here hx rfl (pc0 := 43) (pc' := 15) rfl (hb hby d3_43) (by decide) (by decide) ?_
        refine XS.iloadN X96.here hx rfl (hb hby d3_15) rfl ?_
        refine XS.aloadN X96.here hx rfl (hb hby d3_16) rfl rfl ?_
        exact kt
      obtain ⟨cl101, Ar101, -, S101, M101, -, -⟩ := id ((V_G.ext E3).other W96 ne_G_b3)
      refine own_thr (a := T96.setTop (mkF m 23 #[.val (.ref o0), .val (.ref G), .val (.ref b3), .val (.int (2 : Int32))] [(.int (2 : Int32)), (.ref G)])) (fun t kt => ?_) ?_
      · show Steps p.tables e below (T96.setTop (mkF m 17 #[.val (.ref o0), .val (.ref G), .val (.ref b3), .val (.int (2 : Int32))] [(.ref G), (.int (2 : Int32))])) _
        refine X96.arraylength hx (by rw [e96]; exact Ar101.1) (State.isArrayOf_alike hZ.alike Ar101.2.1) (g := (mkF m 17 #[.val (.ref o0), .val (.ref G), .val (.ref b3), .val (.int (2 : Int32))] [(.ref G), (.int (2 : Int32))])) rfl rfl (hb hby d3_17) _ ?_
        rw [len_of S101 M101]
        refine XS.icmpNo X96.here hx rfl (hb hby d3_18) rfl (tlt (by decide)).2.1 ?_
        refine XS.aloadN X96.here hx rfl (hb hby d3_21) rfl rfl ?_
        refine XS.iloadN X96.here hx rfl (hb hby d3_22) rfl ?_
        exact kt
      obtain ⟨cl102, Ar102, -, S102, M102, H102, -⟩ := id ((V_G.ext E3).other W96 ne_G_b3)
      have hin102 : ¬ ((2 : Int32) < 0 ∨ cl102.slots.size ≤ ((2 : Int32)).toNatClampNeg) := inb_of S102 ⟨by decide, by decide⟩
      have hat102 : cl102.slots[((2 : Int32)).toNatClampNeg]? = some (.int r2) := Has.at H102 hin102 rfl
      refine own_thr (a := T96.setTop (mkF m 24 #[.val (.ref o0), .val (.ref G), .val (.ref b3), .val (.int (2 : Int32))] [(.int r2)])) (fun t kt => ?_) ?_
      · show Steps p.tables e below (T96.setTop (mkF m 23 #[.val (.ref o0), .val (.ref G), .val (.ref b3), .val (.int (2 : Int32))] [(.int (2 : Int32)), (.ref G)])) _
        refine X96.iaload hx (j := (2 : Int32)) (v := (.int r2)) (by rw [e96]; exact Ar102.1) (State.isArrayOf_alike hZ.alike Ar102.2.1) Ar102.2.2 hin102 hat102 (g := (mkF m 23 #[.val (.ref o0), .val (.ref G), .val (.ref b3), .val (.int (2 : Int32))] [(.int (2 : Int32)), (.ref G)])) rfl rfl (hb hby d3_23) _ ?_
        exact kt
      by_cases hc103 : r2 = (0 : Int32)
      · refine own_thr (a := T96.setTop (mkF m 17 #[.val (.ref o0), .val (.ref G), .val (.ref b3), .val (.int (3 : Int32))] [(.ref G), (.int (3 : Int32))])) (fun t kt => ?_) ?_
        · show Steps p.tables e below (T96.setTop (mkF m 24 #[.val (.ref o0), .val (.ref G), .val (.ref b3), .val (.int (2 : Int32))] [(.int r2)])) _
          refine XS.ifYes X96.here hx rfl (pc0 := 24) (pc' := 40) rfl (hb hby d3_24) rfl ((if0 _ _).trans (teq hc103).1) (by decide) (by decide) ?_
          refine XS.iinc X96.here hx rfl (hb hby d3_40) rfl (l' := #[.val (.ref o0), .val (.ref G), .val (.ref b3), .val (.int (3 : Int32))]) rfl ?_
          refine XS.goto X96.here hx rfl (pc0 := 43) (pc' := 15) rfl (hb hby d3_43) (by decide) (by decide) ?_
          refine XS.iloadN X96.here hx rfl (hb hby d3_15) rfl ?_
          refine XS.aloadN X96.here hx rfl (hb hby d3_16) rfl rfl ?_
          exact kt
        obtain ⟨cl104, Ar104, -, S104, M104, -, -⟩ := id ((V_G.ext E3).other W96 ne_G_b3)
        refine own_thr (a := T96.setTop (mkF m 23 #[.val (.ref o0), .val (.ref G), .val (.ref b3), .val (.int (3 : Int32))] [(.int (3 : Int32)), (.ref G)])) (fun t kt => ?_) ?_
        · show Steps p.tables e below (T96.setTop (mkF m 17 #[.val (.ref o0), .val (.ref G), .val (.ref b3), .val (.int (3 : Int32))] [(.ref G), (.int (3 : Int32))])) _
          refine X96.arraylength hx (by rw [e96]; exact Ar104.1) (State.isArrayOf_alike hZ.alike Ar104.2.1) (g := (mkF m 17 #[.val (.ref o0), .val (.ref G), .val (.ref b3), .val (.int (3 : Int32))] [(.ref G), (.int (3 : Int32))])) rfl rfl (hb hby d3_17) _ ?_
          rw [len_of S104 M104]
          refine XS.icmpNo X96.here hx rfl (hb hby d3_18) rfl (tlt (by decide)).2.1 ?_
          refine XS.aloadN X96.here hx rfl (hb hby d3_21) rfl rfl ?_
          refine XS.iloadN X96.here hx rfl (hb hby d3_22) rfl ?_
          exact kt
        obtain ⟨cl105, Ar105, -, S105, M105, H105, -⟩ := id ((V_G.ext E3).other W96 ne_G_b3)
        have hin105 : ¬ ((3 : Int32) < 0 ∨ cl105.slots.size ≤ ((3 : Int32)).toNatClampNeg) := inb_of S105 ⟨by decide, by decide⟩
        have hat105 : cl105.slots[((3 : Int32)).toNatClampNeg]? = some (.int r3) := Has.at H105 hin105 rfl
        refine own_thr (a := T96.setTop (mkF m 24 #[.val (.ref o0), .val (.ref G), .val (.ref b3), .val (.int (3 : Int32))] [(.int r3)])) (fun t kt => ?_) ?_
        · show Steps p.tables e below (T96.setTop (mkF m 23 #[.val (.ref o0), .val (.ref G), .val (.ref b3), .val (.int (3 : Int32))] [(.int (3 : Int32)), (.ref G)])) _
          refine X96.iaload hx (j := (3 : Int32)) (v := (.int r3)) (by rw [e96]; exact Ar105.1) (State.isArrayOf_alike hZ.alike Ar105.2.1) Ar105.2.2 hin105 hat105 (g := (mkF m 23 #[.val (.ref o0), .val (.ref G), .val (.ref b3), .val (.int (3 : Int32))] [(.int (3 : Int32)), (.ref G)])) rfl rfl (hb hby d3_23) _ ?_
          exact kt
        by_cases hc106 : r3 = (0 : Int32)
        · refine own_thr (a := T96.setTop (mkF m 17 #[.val (.ref o0), .val (.ref G), .val (.ref b3), .val (.int (4 : Int32))] [(.ref G), (.int (4 : Int32))])) (fun t kt => ?_) ?_
          · show Steps p.tables e below (T96.setTop (mkF m 24 #[.val (.ref o0), .val (.ref G), .val (.ref b3), .val (.int (3 : Int32))] [(.int r3)])) _
            refine XS.ifYes X96.here hx rfl (pc0 := 24) (pc' := 40) rfl (hb hby d3_24) rfl ((if0 _ _).trans (teq hc106).1) (by decide) (by decide) ?_
            refine XS.iinc X96.here hx rfl (hb hby d3_40) rfl (l' := #[.val (.ref o0), .val (.ref G), .val (.ref b3), .val (.int (4 : Int32))]) rfl ?_
            refine XS.goto X96.here hx rfl (pc0 := 43) (pc' := 15) rfl (hb hby d3_43) (by decide) (by decide) ?_
            refine XS.iloadN X96.here hx rfl (hb hby d3_15) rfl ?_
            refine XS.aloadN X96.here hx rfl (hb hby d3_16) rfl rfl ?_
            exact kt
          obtain ⟨cl107, Ar107, -, S107, M107, -, -⟩ := id ((V_G.ext E3).other W96 ne_G_b3)
          refine own_thr (a := T96.setTop (mkF m 48 #[.val (.ref o0), .val (.ref G), .val (.ref b3), .val (.int (4 : Int32))] [(.ref b3), (.ref o0)])) (fun t kt => ?_) ?_
          · show Steps p.tables e below (T96.setTop (mkF m 17 #[.val (.ref o0), .val (.ref G), .val (.ref b3), .val (.int (4 : Int32))] [(.ref G), (.int (4 : Int32))])) _
            refine X96.arraylength hx (by rw [e96]; exact Ar107.1) (State.isArrayOf_alike hZ.alike Ar107.2.1) (g := (mkF m 17 #[.val (.ref o0), .val (.ref G), .val (.ref b3), .val (.int (4 : Int32))] [(.ref G), (.int (4 : Int32))])) rfl rfl (hb hby d3_17) _ ?_
            rw [len_of S107 M107]
            refine XS.icmpYes X96.here hx rfl (pc0 := 18) (pc' := 46) rfl (hb hby d3_18) rfl (flt (by decide)).2.1 (by decide) (by decide) ?_
            refine XS.aloadN X96.here hx rfl (hb hby d3_46) rfl rfl ?_
            refine XS.aloadN X96.here hx rfl (hb hby d3_47) rfl rfl ?_
            exact kt
          obtain ⟨T108, h108, X108, e108, W108, st108⟩ := putF X96 hx hZ hown (host := "") (Or.inl (hw _ (List.mem_of_getElem? (i := 19) rfl))) Via.refl e96 ((F_b.ext E3).other W96 (Or.inl ne_o0_b3)) ((E_o0.ext E3).wr W96) (Or.inl (hw _ (List.mem_of_getElem? (i := 20) rfl))) (hw _ (List.mem_of_getElem? (i := 4) rfl)) (ty := (.array .long)) (by decide) rfl rfl (g := (mkF m 48 #[.val (.ref o0), .val (.ref G), .val (.ref b3), .val (.int (4 : Int32))] [(.ref b3), (.ref o0)])) rfl rfl (hb hby d3_48)
          have Fw108 := ((F_b.ext E3).other W96 (Or.inl ne_o0_b3)).same W108
          have Z109 : n0 ≤ h108.size := Nat.le_trans Z97 (Nat.le_of_eq W108.size.symm)
          have Z109h : h0.size ≤ h108.size := Nat.le_trans Z97h (Nat.le_of_eq W108.size.symm)
          obtain ⟨lc108, X108, N108⟩ := own_pack1 X108 N96 g_o0
          refine own_thr (a := T108.setTop (mkF m 51 #[.val (.ref o0), .val (.ref G), .val (.ref b3), .val (.int (4 : Int32))] [])) (fun t kt => st108 t kt) ?_
          exact own_end X108 hlk (v := none) (fun _ => rfl) (fun fs hr => X108.returnOut hx Bd.returns (hb hby d3_51) hr) (by rw [e108]; exact ⟨b3, k3, rfl, N108, ((((Keep.refl h0 [o0]).ext E3).wr W96 (Or.inr sz_b3)).wr W108 (Or.inl (List.mem_of_getElem? (i := 0) rfl))), (((E_o0.ext E3).wr W96).wr W108), Fw108, (by rw [own_o1 hc7, own_o0 hc100, own_o0 hc103, own_o0 hc106]; exact (V96.other W108 (Ne.symm ne_o0_b3))), sz_b3⟩) (by decide : 1 ≤ _) (by decide : 4 ≤ _)
        · refine own_thr (a := T96.setTop (mkF m 30 #[.val (.ref o0), .val (.ref G), .val (.ref b3), .val (.int (3 : Int32))] [(.ref o0), (.int (3 : Int32)), (.ref b3)])) (fun t kt => ?_) ?_
          · show Steps p.tables e below (T96.setTop (mkF m 24 #[.val (.ref o0), .val (.ref G), .val (.ref b3), .val (.int (3 : Int32))] [(.int r3)])) _
            refine XS.ifNo X96.here hx rfl (hb hby d3_24) rfl ((if0 _ _).trans (feq hc106).1) ?_
            refine XS.aloadN X96.here hx rfl (hb hby d3_27) rfl rfl ?_
            refine XS.iloadN X96.here hx rfl (hb hby d3_28) rfl ?_
            refine XS.aloadN X96.here hx rfl (hb hby d3_29) rfl rfl ?_
            exact kt
          obtain ⟨T110, X110, e110, st110⟩ := getF X96 hx hZ hown (host := "") (Or.inl (hw _ (List.mem_of_getElem? (i := 19) rfl))) Via.refl e96 ((F_b.ext E3).other W96 (Or.inl ne_o0_b3)) (g := (mkF m 30 #[.val (.ref o0), .val (.ref G), .val (.ref b3), .val (.int (3 : Int32))] [(.ref o0), (.int (3 : Int32)), (.ref b3)])) rfl rfl (hb hby d3_30)
          refine own_thr (a := T110.setTop (mkF m 33 #[.val (.ref o0), .val (.ref G), .val (.ref b3), .val (.int (3 : Int32))] [(.ref B), (.int (3 : Int32)), (.ref b3)])) (fun t kt => st110 t kt) ?_
          refine own_thr (a := T110.setTop (mkF m 35 #[.val (.ref o0), .val (.ref G), .val (.ref b3), .val (.int (3 : Int32))] [(.int (3 : Int32)), (.ref G), (.ref B), (.int (3 : Int32)), (.ref b3)])) (fun t kt => ?_) ?_
          · show Steps p.tables e below (T110.setTop (mkF m 33 #[.val (.ref o0), .val (.ref G), .val (.ref b3), .val (.int (3 : Int32))] [(.ref B), (.int (3 : Int32)), (.ref b3)])) _
            refine XS.aloadN X110.here hx rfl (hb hby d3_33) rfl rfl ?_
            refine XS.iloadN X110.here hx rfl (hb hby d3_34) rfl ?_
            exact kt
          obtain ⟨cl111, Ar111, -, S111, M111, H111, -⟩ := id ((V_G.ext E3).other W96 ne_G_b3)
          have hin111 : ¬ ((3 : Int32) < 0 ∨ cl111.slots.size ≤ ((3 : Int32)).toNatClampNeg) := inb_of S111 ⟨by decide, by decide⟩
          have hat111 : cl111.slots[((3 : Int32)).toNatClampNeg]? = some (.int r3) := Has.at H111 hin111 rfl
          refine own_thr (a := T110.setTop (mkF m 38 #[.val (.ref o0), .val (.ref G), .val (.ref b3), .val (.int (3 : Int32))] [(.int (r3 - (1 : Int32))), (.ref B), (.int (3 : Int32)), (.ref b3)])) (fun t kt => ?_) ?_
          · show Steps p.tables e below (T110.setTop (mkF m 35 #[.val (.ref o0), .val (.ref G), .val (.ref b3), .val (.int (3 : Int32))] [(.int (3 : Int32)), (.ref G), (.ref B), (.int (3 : Int32)), (.ref b3)])) _
            refine X110.iaload hx (j := (3 : Int32)) (v := (.int r3)) (by rw [e110]; exact Ar111.1) (State.isArrayOf_alike hZ.alike Ar111.2.1) Ar111.2.2 hin111 hat111 (g := (mkF m 35 #[.val (.ref o0), .val (.ref G), .val (.ref b3), .val (.int (3 : Int32))] [(.int (3 : Int32)), (.ref G), (.ref B), (.int (3 : Int32)), (.ref b3)])) rfl rfl (hb hby d3_35) _ ?_
            refine XS.iconst X110.here hx rfl (hb hby d3_36) ?_
            refine XS.isub X110.here hx rfl (hb hby d3_37) rfl ?_
            exact kt
          obtain ⟨cl112, Ar112, S112, M112, H112⟩ := id ((V_B.ext E3).other W96 ne_B_b3)
          have hin112 : ¬ ((r3 - (1 : Int32)) < 0 ∨ cl112.slots.size ≤ ((r3 - (1 : Int32))).toNatClampNeg) := inb_of S112 ⟨(hr3 hc106).1, (hr3 hc106).2⟩
          refine own_thr (a := T110.setTop (mkF m 39 #[.val (.ref o0), .val (.ref G), .val (.ref b3), .val (.int (3 : Int32))] [(.long (x (r3 - (1 : Int32)))), (.int (3 : Int32)), (.ref b3)])) (fun t kt => ?_) ?_
          · show Steps p.tables e below (T110.setTop (mkF m 38 #[.val (.ref o0), .val (.ref G), .val (.ref b3), .val (.int (3 : Int32))] [(.int (r3 - (1 : Int32))), (.ref B), (.int (3 : Int32)), (.ref b3)])) _
            refine X110.laload hx (j := (r3 - (1 : Int32))) (v := (.long (x (r3 - (1 : Int32))))) (by rw [e110]; exact Ar112.1) (State.isArrayOf_alike hZ.alike Ar112.2.1) Ar112.2.2 hin112 (H112 (r3 - (1 : Int32)) (hr3 hc106).1 (hr3 hc106).2) (g := (mkF m 38 #[.val (.ref o0), .val (.ref G), .val (.ref b3), .val (.int (3 : Int32))] [(.int (r3 - (1 : Int32))), (.ref B), (.int (3 : Int32)), (.ref b3)])) rfl rfl (hb hby d3_38) _ ?_
            exact kt
          obtain ⟨cl113, Ar113, q113, S113, M113, H113, G113⟩ := id V96
          have hin113 : ¬ ((3 : Int32) < 0 ∨ cl113.slots.size ≤ ((3 : Int32)).toNatClampNeg) := inb_of S113 ⟨by decide, by decide⟩
          obtain ⟨T113, h113, X113, e113, W113, st113⟩ := stJ X110 hx hZ e110 Ar113 (j := (3 : Int32)) hin113 (g := (mkF m 39 #[.val (.ref o0), .val (.ref G), .val (.ref b3), .val (.int (3 : Int32))] [(.long (x (r3 - (1 : Int32)))), (.int (3 : Int32)), (.ref b3)])) rfl rfl (hb hby d3_39)
          have Z114 : n0 ≤ h113.size := Nat.le_trans Z97 (Nat.le_of_eq W113.size.symm)
          have Z114h : h0.size ≤ h113.size := Nat.le_trans Z97h (Nat.le_of_eq W113.size.symm)
          have V113 : Arv Z h113 b3 k3 .long (4 : Int32) [(.long (x (r0 - (1 : Int32)))), (.long (0 : Int64)), (.long (0 : Int64)), (.long (x (r3 - (1 : Int32))))] (.long (0 : Int64)) := Arv.set Ar113 q113 S113 M113 H113 G113 rfl W113 3 rfl (Nat.le_of_ble_eq_true rfl)
          obtain ⟨lc113, X113, N113⟩ := own_pack1 X113 N96 g_b3
          refine own_thr (a := T113.setTop (mkF m 40 #[.val (.ref o0), .val (.ref G), .val (.ref b3), .val (.int (3 : Int32))] [])) (fun t kt => st113 t kt) ?_
          refine own_thr (a := T113.setTop (mkF m 17 #[.val (.ref o0), .val (.ref G), .val (.ref b3), .val (.int (4 : Int32))] [(.ref G), (.int (4 : Int32))])) (fun t kt => ?_) ?_
          · show Steps p.tables e below (T113.setTop (mkF m 40 #[.val (.ref o0), .val (.ref G), .val (.ref b3), .val (.int (3 : Int32))] [])) _
            refine XS.iinc X113.here hx rfl (hb hby d3_40) rfl (l' := #[.val (.ref o0), .val (.ref G), .val (.ref b3), .val (.int (4 : Int32))]) rfl ?_
            refine XS.goto X113.here hx rfl (pc0 := 43) (pc' := 15) rfl (hb hby d3_43) (by decide) (by decide) ?_
            refine XS.iloadN X113.here hx rfl (hb hby d3_15) rfl ?_
            refine XS.aloadN X113.here hx rfl (hb hby d3_16) rfl rfl ?_
            exact kt
          obtain ⟨cl115, Ar115, -, S115, M115, -, -⟩ := id (((V_G.ext E3).other W96 ne_G_b3).other W113 ne_G_b3)
          refine own_thr (a := T113.setTop (mkF m 48 #[.val (.ref o0), .val (.ref G), .val (.ref b3), .val (.int (4 : Int32))] [(.ref b3), (.ref o0)])) (fun t kt => ?_) ?_
          · show Steps p.tables e below (T113.setTop (mkF m 17 #[.val (.ref o0), .val (.ref G), .val (.ref b3), .val (.int (4 : Int32))] [(.ref G), (.int (4 : Int32))])) _
            refine X113.arraylength hx (by rw [e113]; exact Ar115.1) (State.isArrayOf_alike hZ.alike Ar115.2.1) (g := (mkF m 17 #[.val (.ref o0), .val (.ref G), .val (.ref b3), .val (.int (4 : Int32))] [(.ref G), (.int (4 : Int32))])) rfl rfl (hb hby d3_17) _ ?_
            rw [len_of S115 M115]
            refine XS.icmpYes X113.here hx rfl (pc0 := 18) (pc' := 46) rfl (hb hby d3_18) rfl (flt (by decide)).2.1 (by decide) (by decide) ?_
            refine XS.aloadN X113.here hx rfl (hb hby d3_46) rfl rfl ?_
            refine XS.aloadN X113.here hx rfl (hb hby d3_47) rfl rfl ?_
            exact kt
          have c116 := (((F_b.ext E3).other W96 (Or.inl ne_o0_b3)).other W113 (Or.inl ne_o0_b3))
          obtain ⟨T117, h117, X117, e117, W117, st117⟩ := putF X113 hx hZ hown (host := "") (Or.inl (hw _ (List.mem_of_getElem? (i := 19) rfl))) Via.refl e113 c116 (((E_o0.ext E3).wr W96).wr W113) (Or.inl (hw _ (List.mem_of_getElem? (i := 20) rfl))) (hw _ (List.mem_of_getElem? (i := 4) rfl)) (ty := (.array .long)) (by decide) rfl rfl (g := (mkF m 48 #[.val (.ref o0), .val (.ref G), .val (.ref b3), .val (.int (4 : Int32))] [(.ref b3), (.ref o0)])) rfl rfl (hb hby d3_48)
          have Fw117 := c116.same W117
          have Z118 : n0 ≤ h117.size := Nat.le_trans Z114 (Nat.le_of_eq W117.size.symm)
          have Z118h : h0.size ≤ h117.size := Nat.le_trans Z114h (Nat.le_of_eq W117.size.symm)
          obtain ⟨lc117, X117, N117⟩ := own_pack1 X117 N113 g_o0
          refine own_thr (a := T117.setTop (mkF m 51 #[.val (.ref o0), .val (.ref G), .val (.ref b3), .val (.int (4 : Int32))] [])) (fun t kt => st117 t kt) ?_
          exact own_end X117 hlk (v := none) (fun _ => rfl) (fun fs hr => X117.returnOut hx Bd.returns (hb hby d3_51) hr) (by rw [e117]; exact ⟨b3, k3, rfl, N117, (((((Keep.refl h0 [o0]).ext E3).wr W96 (Or.inr sz_b3)).wr W113 (Or.inr sz_b3)).wr W117 (Or.inl (List.mem_of_getElem? (i := 0) rfl))), ((((E_o0.ext E3).wr W96).wr W113).wr W117), Fw117, (by rw [own_o1 hc7, own_o0 hc100, own_o0 hc103, own_o1 hc106]; exact (V113.other W117 (Ne.symm ne_o0_b3))), sz_b3⟩) (by decide : 1 ≤ _) (by decide : 4 ≤ _)
      · refine own_thr (a := T96.setTop (mkF m 30 #[.val (.ref o0), .val (.ref G), .val (.ref b3), .val (.int (2 : Int32))] [(.ref o0), (.int (2 : Int32)), (.ref b3)])) (fun t kt => ?_) ?_
        · show Steps p.tables e below (T96.setTop (mkF m 24 #[.val (.ref o0), .val (.ref G), .val (.ref b3), .val (.int (2 : Int32))] [(.int r2)])) _
          refine XS.ifNo X96.here hx rfl (hb hby d3_24) rfl ((if0 _ _).trans (feq hc103).1) ?_
          refine XS.aloadN X96.here hx rfl (hb hby d3_27) rfl rfl ?_
          refine XS.iloadN X96.here hx rfl (hb hby d3_28) rfl ?_
          refine XS.aloadN X96.here hx rfl (hb hby d3_29) rfl rfl ?_
          exact kt
        obtain ⟨T119, X119, e119, st119⟩ := getF X96 hx hZ hown (host := "") (Or.inl (hw _ (List.mem_of_getElem? (i := 19) rfl))) Via.refl e96 ((F_b.ext E3).other W96 (Or.inl ne_o0_b3)) (g := (mkF m 30 #[.val (.ref o0), .val (.ref G), .val (.ref b3), .val (.int (2 : Int32))] [(.ref o0), (.int (2 : Int32)), (.ref b3)])) rfl rfl (hb hby d3_30)
        refine own_thr (a := T119.setTop (mkF m 33 #[.val (.ref o0), .val (.ref G), .val (.ref b3), .val (.int (2 : Int32))] [(.ref B), (.int (2 : Int32)), (.ref b3)])) (fun t kt => st119 t kt) ?_
        refine own_thr (a := T119.setTop (mkF m 35 #[.val (.ref o0), .val (.ref G), .val (.ref b3), .val (.int (2 : Int32))] [(.int (2 : Int32)), (.ref G), (.ref B), (.int (2 : Int32)), (.ref b3)])) (fun t kt => ?_) ?_
        · show Steps p.tables e below (T119.setTop (mkF m 33 #[.val (.ref o0), .val (.ref G), .val (.ref b3), .val (.int (2 : Int32))] [(.ref B), (.int (2 : Int32)), (.ref b3)])) _
          refine XS.aloadN X119.here hx rfl (hb hby d3_33) rfl rfl ?_
          refine XS.iloadN X119.here hx rfl (hb hby d3_34) rfl ?_
          exact kt
        obtain ⟨cl120, Ar120, -, S120, M120, H120, -⟩ := id ((V_G.ext E3).other W96 ne_G_b3)
        have hin120 : ¬ ((2 : Int32) < 0 ∨ cl120.slots.size ≤ ((2 : Int32)).toNatClampNeg) := inb_of S120 ⟨by decide, by decide⟩
        have hat120 : cl120.slots[((2 : Int32)).toNatClampNeg]? = some (.int r2) := Has.at H120 hin120 rfl
        refine own_thr (a := T119.setTop (mkF m 38 #[.val (.ref o0), .val (.ref G), .val (.ref b3), .val (.int (2 : Int32))] [(.int (r2 - (1 : Int32))), (.ref B), (.int (2 : Int32)), (.ref b3)])) (fun t kt => ?_) ?_
        · show Steps p.tables e below (T119.setTop (mkF m 35 #[.val (.ref o0), .val (.ref G), .val (.ref b3), .val (.int (2 : Int32))] [(.int (2 : Int32)), (.ref G), (.ref B), (.int (2 : Int32)), (.ref b3)])) _
          refine X119.iaload hx (j := (2 : Int32)) (v := (.int r2)) (by rw [e119]; exact Ar120.1) (State.isArrayOf_alike hZ.alike Ar120.2.1) Ar120.2.2 hin120 hat120 (g := (mkF m 35 #[.val (.ref o0), .val (.ref G), .val (.ref b3), .val (.int (2 : Int32))] [(.int (2 : Int32)), (.ref G), (.ref B), (.int (2 : Int32)), (.ref b3)])) rfl rfl (hb hby d3_35) _ ?_
          refine XS.iconst X119.here hx rfl (hb hby d3_36) ?_
          refine XS.isub X119.here hx rfl (hb hby d3_37) rfl ?_
          exact kt
        obtain ⟨cl121, Ar121, S121, M121, H121⟩ := id ((V_B.ext E3).other W96 ne_B_b3)
        have hin121 : ¬ ((r2 - (1 : Int32)) < 0 ∨ cl121.slots.size ≤ ((r2 - (1 : Int32))).toNatClampNeg) := inb_of S121 ⟨(hr2 hc103).1, (hr2 hc103).2⟩
        refine own_thr (a := T119.setTop (mkF m 39 #[.val (.ref o0), .val (.ref G), .val (.ref b3), .val (.int (2 : Int32))] [(.long (x (r2 - (1 : Int32)))), (.int (2 : Int32)), (.ref b3)])) (fun t kt => ?_) ?_
        · show Steps p.tables e below (T119.setTop (mkF m 38 #[.val (.ref o0), .val (.ref G), .val (.ref b3), .val (.int (2 : Int32))] [(.int (r2 - (1 : Int32))), (.ref B), (.int (2 : Int32)), (.ref b3)])) _
          refine X119.laload hx (j := (r2 - (1 : Int32))) (v := (.long (x (r2 - (1 : Int32))))) (by rw [e119]; exact Ar121.1) (State.isArrayOf_alike hZ.alike Ar121.2.1) Ar121.2.2 hin121 (H121 (r2 - (1 : Int32)) (hr2 hc103).1 (hr2 hc103).2) (g := (mkF m 38 #[.val (.ref o0), .val (.ref G), .val (.ref b3), .val (.int (2 : Int32))] [(.int (r2 - (1 : Int32))), (.ref B), (.int (2 : Int32)), (.ref b3)])) rfl rfl (hb hby d3_38) _ ?_
          exact kt
        obtain ⟨cl122, Ar122, q122, S122, M122, H122, G122⟩ := id V96
        have hin122 : ¬ ((2 : Int32) < 0 ∨ cl122.slots.size ≤ ((2 : Int32)).toNatClampNeg) := inb_of S122 ⟨by decide, by decide⟩
        obtain ⟨T122, h122, X122, e122, W122, st122⟩ := stJ X119 hx hZ e119 Ar122 (j := (2 : Int32)) hin122 (g := (mkF m 39 #[.val (.ref o0), .val (.ref G), .val (.ref b3), .val (.int (2 : Int32))] [(.long (x (r2 - (1 : Int32)))), (.int (2 : Int32)), (.ref b3)])) rfl rfl (hb hby d3_39)
        have Z123 : n0 ≤ h122.size := Nat.le_trans Z97 (Nat.le_of_eq W122.size.symm)
        have Z123h : h0.size ≤ h122.size := Nat.le_trans Z97h (Nat.le_of_eq W122.size.symm)
        have V122 : Arv Z h122 b3 k3 .long (4 : Int32) [(.long (x (r0 - (1 : Int32)))), (.long (0 : Int64)), (.long (x (r2 - (1 : Int32)))), (.long (0 : Int64))] (.long (0 : Int64)) := Arv.set Ar122 q122 S122 M122 H122 G122 rfl W122 2 rfl (Nat.le_of_ble_eq_true rfl)
        obtain ⟨lc122, X122, N122⟩ := own_pack1 X122 N96 g_b3
        refine own_thr (a := T122.setTop (mkF m 40 #[.val (.ref o0), .val (.ref G), .val (.ref b3), .val (.int (2 : Int32))] [])) (fun t kt => st122 t kt) ?_
        refine own_thr (a := T122.setTop (mkF m 17 #[.val (.ref o0), .val (.ref G), .val (.ref b3), .val (.int (3 : Int32))] [(.ref G), (.int (3 : Int32))])) (fun t kt => ?_) ?_
        · show Steps p.tables e below (T122.setTop (mkF m 40 #[.val (.ref o0), .val (.ref G), .val (.ref b3), .val (.int (2 : Int32))] [])) _
          refine XS.iinc X122.here hx rfl (hb hby d3_40) rfl (l' := #[.val (.ref o0), .val (.ref G), .val (.ref b3), .val (.int (3 : Int32))]) rfl ?_
          refine XS.goto X122.here hx rfl (pc0 := 43) (pc' := 15) rfl (hb hby d3_43) (by decide) (by decide) ?_
          refine XS.iloadN X122.here hx rfl (hb hby d3_15) rfl ?_
          refine XS.aloadN X122.here hx rfl (hb hby d3_16) rfl rfl ?_
          exact kt
        obtain ⟨cl124, Ar124, -, S124, M124, -, -⟩ := id (((V_G.ext E3).other W96 ne_G_b3).other W122 ne_G_b3)
        refine own_thr (a := T122.setTop (mkF m 23 #[.val (.ref o0), .val (.ref G), .val (.ref b3), .val (.int (3 : Int32))] [(.int (3 : Int32)), (.ref G)])) (fun t kt => ?_) ?_
        · show Steps p.tables e below (T122.setTop (mkF m 17 #[.val (.ref o0), .val (.ref G), .val (.ref b3), .val (.int (3 : Int32))] [(.ref G), (.int (3 : Int32))])) _
          refine X122.arraylength hx (by rw [e122]; exact Ar124.1) (State.isArrayOf_alike hZ.alike Ar124.2.1) (g := (mkF m 17 #[.val (.ref o0), .val (.ref G), .val (.ref b3), .val (.int (3 : Int32))] [(.ref G), (.int (3 : Int32))])) rfl rfl (hb hby d3_17) _ ?_
          rw [len_of S124 M124]
          refine XS.icmpNo X122.here hx rfl (hb hby d3_18) rfl (tlt (by decide)).2.1 ?_
          refine XS.aloadN X122.here hx rfl (hb hby d3_21) rfl rfl ?_
          refine XS.iloadN X122.here hx rfl (hb hby d3_22) rfl ?_
          exact kt
        obtain ⟨cl125, Ar125, -, S125, M125, H125, -⟩ := id (((V_G.ext E3).other W96 ne_G_b3).other W122 ne_G_b3)
        have hin125 : ¬ ((3 : Int32) < 0 ∨ cl125.slots.size ≤ ((3 : Int32)).toNatClampNeg) := inb_of S125 ⟨by decide, by decide⟩
        have hat125 : cl125.slots[((3 : Int32)).toNatClampNeg]? = some (.int r3) := Has.at H125 hin125 rfl
        refine own_thr (a := T122.setTop (mkF m 24 #[.val (.ref o0), .val (.ref G), .val (.ref b3), .val (.int (3 : Int32))] [(.int r3)])) (fun t kt => ?_) ?_
        · show Steps p.tables e below (T122.setTop (mkF m 23 #[.val (.ref o0), .val (.ref G), .val (.ref b3), .val (.int (3 : Int32))] [(.int (3 : Int32)), (.ref G)])) _
          refine X122.iaload hx (j := (3 : Int32)) (v := (.int r3)) (by rw [e122]; exact Ar125.1) (State.isArrayOf_alike hZ.alike Ar125.2.1) Ar125.2.2 hin125 hat125 (g := (mkF m 23 #[.val (.ref o0), .val (.ref G), .val (.ref b3), .val (.int (3 : Int32))] [(.int (3 : Int32)), (.ref G)])) rfl rfl (hb hby d3_23) _ ?_
          exact kt
        by_cases hc126 : r3 = (0 : Int32)
        · refine own_thr (a := T122.setTop (mkF m 17 #[.val (.ref o0), .val (.ref G), .val (.ref b3), .val (.int (4 : Int32))] [(.ref G), (.int (4 : Int32))])) (fun t kt => ?_) ?_
          · show Steps p.tables e below (T122.setTop (mkF m 24 #[.val (.ref o0), .val (.ref G), .val (.ref b3), .val (.int (3 : Int32))] [(.int r3)])) _
            refine XS.ifYes X122.here hx rfl (pc0 := 24) (pc' := 40) rfl (hb hby d3_24) rfl ((if0 _ _).trans (teq hc126).1) (by decide) (by decide) ?_
            refine XS.iinc X122.here hx rfl (hb hby d3_40) rfl (l' := #[.val (.ref o0), .val (.ref G), .val (.ref b3), .val (.int (4 : Int32))]) rfl ?_
            refine XS.goto X122.here hx rfl (pc0 := 43) (pc' := 15) rfl (hb hby d3_43) (by decide) (by decide) ?_
            refine XS.iloadN X122.here hx rfl (hb hby d3_15) rfl ?_
            refine XS.aloadN X122.here hx rfl (hb hby d3_16) rfl rfl ?_
            exact kt
          obtain ⟨cl127, Ar127, -, S127, M127, -, -⟩ := id (((V_G.ext E3).other W96 ne_G_b3).other W122 ne_G_b3)
          refine own_thr (a := T122.setTop (mkF m 48 #[.val (.ref o0), .val (.ref G), .val (.ref b3), .val (.int (4 : Int32))] [(.ref b3), (.ref o0)])) (fun t kt => ?_) ?_
          · show Steps p.tables e below (T122.setTop (mkF m 17 #[.val (.ref o0), .val (.ref G), .val (.ref b3), .val (.int (4 : Int32))] [(.ref G), (.int (4 : Int32))])) _
            refine X122.arraylength hx (by rw [e122]; exact Ar127.1) (State.isArrayOf_alike hZ.alike Ar127.2.1) (g := (mkF m 17 #[.val (.ref o0), .val (.ref G), .val (.ref b3), .val (.int (4 : Int32))] [(.ref G), (.int (4 : Int32))])) rfl rfl (hb hby d3_17) _ ?_
            rw [len_of S127 M127]
            refine XS.icmpYes X122.here hx rfl (pc0 := 18) (pc' := 46) rfl (hb hby d3_18) rfl (flt (by decide)).2.1 (by decide) (by decide) ?_
            refine XS.aloadN X122.here hx rfl (hb hby d3_46) rfl rfl ?_
            refine XS.aloadN X122.here hx rfl (hb hby d3_47) rfl rfl ?_
            exact kt
          have c128 := (((F_b.ext E3).other W96 (Or.inl ne_o0_b3)).other W122 (Or.inl ne_o0_b3))
          obtain ⟨T129, h129, X129, e129, W129, st129⟩ := putF X122 hx hZ hown (host := "") (Or.inl (hw _ (List.mem_of_getElem? (i := 19) rfl))) Via.refl e122 c128 (((E_o0.ext E3).wr W96).wr W122) (Or.inl (hw _ (List.mem_of_getElem? (i := 20) rfl))) (hw _ (List.mem_of_getElem? (i := 4) rfl)) (ty := (.array .long)) (by decide) rfl rfl (g := (mkF m 48 #[.val (.ref o0), .val (.ref G), .val (.ref b3), .val (.int (4 : Int32))] [(.ref b3), (.ref o0)])) rfl rfl (hb hby d3_48)
          have Fw129 := c128.same W129
          have Z130 : n0 ≤ h129.size := Nat.le_trans Z123 (Nat.le_of_eq W129.size.symm)
          have Z130h : h0.size ≤ h129.size := Nat.le_trans Z123h (Nat.le_of_eq W129.size.symm)
          obtain ⟨lc129, X129, N129⟩ := own_pack1 X129 N122 g_o0
          refine own_thr (a := T129.setTop (mkF m 51 #[.val (.ref o0), .val (.ref G), .val (.ref b3), .val (.int (4 : Int32))] [])) (fun t kt => st129 t kt) ?_
          exact own_end X129 hlk (v := none) (fun _ => rfl) (fun fs hr => X129.returnOut hx Bd.returns (hb hby d3_51) hr) (by rw [e129]; exact ⟨b3, k3, rfl, N129, (((((Keep.refl h0 [o0]).ext E3).wr W96 (Or.inr sz_b3)).wr W122 (Or.inr sz_b3)).wr W129 (Or.inl (List.mem_of_getElem? (i := 0) rfl))), ((((E_o0.ext E3).wr W96).wr W122).wr W129), Fw129, (by rw [own_o1 hc7, own_o0 hc100, own_o1 hc103, own_o0 hc126]; exact (V122.other W129 (Ne.symm ne_o0_b3))), sz_b3⟩) (by decide : 1 ≤ _) (by decide : 4 ≤ _)
        · refine own_thr (a := T122.setTop (mkF m 30 #[.val (.ref o0), .val (.ref G), .val (.ref b3), .val (.int (3 : Int32))] [(.ref o0), (.int (3 : Int32)), (.ref b3)])) (fun t kt => ?_) ?_
          · show Steps p.tables e below (T122.setTop (mkF m 24 #[.val (.ref o0), .val (.ref G), .val (.ref b3), .val (.int (3 : Int32))] [(.int r3)])) _
            refine XS.ifNo X122.here hx rfl (hb hby d3_24) rfl ((if0 _ _).trans (feq hc126).1) ?_
            refine XS.aloadN X122.here hx rfl (hb hby d3_27) rfl rfl ?_
            refine XS.iloadN X122.here hx rfl (hb hby d3_28) rfl ?_
            refine XS.aloadN X122.here hx rfl (hb hby d3_29) rfl rfl ?_
            exact kt
          have c131 := (((F_b.ext E3).other W96 (Or.inl ne_o0_b3)).other W122 (Or.inl ne_o0_b3))
          obtain ⟨T132, X132, e132, st132⟩ := getF X122 hx hZ hown (host := "") (Or.inl (hw _ (List.mem_of_getElem? (i := 19) rfl))) Via.refl e122 c131 (g := (mkF m 30 #[.val (.ref o0), .val (.ref G), .val (.ref b3), .val (.int (3 : Int32))] [(.ref o0), (.int (3 : Int32)), (.ref b3)])) rfl rfl (hb hby d3_30)
          refine own_thr (a := T132.setTop (mkF m 33 #[.val (.ref o0), .val (.ref G), .val (.ref b3), .val (.int (3 : Int32))] [(.ref B), (.int (3 : Int32)), (.ref b3)])) (fun t kt => st132 t kt) ?_
          refine own_thr (a := T132.setTop (mkF m 35 #[.val (.ref o0), .val (.ref G), .val (.ref b3), .val (.int (3 : Int32))] [(.int (3 : Int32)), (.ref G), (.ref B), (.int (3 : Int32)), (.ref b3)])) (fun t kt => ?_) ?_
          · show Steps p.tables e below (T132.setTop (mkF m 33 #[.val (.ref o0), .val (.ref G), .val (.ref b3), .val (.int (3 : Int32))] [(.ref B), (.int (3 : Int32)), (.ref b3)])) _
            refine XS.aloadN X132.here hx rfl (hb hby d3_33) rfl rfl ?_
            refine XS.iloadN X132.here hx rfl (hb hby d3_34) rfl ?_
            exact kt
          obtain ⟨cl133, Ar133, -, S133, M133, H133, -⟩ := id (((V_G.ext E3).other W96 ne_G_b3).other W122 ne_G_b3)
          have hin133 : ¬ ((3 : Int32) < 0 ∨ cl133.slots.size ≤ ((3 : Int32)).toNatClampNeg) := inb_of S133 ⟨by decide, by decide⟩
          have hat133 : cl133.slots[((3 : Int32)).toNatClampNeg]? = some (.int r3) := Has.at H133 hin133 rfl
          refine own_thr (a := T132.setTop (mkF m 38 #[.val (.ref o0), .val (.ref G), .val (.ref b3), .val (.int (3 : Int32))] [(.int (r3 - (1 : Int32))), (.ref B), (.int (3 : Int32)), (.ref b3)])) (fun t kt => ?_) ?_
          · show Steps p.tables e below (T132.setTop (mkF m 35 #[.val (.ref o0), .val (.ref G), .val (.ref b3), .val (.int (3 : Int32))] [(.int (3 : Int32)), (.ref G), (.ref B), (.int (3 : Int32)), (.ref b3)])) _
            refine X132.iaload hx (j := (3 : Int32)) (v := (.int r3)) (by rw [e132]; exact Ar133.1) (State.isArrayOf_alike hZ.alike Ar133.2.1) Ar133.2.2 hin133 hat133 (g := (mkF m 35 #[.val (.ref o0), .val (.ref G), .val (.ref b3), .val (.int (3 : Int32))] [(.int (3 : Int32)), (.ref G), (.ref B), (.int (3 : Int32)), (.ref b3)])) rfl rfl (hb hby d3_35) _ ?_
            refine XS.iconst X132.here hx rfl (hb hby d3_36) ?_
            refine XS.isub X132.here hx rfl (hb hby d3_37) rfl ?_
            exact kt
          obtain ⟨cl134, Ar134, S134, M134, H134⟩ := id (((V_B.ext E3).other W96 ne_B_b3).other W122 ne_B_b3)
          have hin134 : ¬ ((r3 - (1 : Int32)) < 0 ∨ cl134.slots.size ≤ ((r3 - (1 : Int32))).toNatClampNeg) := inb_of S134 ⟨(hr3 hc126).1, (hr3 hc126).2⟩
          refine own_thr (a := T132.setTop (mkF m 39 #[.val (.ref o0), .val (.ref G), .val (.ref b3), .val (.int (3 : Int32))] [(.long (x (r3 - (1 : Int32)))), (.int (3 : Int32)), (.ref b3)])) (fun t kt => ?_) ?_
          · show Steps p.tables e below (T132.setTop (mkF m 38 #[.val (.ref o0), .val (.ref G), .val (.ref b3), .val (.int (3 : Int32))] [(.int (r3 - (1 : Int32))), (.ref B), (.int (3 : Int32)), (.ref b3)])) _
            refine X132.laload hx (j := (r3 - (1 : Int32))) (v := (.long (x (r3 - (1 : Int32))))) (by rw [e132]; exact Ar134.1) (State.isArrayOf_alike hZ.alike Ar134.2.1) Ar134.2.2 hin134 (H134 (r3 - (1 : Int32)) (hr3 hc126).1 (hr3 hc126).2) (g := (mkF m 38 #[.val (.ref o0), .val (.ref G), .val (.ref b3), .val (.int (3 : Int32))] [(.int (r3 - (1 : Int32))), (.ref B), (.int (3 : Int32)), (.ref b3)])) rfl rfl (hb hby d3_38) _ ?_
            exact kt
          obtain ⟨cl135, Ar135, q135, S135, M135, H135, G135⟩ := id V122
          have hin135 : ¬ ((3 : Int32) < 0 ∨ cl135.slots.size ≤ ((3 : Int32)).toNatClampNeg) := inb_of S135 ⟨by decide, by decide⟩
          obtain ⟨T135, h135, X135, e135, W135, st135⟩ := stJ X132 hx hZ e132 Ar135 (j := (3 : Int32)) hin135 (g := (mkF m 39 #[.val (.ref o0), .val (.ref G), .val (.ref b3), .val (.int (3 : Int32))] [(.long (x (r3 - (1 : Int32)))), (.int (3 : Int32)), (.ref b3)])) rfl rfl (hb hby d3_39)
          have Z136 : n0 ≤ h135.size := Nat.le_trans Z123 (Nat.le_of_eq W135.size.symm)
          have Z136h : h0.size ≤ h135.size := Nat.le_trans Z123h (Nat.le_of_eq W135.size.symm)
          have V135 : Arv Z h135 b3 k3 .long (4 : Int32) [(.long (x (r0 - (1 : Int32)))), (.long (0 : Int64)), (.long (x (r2 - (1 : Int32)))), (.long (x (r3 - (1 : Int32))))] (.long (0 : Int64)) := Arv.set Ar135 q135 S135 M135 H135 G135 rfl W135 3 rfl (Nat.le_of_ble_eq_true rfl)
          obtain ⟨lc135, X135, N135⟩ := own_pack1 X135 N122 g_b3
          refine own_thr (a := T135.setTop (mkF m 40 #[.val (.ref o0), .val (.ref G), .val (.ref b3), .val (.int (3 : Int32))] [])) (fun t kt => st135 t kt) ?_
          refine own_thr (a := T135.setTop (mkF m 17 #[.val (.ref o0), .val (.ref G), .val (.ref b3), .val (.int (4 : Int32))] [(.ref G), (.int (4 : Int32))])) (fun t kt => ?_) ?_
          · show Steps p.tables e below (T135.setTop (mkF m 40 #[.val (.ref o0), .val (.ref G), .val (.ref b3), .val (.int (3 : Int32))] [])) _
            refine XS.iinc X135.here hx rfl (hb hby d3_40) rfl (l' := #[.val (.ref o0), .val (.ref G), .val (.ref b3), .val (.int (4 : Int32))]) rfl ?_
            refine XS.goto X135.here hx rfl (pc0 := 43) (pc' := 15) rfl (hb hby d3_43) (by decide) (by decide) ?_
            refine XS.iloadN X135.here hx rfl (hb hby d3_15) rfl ?_
            refine XS.aloadN X135.here hx rfl (hb hby d3_16) rfl rfl ?_
            exact kt
          have c138 := ((((V_G.ext E3).other W96 ne_G_b3).other W122 ne_G_b3).other W135 ne_G_b3)
          obtain ⟨cl137, Ar137, -, S137, M137, -, -⟩ := id c138
          refine own_thr (a := T135.setTop (mkF m 48 #[.val (.ref o0), .val (.ref G), .val (.ref b3), .val (.int (4 : Int32))] [(.ref b3), (.ref o0)])) (fun t kt => ?_) ?_
          · show Steps p.tables e below (T135.setTop (mkF m 17 #[.val (.ref o0), .val (.ref G), .val (.ref b3), .val (.int (4 : Int32))] [(.ref G), (.int (4 : Int32))])) _
            refine X135.arraylength hx (by rw [e135]; exact Ar137.1) (State.isArrayOf_alike hZ.alike Ar137.2.1) (g := (mkF m 17 #[.val (.ref o0), .val (.ref G), .val (.ref b3), .val (.int (4 : Int32))] [(.ref G), (.int (4 : Int32))])) rfl rfl (hb hby d3_17) _ ?_
            rw [len_of S137 M137]
            refine XS.icmpYes X135.here hx rfl (pc0 := 18) (pc' := 46) rfl (hb hby d3_18) rfl (flt (by decide)).2.1 (by decide) (by decide) ?_
            refine XS.aloadN X135.here hx rfl (hb hby d3_46) rfl rfl ?_
            refine XS.aloadN X135.here hx rfl (hb hby d3_47) rfl rfl ?_
            exact kt
          obtain ⟨T139, h139, X139, e139, W139, st139⟩ := putF X135 hx hZ hown (host := "") (Or.inl (hw _ (List.mem_of_getElem? (i := 19) rfl))) Via.refl e135 (c131.other W135 (Or.inl ne_o0_b3)) ((((E_o0.ext E3).wr W96).wr W122).wr W135) (Or.inl (hw _ (List.mem_of_getElem? (i := 20) rfl))) (hw _ (List.mem_of_getElem? (i := 4) rfl)) (ty := (.array .long)) (by decide) rfl rfl (g := (mkF m 48 #[.val (.ref o0), .val (.ref G), .val (.ref b3), .val (.int (4 : Int32))] [(.ref b3), (.ref o0)])) rfl rfl (hb hby d3_48)
          have Fw139 := (c131.other W135 (Or.inl ne_o0_b3)).same W139
          have Z140 : n0 ≤ h139.size := Nat.le_trans Z136 (Nat.le_of_eq W139.size.symm)
          have Z140h : h0.size ≤ h139.size := Nat.le_trans Z136h (Nat.le_of_eq W139.size.symm)
          obtain ⟨lc139, X139, N139⟩ := own_pack1 X139 N135 g_o0
          refine own_thr (a := T139.setTop (mkF m 51 #[.val (.ref o0), .val (.ref G), .val (.ref b3), .val (.int (4 : Int32))] [])) (fun t kt => st139 t kt) ?_
          exact own_end X139 hlk (v := none) (fun _ => rfl) (fun fs hr => X139.returnOut hx Bd.returns (hb hby d3_51) hr) (by rw [e139]; exact ⟨b3, k3, rfl, N139, ((((((Keep.refl h0 [o0]).ext E3).wr W96 (Or.inr sz_b3)).wr W122 (Or.inr sz_b3)).wr W135 (Or.inr sz_b3)).wr W139 (Or.inl (List.mem_of_getElem? (i := 0) rfl))), (((((E_o0.ext E3).wr W96).wr W122).wr W135).wr W139), Fw139, (by rw [own_o1 hc7, own_o0 hc100, own_o1 hc103, own_o1 hc126]; exact (V135.other W139 (Ne.symm ne_o0_b3))), sz_b3⟩) (by decide : 1 ≤ _) (by decide : 4 ≤ _)
    · refine own_thr (a := T96.setTop (mkF m 30 #[.val (.ref o0), .val (.ref G), .val (.ref b3), .val (.int (1 : Int32))] [(.ref o0), (.int (1 : Int32)), (.ref b3)])) (fun t kt => ?_) ?_
      · show Steps p.tables e below (T96.setTop (mkF m 24 #[.val (.ref o0), .val (.ref G), .val (.ref b3), .val (.int (1 : Int32))] [(.int r1)])) _
        refine XS.ifNo X96.here hx rfl (hb hby d3_24) rfl ((if0 _ _).trans (feq hc100).1) ?_
        refine XS.aloadN X96.here hx rfl (hb hby d3_27) rfl rfl ?_
        refine XS.iloadN X96.here hx rfl (hb hby d3_28) rfl ?_
        refine XS.aloadN X96.here hx rfl (hb hby d3_29) rfl rfl ?_
        exact kt
      obtain ⟨T141, X141, e141, st141⟩ := getF X96 hx hZ hown (host := "") (Or.inl (hw _ (List.mem_of_getElem? (i := 19) rfl))) Via.refl e96 ((F_b.ext E3).other W96 (Or.inl ne_o0_b3)) (g := (mkF m 30 #[.val (.ref o0), .val (.ref G), .val (.ref b3), .val (.int (1 : Int32))] [(.ref o0), (.int (1 : Int32)), (.ref b3)])) rfl rfl (hb hby d3_30)
      refine own_thr (a := T141.setTop (mkF m 33 #[.val (.ref o0), .val (.ref G), .val (.ref b3), .val (.int (1 : Int32))] [(.ref B), (.int (1 : Int32)), (.ref b3)])) (fun t kt => st141 t kt) ?_
      refine own_thr (a := T141.setTop (mkF m 35 #[.val (.ref o0), .val (.ref G), .val (.ref b3), .val (.int (1 : Int32))] [(.int (1 : Int32)), (.ref G), (.ref B), (.int (1 : Int32)), (.ref b3)])) (fun t kt => ?_) ?_
      · show Steps p.tables e below (T141.setTop (mkF m 33 #[.val (.ref o0), .val (.ref G), .val (.ref b3), .val (.int (1 : Int32))] [(.ref B), (.int (1 : Int32)), (.ref b3)])) _
        refine XS.aloadN X141.here hx rfl (hb hby d3_33) rfl rfl ?_
        refine XS.iloadN X141.here hx rfl (hb hby d3_34) rfl ?_
        exact kt
      obtain ⟨cl142, Ar142, -, S142, M142, H142, -⟩ := id ((V_G.ext E3).other W96 ne_G_b3)
      have hin142 : ¬ ((1 : Int32) < 0 ∨ cl142.slots.size ≤ ((1 : Int32)).toNatClampNeg) := inb_of S142 ⟨by decide, by decide⟩
      have hat142 : cl142.slots[((1 : Int32)).toNatClampNeg]? = some (.int r1) := Has.at H142 hin142 rfl
      refine own_thr (a := T141.setTop (mkF m 38 #[.val (.ref o0), .val (.ref G), .val (.ref b3), .val (.int (1 : Int32))] [(.int (r1 - (1 : Int32))), (.ref B), (.int (1 : Int32)), (.ref b3)])) (fun t kt => ?_) ?_
      · show Steps p.tables e below (T141.setTop (mkF m 35 #[.val (.ref o0), .val (.ref G), .val (.ref b3), .val (.int (1 : Int32))] [(.int (1 : Int32)), (.ref G), (.ref B), (.int (1 : Int32)), (.ref b3)])) _
        refine X141.iaload hx (j := (1 : Int32)) (v := (.int r1)) (by rw [e141]; exact Ar142.1) (State.isArrayOf_alike hZ.alike Ar142.2.1) Ar142.2.2 hin142 hat142 (g := (mkF m 35 #[.val (.ref o0), .val (.ref G), .val (.ref b3), .val (.int (1 : Int32))] [(.int (1 : Int32)), (.ref G), (.ref B), (.int (1 : Int32)), (.ref b3)])) rfl rfl (hb hby d3_35) _ ?_
        refine XS.iconst X141.here hx rfl (hb hby d3_36) ?_
        refine XS.isub X141.here hx rfl (hb hby d3_37) rfl ?_
        exact kt
      obtain ⟨cl143, Ar143, S143, M143, H143⟩ := id ((V_B.ext E3).other W96 ne_B_b3)
      have hin143 : ¬ ((r1 - (1 : Int32)) < 0 ∨ cl143.slots.size ≤ ((r1 - (1 : Int32))).toNatClampNeg) := inb_of S143 ⟨(hr1 hc100).1, (hr1 hc100).2⟩
      refine own_thr (a := T141.setTop (mkF m 39 #[.val (.ref o0), .val (.ref G), .val (.ref b3), .val (.int (1 : Int32))] [(.long (x (r1 - (1 : Int32)))), (.int (1 : Int32)), (.ref b3)])) (fun t kt => ?_) ?_
      · show Steps p.tables e below (T141.setTop (mkF m 38 #[.val (.ref o0), .val (.ref G), .val (.ref b3), .val (.int (1 : Int32))] [(.int (r1 - (1 : Int32))), (.ref B), (.int (1 : Int32)), (.ref b3)])) _
        refine X141.laload hx (j := (r1 - (1 : Int32))) (v := (.long (x (r1 - (1 : Int32))))) (by rw [e141]; exact Ar143.1) (State.isArrayOf_alike hZ.alike Ar143.2.1) Ar143.2.2 hin143 (H143 (r1 - (1 : Int32)) (hr1 hc100).1 (hr1 hc100).2) (g := (mkF m 38 #[.val (.ref o0), .val (.ref G), .val (.ref b3), .val (.int (1 : Int32))] [(.int (r1 - (1 : Int32))), (.ref B), (.int (1 : Int32)), (.ref b3)])) rfl rfl (hb hby d3_38) _ ?_
        exact kt
      obtain ⟨cl144, Ar144, q144, S144, M144, H144, G144⟩ := id V96
      have hin144 : ¬ ((1 : Int32) < 0 ∨ cl144.slots.size ≤ ((1 : Int32)).toNatClampNeg) := inb_of S144 ⟨by decide, by decide⟩
      obtain ⟨T144, h144, X144, e144, W144, st144⟩ := stJ X141 hx hZ e141 Ar144 (j := (1 : Int32)) hin144 (g := (mkF m 39 #[.val (.ref o0), .val (.ref G), .val (.ref b3), .val (.int (1 : Int32))] [(.long (x (r1 - (1 : Int32)))), (.int (1 : Int32)), (.ref b3)])) rfl rfl (hb hby d3_39)
      have Z145 : n0 ≤ h144.size := Nat.le_trans Z97 (Nat.le_of_eq W144.size.symm)
      have Z145h : h0.size ≤ h144.size := Nat.le_trans Z97h (Nat.le_of_eq W144.size.symm)
      have V144 : Arv Z h144 b3 k3 .long (4 : Int32) [(.long (x (r0 - (1 : Int32)))), (.long (x (r1 - (1 : Int32)))), (.long (0 : Int64)), (.long (0 : Int64))] (.long (0 : Int64)) := Arv.set Ar144 q144 S144 M144 H144 G144 rfl W144 1 rfl (Nat.le_of_ble_eq_true rfl)
      obtain ⟨lc144, X144, N144⟩ := own_pack1 X144 N96 g_b3
      refine own_thr (a := T144.setTop (mkF m 40 #[.val (.ref o0), .val (.ref G), .val (.ref b3), .val (.int (1 : Int32))] [])) (fun t kt => st144 t kt) ?_
      refine own_thr (a := T144.setTop (mkF m 17 #[.val (.ref o0), .val (.ref G), .val (.ref b3), .val (.int (2 : Int32))] [(.ref G), (.int (2 : Int32))])) (fun t kt => ?_) ?_
      · show Steps p.tables e below (T144.setTop (mkF m 40 #[.val (.ref o0), .val (.ref G), .val (.ref b3), .val (.int (1 : Int32))] [])) _
        refine XS.iinc X144.here hx rfl (hb hby d3_40) rfl (l' := #[.val (.ref o0), .val (.ref G), .val (.ref b3), .val (.int (2 : Int32))]) rfl ?_
        refine XS.goto X144.here hx rfl (pc0 := 43) (pc' := 15) rfl (hb hby d3_43) (by decide) (by decide) ?_
        refine XS.iloadN X144.here hx rfl (hb hby d3_15) rfl ?_
        refine XS.aloadN X144.here hx rfl (hb hby d3_16) rfl rfl ?_
        exact kt
      obtain ⟨cl146, Ar146, -, S146, M146, -, -⟩ := id (((V_G.ext E3).other W96 ne_G_b3).other W144 ne_G_b3)
      refine own_thr (a := T144.setTop (mkF m 23 #[.val (.ref o0), .val (.ref G), .val (.ref b3), .val (.int (2 : Int32))] [(.int (2 : Int32)), (.ref G)])) (fun t kt => ?_) ?_
      · show Steps p.tables e below (T144.setTop (mkF m 17 #[.val (.ref o0), .val (.ref G), .val (.ref b3), .val (.int (2 : Int32))] [(.ref G), (.int (2 : Int32))])) _
        refine X144.arraylength hx (by rw [e144]; exact Ar146.1) (State.isArrayOf_alike hZ.alike Ar146.2.1) (g := (mkF m 17 #[.val (.ref o0), .val (.ref G), .val (.ref b3), .val (.int (2 : Int32))] [(.ref G), (.int (2 : Int32))])) rfl rfl (hb hby d3_17) _ ?_
        rw [len_of S146 M146]
        refine XS.icmpNo X144.here hx rfl (hb hby d3_18) rfl (tlt (by decide)).2.1 ?_
        refine XS.aloadN X144.here hx rfl (hb hby d3_21) rfl rfl ?_
        refine XS.iloadN X144.here hx rfl (hb hby d3_22) rfl ?_
        exact kt
      obtain ⟨cl147, Ar147, -, S147, M147, H147, -⟩ := id (((V_G.ext E3).other W96 ne_G_b3).other W144 ne_G_b3)
      have hin147 : ¬ ((2 : Int32) < 0 ∨ cl147.slots.size ≤ ((2 : Int32)).toNatClampNeg) := inb_of S147 ⟨by decide, by decide⟩
      have hat147 : cl147.slots[((2 : Int32)).toNatClampNeg]? = some (.int r2) := Has.at H147 hin147 rfl
      refine own_thr (a := T144.setTop (mkF m 24 #[.val (.ref o0), .val (.ref G), .val (.ref b3), .val (.int (2 : Int32))] [(.int r2)])) (fun t kt => ?_) ?_
      · show Steps p.tables e below (T144.setTop (mkF m 23 #[.val (.ref o0), .val (.ref G), .val (.ref b3), .val (.int (2 : Int32))] [(.int (2 : Int32)), (.ref G)])) _
        refine X144.iaload hx (j := (2 : Int32)) (v := (.int r2)) (by rw [e144]; exact Ar147.1) (State.isArrayOf_alike hZ.alike Ar147.2.1) Ar147.2.2 hin147 hat147 (g := (mkF m 23 #[.val (.ref o0), .val (.ref G), .val (.ref b3), .val (.int (2 : Int32))] [(.int (2 : Int32)), (.ref G)])) rfl rfl (hb hby d3_23) _ ?_
        exact kt
      by_cases hc148 : r2 = (0 : Int32)
      · refine own_thr (a := T144.setTop (mkF m 17 #[.val (.ref o0), .val (.ref G), .val (.ref b3), .val (.int (3 : Int32))] [(.ref G), (.int (3 : Int32))])) (fun t kt => ?_) ?_
        · show Steps p.tables e below (T144.setTop (mkF m 24 #[.val (.ref o0), .val (.ref G), .val (.ref b3), .val (.int (2 : Int32))] [(.int r2)])) _
          refine XS.ifYes X144.here hx rfl (pc0 := 24) (pc' := 40) rfl (hb hby d3_24) rfl ((if0 _ _).trans (teq hc148).1) (by decide) (by decide) ?_
          refine XS.iinc X144.here hx rfl (hb hby d3_40) rfl (l' := #[.val (.ref o0), .val (.ref G), .val (.ref b3), .val (.int (3 : Int32))]) rfl ?_
          refine XS.goto X144.here hx rfl (pc0 := 43) (pc' := 15) rfl (hb hby d3_43) (by decide) (by decide) ?_
          refine XS.iloadN X144.here hx rfl (hb hby d3_15) rfl ?_
          refine XS.aloadN X144.here hx rfl (hb hby d3_16) rfl rfl ?_
          exact kt
        obtain ⟨cl149, Ar149, -, S149, M149, -, -⟩ := id (((V_G.ext E3).other W96 ne_G_b3).other W144 ne_G_b3)
        refine own_thr (a := T144.setTop (mkF m 23 #[.val (.ref o0), .val (.ref G), .val (.ref b3), .val (.int (3 : Int32))] [(.int (3 : Int32)), (.ref G)])) (fun t kt => ?_) ?_
        · show Steps p.tables e below (T144.setTop (mkF m 17 #[.val (.ref o0), .val (.ref G), .val (.ref b3), .val (.int (3 : Int32))] [(.ref G), (.int (3 : Int32))])) _
          refine X144.arraylength hx (by rw [e144]; exact Ar149.1) (State.isArrayOf_alike hZ.alike Ar149.2.1) (g := (mkF m 17 #[.val (.ref o0), .val (.ref G), .val (.ref b3), .val (.int (3 : Int32))] [(.ref G), (.int (3 : Int32))])) rfl rfl (hb hby d3_17) _ ?_
          rw [len_of S149 M149]
          refine XS.icmpNo X144.here hx rfl (hb hby d3_18) rfl (tlt (by decide)).2.1 ?_
          refine XS.aloadN X144.here hx rfl (hb hby d3_21) rfl rfl ?_
          refine XS.iloadN X144.here hx rfl (hb hby d3_22) rfl ?_
          exact kt
        obtain ⟨cl150, Ar150, -, S150, M150, H150, -⟩ := id (((V_G.ext E3).other W96 ne_G_b3).other W144 ne_G_b3)
        have hin150 : ¬ ((3 : Int32) < 0 ∨ cl150.slots.size ≤ ((3 : Int32)).toNatClampNeg) := inb_of S150 ⟨by decide, by decide⟩
        have hat150 : cl150.slots[((3 : Int32)).toNatClampNeg]? = some (.int r3) := Has.at H150 hin150 rfl
        refine own_thr (a := T144.setTop (mkF m 24 #[.val (.ref o0), .val (.ref G), .val (.ref b3), .val (.int (3 : Int32))] [(.int r3)])) (fun t kt => ?_) ?_
        · show Steps p.tables e below (T144.setTop (mkF m 23 #[.val (.ref o0), .val (.ref G), .val (.ref b3), .val (.int (3 : Int32))] [(.int (3 : Int32)), (.ref G)])) _
          refine X144.iaload hx (j := (3 : Int32)) (v := (.int r3)) (by rw [e144]; exact Ar150.1) (State.isArrayOf_alike hZ.alike Ar150.2.1) Ar150.2.2 hin150 hat150 (g := (mkF m 23 #[.val (.ref o0), .val (.ref G), .val (.ref b3), .val (.int (3 : Int32))] [(.int (3 : Int32)), (.ref G)])) rfl rfl (hb hby d3_23) _ ?_
          exact kt
        by_cases hc151 : r3 = (0 : Int32)
        · refine own_thr (a := T144.setTop (mkF m 17 #[.val (.ref o0), .val (.ref G), .val (.ref b3), .val (.int (4 : Int32))] [(.ref G), (.int (4 : Int32))])) (fun t kt => ?_) ?_
          · show Steps p.tables e below (T144.setTop (mkF m 24 #[.val (.ref o0), .val (.ref G), .val (.ref b3), .val (.int (3 : Int32))] [(.int r3)])) _
            refine XS.ifYes X144.here hx rfl (pc0 := 24) (pc' := 40) rfl (hb hby d3_24) rfl ((if0 _ _).trans (teq hc151).1) (by decide) (by decide) ?_
            refine XS.iinc X144.here hx rfl (hb hby d3_40) rfl (l' := #[.val (.ref o0), .val (.ref G), .val (.ref b3), .val (.int (4 : Int32))]) rfl ?_
            refine XS.goto X144.here hx rfl (pc0 := 43) (pc' := 15) rfl (hb hby d3_43) (by decide) (by decide) ?_
            refine XS.iloadN X144.here hx rfl (hb hby d3_15) rfl ?_
            refine XS.aloadN X144.here hx rfl (hb hby d3_16) rfl rfl ?_
            exact kt
          obtain ⟨cl152, Ar152, -, S152, M152, -, -⟩ := id (((V_G.ext E3).other W96 ne_G_b3).other W144 ne_G_b3)
          refine own_thr (a := T144.setTop (mkF m 48 #[.val (.ref o0), .val (.ref G), .val (.ref b3), .val (.int (4 : Int32))] [(.ref b3), (.ref o0)])) (fun t kt => ?_) ?_
          · show Steps p.tables e below (T144.setTop (mkF m 17 #[.val (.ref o0), .val (.ref G), .val (.ref b3), .val (.int (4 : Int32))] [(.ref G), (.int (4 : Int32))])) _
            refine X144.arraylength hx (by rw [e144]; exact Ar152.1) (State.isArrayOf_alike hZ.alike Ar152.2.1) (g := (mkF m 17 #[.val (.ref o0), .val (.ref G), .val (.ref b3), .val (.int (4 : Int32))] [(.ref G), (.int (4 : Int32))])) rfl rfl (hb hby d3_17) _ ?_
            rw [len_of S152 M152]
            refine XS.icmpYes X144.here hx rfl (pc0 := 18) (pc' := 46) rfl (hb hby d3_18) rfl (flt (by decide)).2.1 (by decide) (by decide) ?_
            refine XS.aloadN X144.here hx rfl (hb hby d3_46) rfl rfl ?_
            refine XS.aloadN X144.here hx rfl (hb hby d3_47) rfl rfl ?_
            exact kt
          have c153 := (((F_b.ext E3).other W96 (Or.inl ne_o0_b3)).other W144 (Or.inl ne_o0_b3))
          obtain ⟨T154, h154, X154, e154, W154, st154⟩ := putF X144 hx hZ hown (host := "") (Or.inl (hw _ (List.mem_of_getElem? (i := 19) rfl))) Via.refl e144 c153 (((E_o0.ext E3).wr W96).wr W144) (Or.inl (hw _ (List.mem_of_getElem? (i := 20) rfl))) (hw _ (List.mem_of_getElem? (i := 4) rfl)) (ty := (.array .long)) (by decide) rfl rfl (g := (mkF m 48 #[.val (.ref o0), .val (.ref G), .val (.ref b3), .val (.int (4 : Int32))] [(.ref b3), (.ref o0)])) rfl rfl (hb hby d3_48)
          have Fw154 := c153.same W154
          have Z155 : n0 ≤ h154.size := Nat.le_trans Z145 (Nat.le_of_eq W154.size.symm)
          have Z155h : h0.size ≤ h154.size := Nat.le_trans Z145h (Nat.le_of_eq W154.size.symm)
          obtain ⟨lc154, X154, N154⟩ := own_pack1 X154 N144 g_o0
          refine own_thr (a := T154.setTop (mkF m 51 #[.val (.ref o0), .val (.ref G), .val (.ref b3), .val (.int (4 : Int32))] [])) (fun t kt => st154 t kt) ?_
          exact own_end X154 hlk (v := none) (fun _ => rfl) (fun fs hr => X154.returnOut hx Bd.returns (hb hby d3_51) hr) (by rw [e154]; exact ⟨b3, k3, rfl, N154, (((((Keep.refl h0 [o0]).ext E3).wr W96 (Or.inr sz_b3)).wr W144 (Or.inr sz_b3)).wr W154 (Or.inl (List.mem_of_getElem? (i := 0) rfl))), ((((E_o0.ext E3).wr W96).wr W144).wr W154), Fw154, (by rw [own_o1 hc7, own_o1 hc100, own_o0 hc148, own_o0 hc151]; exact (V144.other W154 (Ne.symm ne_o0_b3))), sz_b3⟩) (by decide : 1 ≤ _) (by decide : 4 ≤ _)
        · refine own_thr (a := T144.setTop (mkF m 30 #[.val (.ref o0), .val (.ref G), .val (.ref b3), .val (.int (3 : Int32))] [(.ref o0), (.int (3 : Int32)), (.ref b3)])) (fun t kt => ?_) ?_
          · show Steps p.tables e below (T144.setTop (mkF m 24 #[.val (.ref o0), .val (.ref G), .val (.ref b3), .val (.int (3 : Int32))] [(.int r3)])) _
            refine XS.ifNo X144.here hx rfl (hb hby d3_24) rfl ((if0 _ _).trans (feq hc151).1) ?_
            refine XS.aloadN X144.here hx rfl (hb hby d3_27) rfl rfl ?_
            refine XS.iloadN X144.here hx rfl (hb hby d3_28) rfl ?_
            refine XS.aloadN X144.here hx rfl (hb hby d3_29) rfl rfl ?_
            exact kt
          have c156 := (((F_b.ext E3).other W96 (Or.inl ne_o0_b3)).other W144 (Or.inl ne_o0_b3))
          obtain ⟨T157, X157, e157, st157⟩ := getF X144 hx hZ hown (host := "") (Or.inl (hw _ (List.mem_of_getElem? (i := 19) rfl))) Via.refl e144 c156 (g := (mkF m 30 #[.val (.ref o0), .val (.ref G), .val (.ref b3), .val (.int (3 : Int32))] [(.ref o0), (.int (3 : Int32)), (.ref b3)])) rfl rfl (hb hby d3_30)
          refine own_thr (a := T157.setTop (mkF m 33 #[.val (.ref o0), .val (.ref G), .val (.ref b3), .val (.int (3 : Int32))] [(.ref B), (.int (3 : Int32)), (.ref b3)])) (fun t kt => st157 t kt) ?_
          refine own_thr (a := T157.setTop (mkF m 35 #[.val (.ref o0), .val (.ref G), .val (.ref b3), .val (.int (3 : Int32))] [(.int (3 : Int32)), (.ref G), (.ref B), (.int (3 : Int32)), (.ref b3)])) (fun t kt => ?_) ?_
          · show Steps p.tables e below (T157.setTop (mkF m 33 #[.val (.ref o0), .val (.ref G), .val (.ref b3), .val (.int (3 : Int32))] [(.ref B), (.int (3 : Int32)), (.ref b3)])) _
            refine XS.aloadN X157.here hx rfl (hb hby d3_33) rfl rfl ?_
            refine XS.iloadN X157.here hx rfl (hb hby d3_34) rfl ?_
            exact kt
          obtain ⟨cl158, Ar158, -, S158, M158, H158, -⟩ := id (((V_G.ext E3).other W96 ne_G_b3).other W144 ne_G_b3)
          have hin158 : ¬ ((3 : Int32) < 0 ∨ cl158.slots.size ≤ ((3 : Int32)).toNatClampNeg) := inb_of S158 ⟨by decide, by decide⟩
          have hat158 : cl158.slots[((3 : Int32)).toNatClampNeg]? = some (.int r3) := Has.at H158 hin158 rfl
          refine own_thr (a := T157.setTop (mkF m 38 #[.val (.ref o0), .val (.ref G), .val (.ref b3), .val (.int (3 : Int32))] [(.int (r3 - (1 : Int32))), (.ref B), (.int (3 : Int32)), (.ref b3)])) (fun t kt => ?_) ?_
          · show Steps p.tables e below (T157.setTop (mkF m 35 #[.val (.ref o0), .val (.ref G), .val (.ref b3), .val (.int (3 : Int32))] [(.int (3 : Int32)), (.ref G), (.ref B), (.int (3 : Int32)), (.ref b3)])) _
            refine X157.iaload hx (j := (3 : Int32)) (v := (.int r3)) (by rw [e157]; exact Ar158.1) (State.isArrayOf_alike hZ.alike Ar158.2.1) Ar158.2.2 hin158 hat158 (g := (mkF m 35 #[.val (.ref o0), .val (.ref G), .val (.ref b3), .val (.int (3 : Int32))] [(.int (3 : Int32)), (.ref G), (.ref B), (.int (3 : Int32)), (.ref b3)])) rfl rfl (hb hby d3_35) _ ?_
            refine XS.iconst X157.here hx rfl (hb hby d3_36) ?_
            refine XS.isub X157.here hx rfl (hb hby d3_37) rfl ?_
            exact kt
          obtain ⟨cl159, Ar159, S159, M159, H159⟩ := id (((V_B.ext E3).other W96 ne_B_b3).other W144 ne_B_b3)
          have hin159 : ¬ ((r3 - (1 : Int32)) < 0 ∨ cl159.slots.size ≤ ((r3 - (1 : Int32))).toNatClampNeg) := inb_of S159 ⟨(hr3 hc151).1, (hr3 hc151).2⟩
          refine own_thr (a := T157.setTop (mkF m 39 #[.val (.ref o0), .val (.ref G), .val (.ref b3), .val (.int (3 : Int32))] [(.long (x (r3 - (1 : Int32)))), (.int (3 : Int32)), (.ref b3)])) (fun t kt => ?_) ?_
          · show Steps p.tables e below (T157.setTop (mkF m 38 #[.val (.ref o0), .val (.ref G), .val (.ref b3), .val (.int (3 : Int32))] [(.int (r3 - (1 : Int32))), (.ref B), (.int (3 : Int32)), (.ref b3)])) _
            refine X157.laload hx (j := (r3 - (1 : Int32))) (v := (.long (x (r3 - (1 : Int32))))) (by rw [e157]; exact Ar159.1) (State.isArrayOf_alike hZ.alike Ar159.2.1) Ar159.2.2 hin159 (H159 (r3 - (1 : Int32)) (hr3 hc151).1 (hr3 hc151).2) (g := (mkF m 38 #[.val (.ref o0), .val (.ref G), .val (.ref b3), .val (.int (3 : Int32))] [(.int (r3 - (1 : Int32))), (.ref B), (.int (3 : Int32)), (.ref b3)])) rfl rfl (hb hby d3_38) _ ?_
            exact kt
          obtain ⟨cl160, Ar160, q160, S160, M160, H160, G160⟩ := id V144
          have hin160 : ¬ ((3 : Int32) < 0 ∨ cl160.slots.size ≤ ((3 : Int32)).toNatClampNeg) := inb_of S160 ⟨by decide, by decide⟩
          obtain ⟨T160, h160, X160, e160, W160, st160⟩ := stJ X157 hx hZ e157 Ar160 (j := (3 : Int32)) hin160 (g := (mkF m 39 #[.val (.ref o0), .val (.ref G), .val (.ref b3), .val (.int (3 : Int32))] [(.long (x (r3 - (1 : Int32)))), (.int (3 : Int32)), (.ref b3)])) rfl rfl (hb hby d3_39)
          have Z161 : n0 ≤ h160.size := Nat.le_trans Z145 (Nat.le_of_eq W160.size.symm)
          have Z161h : h0.size ≤ h160.size := Nat.le_trans Z145h (Nat.le_of_eq W160.size.symm)
          have V160 : Arv Z h160 b3 k3 .long (4 : Int32) [(.long (x (r0 - (1 : Int32)))), (.long (x (r1 - (1 : Int32)))), (.long (0 : Int64)), (.long (x (r3 - (1 : Int32))))] (.long (0 : Int64)) := Arv.set Ar160 q160 S160 M160 H160 G160 rfl W160 3 rfl (Nat.le_of_ble_eq_true rfl)
          obtain ⟨lc160, X160, N160⟩ := own_pack1 X160 N144 g_b3
          refine own_thr (a := T160.setTop (mkF m 40 #[.val (.ref o0), .val (.ref G), .val (.ref b3), .val (.int (3 : Int32))] [])) (fun t kt => st160 t kt) ?_
          refine own_thr (a := T160.setTop (mkF m 17 #[.val (.ref o0), .val (.ref G), .val (.ref b3), .val (.int (4 : Int32))] [(.ref G), (.int (4 : Int32))])) (fun t kt => ?_) ?_
          · show Steps p.tables e below (T160.setTop (mkF m 40 #[.val (.ref o0), .val (.ref G), .val (.ref b3), .val (.int (3 : Int32))] [])) _
            refine XS.iinc X160.here hx rfl (hb hby d3_40) rfl (l' := #[.val (.ref o0), .val (.ref G), .val (.ref b3), .val (.int (4 : Int32))]) rfl ?_
            refine XS.goto X160.here hx rfl (pc0 := 43) (pc' := 15) rfl (hb hby d3_43) (by decide) (by decide) ?_
            refine XS.iloadN X160.here hx rfl (hb hby d3_15) rfl ?_
            refine XS.aloadN X160.here hx rfl (hb hby d3_16) rfl rfl ?_
            exact kt
          have c163 := ((((V_G.ext E3).other W96 ne_G_b3).other W144 ne_G_b3).other W160 ne_G_b3)
          obtain ⟨cl162, Ar162, -, S162, M162, -, -⟩ := id c163
          refine own_thr (a := T160.setTop (mkF m 48 #[.val (.ref o0), .val (.ref G), .val (.ref b3), .val (.int (4 : Int32))] [(.ref b3), (.ref o0)])) (fun t kt => ?_) ?_
          · show Steps p.tables e below (T160.setTop (mkF m 17 #[.val (.ref o0), .val (.ref G), .val (.ref b3), .val (.int (4 : Int32))] [(.ref G), (.int (4 : Int32))])) _
            refine X160.arraylength hx (by rw [e160]; exact Ar162.1) (State.isArrayOf_alike hZ.alike Ar162.2.1) (g := (mkF m 17 #[.val (.ref o0), .val (.ref G), .val (.ref b3), .val (.int (4 : Int32))] [(.ref G), (.int (4 : Int32))])) rfl rfl (hb hby d3_17) _ ?_
            rw [len_of S162 M162]
            refine XS.icmpYes X160.here hx rfl (pc0 := 18) (pc' := 46) rfl (hb hby d3_18) rfl (flt (by decide)).2.1 (by decide) (by decide) ?_
            refine XS.aloadN X160.here hx rfl (hb hby d3_46) rfl rfl ?_
            refine XS.aloadN X160.here hx rfl (hb hby d3_47) rfl rfl ?_
            exact kt
          obtain ⟨T164, h164, X164, e164, W164, st164⟩ := putF X160 hx hZ hown (host := "") (Or.inl (hw _ (List.mem_of_getElem? (i := 19) rfl))) Via.refl e160 (c156.other W160 (Or.inl ne_o0_b3)) ((((E_o0.ext E3).wr W96).wr W144).wr W160) (Or.inl (hw _ (List.mem_of_getElem? (i := 20) rfl))) (hw _ (List.mem_of_getElem? (i := 4) rfl)) (ty := (.array .long)) (by decide) rfl rfl (g := (mkF m 48 #[.val (.ref o0), .val (.ref G), .val (.ref b3), .val (.int (4 : Int32))] [(.ref b3), (.ref o0)])) rfl rfl (hb hby d3_48)
          have Fw164 := (c156.other W160 (Or.inl ne_o0_b3)).same W164
          have Z165 : n0 ≤ h164.size := Nat.le_trans Z161 (Nat.le_of_eq W164.size.symm)
          have Z165h : h0.size ≤ h164.size := Nat.le_trans Z161h (Nat.le_of_eq W164.size.symm)
          obtain ⟨lc164, X164, N164⟩ := own_pack1 X164 N160 g_o0
          refine own_thr (a := T164.setTop (mkF m 51 #[.val (.ref o0), .val (.ref G), .val (.ref b3), .val (.int (4 : Int32))] [])) (fun t kt => st164 t kt) ?_
          exact own_end X164 hlk (v := none) (fun _ => rfl) (fun fs hr => X164.returnOut hx Bd.returns (hb hby d3_51) hr) (by rw [e164]; exact ⟨b3, k3, rfl, N164, ((((((Keep.refl h0 [o0]).ext E3).wr W96 (Or.inr sz_b3)).wr W144 (Or.inr sz_b3)).wr W160 (Or.inr sz_b3)).wr W164 (Or.inl (List.mem_of_getElem? (i := 0) rfl))), (((((E_o0.ext E3).wr W96).wr W144).wr W160).wr W164), Fw164, (by rw [own_o1 hc7, own_o1 hc100, own_o0 hc148, own_o1 hc151]; exact (V160.other W164 (Ne.symm ne_o0_b3))), sz_b3⟩) (by decide : 1 ≤ _) (by decide : 4 ≤ _)
      · refine own_thr (a := T144.setTop (mkF m 30 #[.val (.ref o0), .val (.ref G), .val (.ref b3), .val (.int (2 : Int32))] [(.ref o0), (.int (2 : Int32)), (.ref b3)])) (fun t kt => ?_) ?_
        · show Steps p.tables e below (T144.setTop (mkF m 24 #[.val (.ref o0), .val (.ref G), .val (.ref b3), .val (.int (2 : Int32))] [(.int r2)])) _
          refine XS.ifNo X144.here hx rfl (hb hby d3_24) rfl ((if0 _ _).trans (feq hc148).1) ?_
          refine XS.aloadN X144.here hx rfl (hb hby d3_27) rfl rfl ?_
          refine XS.iloadN X144.here hx rfl (hb hby d3_28) rfl ?_
          refine XS.aloadN X144.here hx rfl (hb hby d3_29) rfl rfl ?_
          exact kt
        have c166 := (((F_b.ext E3).other W96 (Or.inl ne_o0_b3)).other W144 (Or.inl ne_o0_b3))
        obtain ⟨T167, X167, e167, st167⟩ := getF X144 hx hZ hown (host := "") (Or.inl (hw _ (List.mem_of_getElem? (i := 19) rfl))) Via.refl e144 c166 (g := (mkF m 30 #[.val (.ref o0), .val (.ref G), .val (.ref b3), .val (.int (2 : Int32))] [(.ref o0), (.int (2 : Int32)), (.ref b3)])) rfl rfl (hb hby d3_30)
        refine own_thr (a := T167.setTop (mkF m 33 #[.val (.ref o0), .val (.ref G), .val (.ref b3), .val (.int (2 : Int32))] [(.ref B), (.int (2 : Int32)), (.ref b3)])) (fun t kt => st167 t kt) ?_
        refine own_thr (a := T167.setTop (mkF m 35 #[.val (.ref o0), .val (.ref G), .val (.ref b3), .val (.int (2 : Int32))] [(.int (2 : Int32)), (.ref G), (.ref B), (.int (2 : Int32)), (.ref b3)])) (fun t kt => ?_) ?_
        · show Steps p.tables e below (T167.setTop (mkF m 33 #[.val (.ref o0), .val (.ref G), .val (.ref b3), .val (.int (2 : Int32))] [(.ref B), (.int (2 : Int32)), (.ref b3)])) _
          refine XS.aloadN X167.here hx rfl (hb hby d3_33) rfl rfl ?_
          refine XS.iloadN X167.here hx rfl (hb hby d3_34) rfl ?_
          exact kt
        obtain ⟨cl168, Ar168, -, S168, M168, H168, -⟩ := id (((V_G.ext E3).other W96 ne_G_b3).other W144 ne_G_b3)
        have hin168 : ¬ ((2 : Int32) < 0 ∨ cl168.slots.size ≤ ((2 : Int32)).toNatClampNeg) := inb_of S168 ⟨by decide, by decide⟩
        have hat168 : cl168.slots[((2 : Int32)).toNatClampNeg]? = some (.int r2) := Has.at H168 hin168 rfl
        refine own_thr (a := T167.setTop (mkF m 38 #[.val (.ref o0), .val (.ref G), .val (.ref b3), .val (.int (2 : Int32))] [(.int (r2 - (1 : Int32))), (.ref B), (.int (2 : Int32)), (.ref b3)])) (fun t kt => ?_) ?_
        · show Steps p.tables e below (T167.setTop (mkF m 35 #[.val (.ref o0), .val (.ref G), .val (.ref b3), .val (.int (2 : Int32))] [(.int (2 : Int32)), (.ref G), (.ref B), (.int (2 : Int32)), (.ref b3)])) _
          refine X167.iaload hx (j := (2 : Int32)) (v := (.int r2)) (by rw [e167]; exact Ar168.1) (State.isArrayOf_alike hZ.alike Ar168.2.1) Ar168.2.2 hin168 hat168 (g := (mkF m 35 #[.val (.ref o0), .val (.ref G), .val (.ref b3), .val (.int (2 : Int32))] [(.int (2 : Int32)), (.ref G), (.ref B), (.int (2 : Int32)), (.ref b3)])) rfl rfl (hb hby d3_35) _ ?_
          refine XS.iconst X167.here hx rfl (hb hby d3_36) ?_
          refine XS.isub X167.here hx rfl (hb hby d3_37) rfl ?_
          exact kt
        obtain ⟨cl169, Ar169, S169, M169, H169⟩ := id (((V_B.ext E3).other W96 ne_B_b3).other W144 ne_B_b3)
        have hin169 : ¬ ((r2 - (1 : Int32)) < 0 ∨ cl169.slots.size ≤ ((r2 - (1 : Int32))).toNatClampNeg) := inb_of S169 ⟨(hr2 hc148).1, (hr2 hc148).2⟩
        refine own_thr (a := T167.setTop (mkF m 39 #[.val (.ref o0), .val (.ref G), .val (.ref b3), .val (.int (2 : Int32))] [(.long (x (r2 - (1 : Int32)))), (.int (2 : Int32)), (.ref b3)])) (fun t kt => ?_) ?_
        · show Steps p.tables e below (T167.setTop (mkF m 38 #[.val (.ref o0), .val (.ref G), .val (.ref b3), .val (.int (2 : Int32))] [(.int (r2 - (1 : Int32))), (.ref B), (.int (2 : Int32)), (.ref b3)])) _
          refine X167.laload hx (j := (r2 - (1 : Int32))) (v := (.long (x (r2 - (1 : Int32))))) (by rw [e167]; exact Ar169.1) (State.isArrayOf_alike hZ.alike Ar169.2.1) Ar169.2.2 hin169 (H169 (r2 - (1 : Int32)) (hr2 hc148).1 (hr2 hc148).2) (g := (mkF m 38 #[.val (.ref o0), .val (.ref G), .val (.ref b3), .val (.int (2 : Int32))] [(.int (r2 - (1 : Int32))), (.ref B), (.int (2 : Int32)), (.ref b3)])) rfl rfl (hb hby d3_38) _ ?_
          exact kt
        obtain ⟨cl170, Ar170, q170, S170, M170, H170, G170⟩ := id V144
        have hin170 : ¬ ((2 : Int32) < 0 ∨ cl170.slots.size ≤ ((2 : Int32)).toNatClampNeg) := inb_of S170 ⟨by decide, by decide⟩
        obtain ⟨T170, h170, X170, e170, W170, st170⟩ := stJ X167 hx hZ e167 Ar170 (j := (2 : Int32)) hin170 (g := (mkF m 39 #[.val (.ref o0), .val (.ref G), .val (.ref b3), .val (.int (2 : Int32))] [(.long (x (r2 - (1 : Int32)))), (.int (2 : Int32)), (.ref b3)])) rfl rfl (hb hby d3_39)
        have Z171 : n0 ≤ h170.size := Nat.le_trans Z145 (Nat.le_of_eq W170.size.symm)
        have Z171h : h0.size ≤ h170.size := Nat.le_trans Z145h (Nat.le_of_eq W170.size.symm)
        have V170 : Arv Z h170 b3 k3 .long (4 : Int32) [(.long (x (r0 - (1 : Int32)))), (.long (x (r1 - (1 : Int32)))), (.long (x (r2 - (1 : Int32)))), (.long (0 : Int64))] (.long (0 : Int64)) := Arv.set Ar170 q170 S170 M170 H170 G170 rfl W170 2 rfl (Nat.le_of_ble_eq_true rfl)
        obtain ⟨lc170, X170, N170⟩ := own_pack1 X170 N144 g_b3
        refine own_thr (a := T170.setTop (mkF m 40 #[.val (.ref o0), .val (.ref G), .val (.ref b3), .val (.int (2 : Int32))] [])) (fun t kt => st170 t kt) ?_
        refine own_thr (a := T170.setTop (mkF m 17 #[.val (.ref o0), .val (.ref G), .val (.ref b3), .val (.int (3 : Int32))] [(.ref G), (.int (3 : Int32))])) (fun t kt => ?_) ?_
        · show Steps p.tables e below (T170.setTop (mkF m 40 #[.val (.ref o0), .val (.ref G), .val (.ref b3), .val (.int (2 : Int32))] [])) _
          refine XS.iinc X170.here hx rfl (hb hby d3_40) rfl (l' := #[.val (.ref o0), .val (.ref G), .val (.ref b3), .val (.int (3 : Int32))]) rfl ?_
          refine XS.goto X170.here hx rfl (pc0 := 43) (pc' := 15) rfl (hb hby d3_43) (by decide) (by decide) ?_
          refine XS.iloadN X170.here hx rfl (hb hby d3_15) rfl ?_
          refine XS.aloadN X170.here hx rfl (hb hby d3_16) rfl rfl ?_
          exact kt
        have c173 := ((((V_G.ext E3).other W96 ne_G_b3).other W144 ne_G_b3).other W170 ne_G_b3)
        obtain ⟨cl172, Ar172, -, S172, M172, -, -⟩ := id c173
        refine own_thr (a := T170.setTop (mkF m 23 #[.val (.ref o0), .val (.ref G), .val (.ref b3), .val (.int (3 : Int32))] [(.int (3 : Int32)), (.ref G)])) (fun t kt => ?_) ?_
        · show Steps p.tables e below (T170.setTop (mkF m 17 #[.val (.ref o0), .val (.ref G), .val (.ref b3), .val (.int (3 : Int32))] [(.ref G), (.int (3 : Int32))])) _
          refine X170.arraylength hx (by rw [e170]; exact Ar172.1) (State.isArrayOf_alike hZ.alike Ar172.2.1) (g := (mkF m 17 #[.val (.ref o0), .val (.ref G), .val (.ref b3), .val (.int (3 : Int32))] [(.ref G), (.int (3 : Int32))])) rfl rfl (hb hby d3_17) _ ?_
          rw [len_of S172 M172]
          refine XS.icmpNo X170.here hx rfl (hb hby d3_18) rfl (tlt (by decide)).2.1 ?_
          refine XS.aloadN X170.here hx rfl (hb hby d3_21) rfl rfl ?_
          refine XS.iloadN X170.here hx rfl (hb hby d3_22) rfl ?_
          exact kt
        obtain ⟨cl174, Ar174, -, S174, M174, H174, -⟩ := id c173
        have hin174 : ¬ ((3 : Int32) < 0 ∨ cl174.slots.size ≤ ((3 : Int32)).toNatClampNeg) := inb_of S174 ⟨by decide, by decide⟩
        have hat174 : cl174.slots[((3 : Int32)).toNatClampNeg]? = some (.int r3) := Has.at H174 hin174 rfl
        refine own_thr (a := T170.setTop (mkF m 24 #[.val (.ref o0), .val (.ref G), .val (.ref b3), .val (.int (3 : Int32))] [(.int r3)])) (fun t kt => ?_) ?_
        · show Steps p.tables e below (T170.setTop (mkF m 23 #[.val (.ref o0), .val (.ref G), .val (.ref b3), .val (.int (3 : Int32))] [(.int (3 : Int32)), (.ref G)])) _
          refine X170.iaload hx (j := (3 : Int32)) (v := (.int r3)) (by rw [e170]; exact Ar174.1) (State.isArrayOf_alike hZ.alike Ar174.2.1) Ar174.2.2 hin174 hat174 (g := (mkF m 23 #[.val (.ref o0), .val (.ref G), .val (.ref b3), .val (.int (3 : Int32))] [(.int (3 : Int32)), (.ref G)])) rfl rfl (hb hby d3_23) _ ?_
          exact kt
        by_cases hc175 : r3 = (0 : Int32)
        · refine own_thr (a := T170.setTop (mkF m 17 #[.val (.ref o0), .val (.ref G), .val (.ref b3), .val (.int (4 : Int32))] [(.ref G), (.int (4 : Int32))])) (fun t kt => ?_) ?_
          · show Steps p.tables e below (T170.setTop (mkF m 24 #[.val (.ref o0), .val (.ref G), .val (.ref b3), .val (.int (3 : Int32))] [(.int r3)])) _
            refine XS.ifYes X170.here hx rfl (pc0 := 24) (pc' := 40) rfl (hb hby d3_24) rfl ((if0 _ _).trans (teq hc175).1) (by decide) (by decide) ?_
            refine XS.iinc X170.here hx rfl (hb hby d3_40) rfl (l' := #[.val (.ref o0), .val (.ref G), .val (.ref b3), .val (.int (4 : Int32))]) rfl ?_
            refine XS.goto X170.here hx rfl (pc0 := 43) (pc' := 15) rfl (hb hby d3_43) (by decide) (by decide) ?_
            refine XS.iloadN X170.here hx rfl (hb hby d3_15) rfl ?_
            refine XS.aloadN X170.here hx rfl (hb hby d3_16) rfl rfl ?_
            exact kt
          obtain ⟨cl176, Ar176, -, S176, M176, -, -⟩ := id c173
          refine own_thr (a := T170.setTop (mkF m 48 #[.val (.ref o0), .val (.ref G), .val (.ref b3), .val (.int (4 : Int32))] [(.ref b3), (.ref o0)])) (fun t kt => ?_) ?_
          · show Steps p.tables e below (T170.setTop (mkF m 17 #[.val (.ref o0), .val (.ref G), .val (.ref b3), .val (.int (4 : Int32))] [(.ref G), (.int (4 : Int32))])) _
            refine X170.arraylength hx (by rw [e170]; exact Ar176.1) (State.isArrayOf_alike hZ.alike Ar176.2.1) (g := (mkF m 17 #[.val (.ref o0), .val (.ref G), .val (.ref b3), .val (.int (4 : Int32))] [(.ref G), (.int (4 : Int32))])) rfl rfl (hb hby d3_17) _ ?_
            rw [len_of S176 M176]
            refine XS.icmpYes X170.here hx rfl (pc0 := 18) (pc' := 46) rfl (hb hby d3_18) rfl (flt (by decide)).2.1 (by decide) (by decide) ?_
            refine XS.aloadN X170.here hx rfl (hb hby d3_46) rfl rfl ?_
            refine XS.aloadN X170.here hx rfl (hb hby d3_47) rfl rfl ?_
            exact kt
          obtain ⟨T177, h177, X177, e177, W177, st177⟩ := putF X170 hx hZ hown (host := "") (Or.inl (hw _ (List.mem_of_getElem? (i := 19) rfl))) Via.refl e170 (c166.other W170 (Or.inl ne_o0_b3)) ((((E_o0.ext E3).wr W96).wr W144).wr W170) (Or.inl (hw _ (List.mem_of_getElem? (i := 20) rfl))) (hw _ (List.mem_of_getElem? (i := 4) rfl)) (ty := (.array .long)) (by decide) rfl rfl (g := (mkF m 48 #[.val (.ref o0), .val (.ref G), .val (.ref b3), .val (.int (4 : Int32))] [(.ref b3), (.ref o0)])) rfl rfl (hb hby d3_48)
          have Fw177 := (c166.other W170 (Or.inl ne_o0_b3)).same W177
          have Z178 : n0 ≤ h177.size := Nat.le_trans Z171 (Nat.le_of_eq W177.size.symm)
          have Z178h : h0.size ≤ h177.size := Nat.le_trans Z171h (Nat.le_of_eq W177.size.symm)
          obtain ⟨lc177, X177, N177⟩ := own_pack1 X177 N170 g_o0
          refine own_thr (a := T177.setTop (mkF m 51 #[.val (.ref o0), .val (.ref G), .val (.ref b3), .val (.int (4 : Int32))] [])) (fun t kt => st177 t kt) ?_
          exact own_end X177 hlk (v := none) (fun _ => rfl) (fun fs hr => X177.returnOut hx Bd.returns (hb hby d3_51) hr) (by rw [e177]; exact ⟨b3, k3, rfl, N177, ((((((Keep.refl h0 [o0]).ext E3).wr W96 (Or.inr sz_b3)).wr W144 (Or.inr sz_b3)).wr W170 (Or.inr sz_b3)).wr W177 (Or.inl (List.mem_of_getElem? (i := 0) rfl))), (((((E_o0.ext E3).wr W96).wr W144).wr W170).wr W177), Fw177, (by rw [own_o1 hc7, own_o1 hc100, own_o1 hc148, own_o0 hc175]; exact (V170.other W177 (Ne.symm ne_o0_b3))), sz_b3⟩) (by decide : 1 ≤ _) (by decide : 4 ≤ _)
        · refine own_thr (a := T170.setTop (mkF m 30 #[.val (.ref o0), .val (.ref G), .val (.ref b3), .val (.int (3 : Int32))] [(.ref o0), (.int (3 : Int32)), (.ref b3)])) (fun t kt => ?_) ?_
          · show Steps p.tables e below (T170.setTop (mkF m 24 #[.val (.ref o0), .val (.ref G), .val (.ref b3), .val (.int (3 : Int32))] [(.int r3)])) _
            refine XS.ifNo X170.here hx rfl (hb hby d3_24) rfl ((if0 _ _).trans (feq hc175).1) ?_
            refine XS.aloadN X170.here hx rfl (hb hby d3_27) rfl rfl ?_
            refine XS.iloadN X170.here hx rfl (hb hby d3_28) rfl ?_
            refine XS.aloadN X170.here hx rfl (hb hby d3_29) rfl rfl ?_
            exact kt
          obtain ⟨T179, X179, e179, st179⟩ := getF X170 hx hZ hown (host := "") (Or.inl (hw _ (List.mem_of_getElem? (i := 19) rfl))) Via.refl e170 (c166.other W170 (Or.inl ne_o0_b3)) (g := (mkF m 30 #[.val (.ref o0), .val (.ref G), .val (.ref b3), .val (.int (3 : Int32))] [(.ref o0), (.int (3 : Int32)), (.ref b3)])) rfl rfl (hb hby d3_30)
          refine own_thr (a := T179.setTop (mkF m 33 #[.val (.ref o0), .val (.ref G), .val (.ref b3), .val (.int (3 : Int32))] [(.ref B), (.int (3 : Int32)), (.ref b3)])) (fun t kt => st179 t kt) ?_
          refine own_thr (a := T179.setTop (mkF m 35 #[.val (.ref o0), .val (.ref G), .val (.ref b3), .val (.int (3 : Int32))] [(.int (3 : Int32)), (.ref G), (.ref B), (.int (3 : Int32)), (.ref b3)])) (fun t kt => ?_) ?_
          · show Steps p.tables e below (T179.setTop (mkF m 33 #[.val (.ref o0), .val (.ref G), .val (.ref b3), .val (.int (3 : Int32))] [(.ref B), (.int (3 : Int32)), (.ref b3)])) _
            refine XS.aloadN X179.here hx rfl (hb hby d3_33) rfl rfl ?_
            refine XS.iloadN X179.here hx rfl (hb hby d3_34) rfl ?_
            exact kt
          obtain ⟨cl180, Ar180, -, S180, M180, H180, -⟩ := id c173
          have hin180 : ¬ ((3 : Int32) < 0 ∨ cl180.slots.size ≤ ((3 : Int32)).toNatClampNeg) := inb_of S180 ⟨by decide, by decide⟩
          have hat180 : cl180.slots[((3 : Int32)).toNatClampNeg]? = some (.int r3) := Has.at H180 hin180 rfl
          refine own_thr (a := T179.setTop (mkF m 38 #[.val (.ref o0), .val (.ref G), .val (.ref b3), .val (.int (3 : Int32))] [(.int (r3 - (1 : Int32))), (.ref B), (.int (3 : Int32)), (.ref b3)])) (fun t kt => ?_) ?_
          · show Steps p.tables e below (T179.setTop (mkF m 35 #[.val (.ref o0), .val (.ref G), .val (.ref b3), .val (.int (3 : Int32))] [(.int (3 : Int32)), (.ref G), (.ref B), (.int (3 : Int32)), (.ref b3)])) _
            refine X179.iaload hx (j := (3 : Int32)) (v := (.int r3)) (by rw [e179]; exact Ar180.1) (State.isArrayOf_alike hZ.alike Ar180.2.1) Ar180.2.2 hin180 hat180 (g := (mkF m 35 #[.val (.ref o0), .val (.ref G), .val (.ref b3), .val (.int (3 : Int32))] [(.int (3 : Int32)), (.ref G), (.ref B), (.int (3 : Int32)), (.ref b3)])) rfl rfl (hb hby d3_35) _ ?_
            refine XS.iconst X179.here hx rfl (hb hby d3_36) ?_
            refine XS.isub X179.here hx rfl (hb hby d3_37) rfl ?_
            exact kt
          have c182 := ((((V_B.ext E3).other W96 ne_B_b3).other W144 ne_B_b3).other W170 ne_B_b3)
          obtain ⟨cl181, Ar181, S181, M181, H181⟩ := id c182
          have hin181 : ¬ ((r3 - (1 : Int32)) < 0 ∨ cl181.slots.size ≤ ((r3 - (1 : Int32))).toNatClampNeg) := inb_of S181 ⟨(hr3 hc175).1, (hr3 hc175).2⟩
          refine own_thr (a := T179.setTop (mkF m 39 #[.val (.ref o0), .val (.ref G), .val (.ref b3), .val (.int (3 : Int32))] [(.long (x (r3 - (1 : Int32)))), (.int (3 : Int32)), (.ref b3)])) (fun t kt => ?_) ?_
          · show Steps p.tables e below (T179.setTop (mkF m 38 #[.val (.ref o0), .val (.ref G), .val (.ref b3), .val (.int (3 : Int32))] [(.int (r3 - (1 : Int32))), (.ref B), (.int (3 : Int32)), (.ref b3)])) _
            refine X179.laload hx (j := (r3 - (1 : Int32))) (v := (.long (x (r3 - (1 : Int32))))) (by rw [e179]; exact Ar181.1) (State.isArrayOf_alike hZ.alike Ar181.2.1) Ar181.2.2 hin181 (H181 (r3 - (1 : Int32)) (hr3 hc175).1 (hr3 hc175).2) (g := (mkF m 38 #[.val (.ref o0), .val (.ref G), .val (.ref b3), .val (.int (3 : Int32))] [(.int (r3 - (1 : Int32))), (.ref B), (.int (3 : Int32)), (.ref b3)])) rfl rfl (hb hby d3_38) _ ?_
            exact kt
          obtain ⟨cl183, Ar183, q183, S183, M183, H183, G183⟩ := id V170
          have hin183 : ¬ ((3 : Int32) < 0 ∨ cl183.slots.size ≤ ((3 : Int32)).toNatClampNeg) := inb_of S183 ⟨by decide, by decide⟩
          obtain ⟨T183, h183, X183, e183, W183, st183⟩ := stJ X179 hx hZ e179 Ar183 (j := (3 : Int32)) hin183 (g := (mkF m 39 #[.val (.ref o0), .val (.ref G), .val (.ref b3), .val (.int (3 : Int32))] [(.long (x (r3 - (1 : Int32)))), (.int (3 : Int32)), (.ref b3)])) rfl rfl (hb hby d3_39)
          have Z184 : n0 ≤ h183.size := Nat.le_trans Z171 (Nat.le_of_eq W183.size.symm)
          have Z184h : h0.size ≤ h183.size := Nat.le_trans Z171h (Nat.le_of_eq W183.size.symm)
          have V183 : Arv Z h183 b3 k3 .long (4 : Int32) [(.long (x (r0 - (1 : Int32)))), (.long (x (r1 - (1 : Int32)))), (.long (x (r2 - (1 : Int32)))), (.long (x (r3 - (1 : Int32))))] (.long (0 : Int64)) := Arv.set Ar183 q183 S183 M183 H183 G183 rfl W183 3 rfl (Nat.le_of_ble_eq_true rfl)
          obtain ⟨lc183, X183, N183⟩ := own_pack1 X183 N170 g_b3
          refine own_thr (a := T183.setTop (mkF m 40 #[.val (.ref o0), .val (.ref G), .val (.ref b3), .val (.int (3 : Int32))] [])) (fun t kt => st183 t kt) ?_
          refine own_thr (a := T183.setTop (mkF m 17 #[.val (.ref o0), .val (.ref G), .val (.ref b3), .val (.int (4 : Int32))] [(.ref G), (.int (4 : Int32))])) (fun t kt => ?_) ?_
          · show Steps p.tables e below (T183.setTop (mkF m 40 #[.val (.ref o0), .val (.ref G), .val (.ref b3), .val (.int (3 : Int32))] [])) _
            refine XS.iinc X183.here hx rfl (hb hby d3_40) rfl (l' := #[.val (.ref o0), .val (.ref G), .val (.ref b3), .val (.int (4 : Int32))]) rfl ?_
            refine XS.goto X183.here hx rfl (pc0 := 43) (pc' := 15) rfl (hb hby d3_43) (by decide) (by decide) ?_
            refine XS.iloadN X183.here hx rfl (hb hby d3_15) rfl ?_
            refine XS.aloadN X183.here hx rfl (hb hby d3_16) rfl rfl ?_
            exact kt
          obtain ⟨cl185, Ar185, -, S185, M185, -, -⟩ := id (c173.other W183 ne_G_b3)
          refine own_thr (a := T183.setTop (mkF m 48 #[.val (.ref o0), .val (.ref G), .val (.ref b3), .val (.int (4 : Int32))] [(.ref b3), (.ref o0)])) (fun t kt => ?_) ?_
          · show Steps p.tables e below (T183.setTop (mkF m 17 #[.val (.ref o0), .val (.ref G), .val (.ref b3), .val (.int (4 : Int32))] [(.ref G), (.int (4 : Int32))])) _
            refine X183.arraylength hx (by rw [e183]; exact Ar185.1) (State.isArrayOf_alike hZ.alike Ar185.2.1) (g := (mkF m 17 #[.val (.ref o0), .val (.ref G), .val (.ref b3), .val (.int (4 : Int32))] [(.ref G), (.int (4 : Int32))])) rfl rfl (hb hby d3_17) _ ?_
            rw [len_of S185 M185]
            refine XS.icmpYes X183.here hx rfl (pc0 := 18) (pc' := 46) rfl (hb hby d3_18) rfl (flt (by decide)).2.1 (by decide) (by decide) ?_
            refine XS.aloadN X183.here hx rfl (hb hby d3_46) rfl rfl ?_
            refine XS.aloadN X183.here hx rfl (hb hby d3_47) rfl rfl ?_
            exact kt
          have c186 := ((c166.other W170 (Or.inl ne_o0_b3)).other W183 (Or.inl ne_o0_b3))
          obtain ⟨T187, h187, X187, e187, W187, st187⟩ := putF X183 hx hZ hown (host := "") (Or.inl (hw _ (List.mem_of_getElem? (i := 19) rfl))) Via.refl e183 c186 (((((E_o0.ext E3).wr W96).wr W144).wr W170).wr W183) (Or.inl (hw _ (List.mem_of_getElem? (i := 20) rfl))) (hw _ (List.mem_of_getElem? (i := 4) rfl)) (ty := (.array .long)) (by decide) rfl rfl (g := (mkF m 48 #[.val (.ref o0), .val (.ref G), .val (.ref b3), .val (.int (4 : Int32))] [(.ref b3), (.ref o0)])) rfl rfl (hb hby d3_48)
          have Fw187 := c186.same W187
          have Z188 : n0 ≤ h187.size := Nat.le_trans Z184 (Nat.le_of_eq W187.size.symm)
          have Z188h : h0.size ≤ h187.size := Nat.le_trans Z184h (Nat.le_of_eq W187.size.symm)
          obtain ⟨lc187, X187, N187⟩ := own_pack1 X187 N183 g_o0
          refine own_thr (a := T187.setTop (mkF m 51 #[.val (.ref o0), .val (.ref G), .val (.ref b3), .val (.int (4 : Int32))] [])) (fun t kt => st187 t kt) ?_
          have c189 := ((((((E_o0.ext E3).wr W96).wr W144).wr W170).wr W183).wr W187)
          exact own_end X187 hlk (v := none) (fun _ => rfl) (fun fs hr => X187.returnOut hx Bd.returns (hb hby d3_51) hr) (by rw [e187]; exact ⟨b3, k3, rfl, N187, (((((((Keep.refl h0 [o0]).ext E3).wr W96 (Or.inr sz_b3)).wr W144 (Or.inr sz_b3)).wr W170 (Or.inr sz_b3)).wr W183 (Or.inr sz_b3)).wr W187 (Or.inl (List.mem_of_getElem? (i := 0) rfl))), c189, Fw187, (by rw [own_o1 hc7, own_o1 hc100, own_o1 hc148, own_o1 hc175]; exact (V183.other W187 (Ne.symm ne_o0_b3))), sz_b3⟩) (by decide : 1 ≤ _) (by decide : 4 ≤ _)
theorem d4_12 : decode prog_12_method_2_code 12 = .ok (.aload_n 0, 1) := by decide +kernel
theorem d4_13 : decode prog_12_method_2_code 13 = .ok (.getfield 13, 3) := by decide +kernel
theorem d4_16 : decode prog_12_method_2_code 16 = .ok (.iload_n 1, 1) := by decide +kernel
theorem d4_17 : decode prog_12_method_2_code 17 = .ok (.laload, 1) := by decide +kernel
theorem ef_rmS0 (m : MethodId) (o0 : Addr)  : entryFrame m #[(.ref o0), (.int (0 : Int32))] 2 = mkF m 0 #[.val (.ref o0), .val (.int (0 : Int32))] [] := by first |  (simp [entryFrame, mkF, argsToLocals, Value.category]; done) | rfl
def Q_rmS0 (Z : State) (o0 : Addr) (F : Addr) (kF : ClassId) (w0 : Int64) (w1 : Int64) (w2 : Int64) (w3 : Int64) (h0 : Heap) (n0 : Nat) (v : Option Value) (h : Heap) (L : List Loc) : Prop := v = some (.long w0) ∧ Fr n0 L ∧ h = h0
set_option maxRecDepth 65536 in
set_option maxHeartbeats 40000000 in
theorem rmS0 (l : Launch) (Z : State) (a0 : Array Value) (hw : ∀ d ∈ tables_1, d.before a0 Z = true) (ws : List Jvm.Cond) (o0 : Addr) (F : Addr) (kF : ClassId) (w0 : Int64) (w1 : Int64) (w2 : Int64) (w3 : Int64) (h0 : Heap) (n0 : Nat) (Z0 : n0 ≤ h0.size) (F_bySlot_o0 : Fld Z h0 o0 "dev/chainlatch/bucket/Serials" "bySlot" "[J" (.ref F)) (V_F : Arv Z h0 F kF .long (4 : Int32) [(.long w0), (.long w1), (.long w2), (.long w3)] (.long (0 : Int64))) :
    MetFree l (⟨"dev/chainlatch/bucket/Serials", "serialAt", "(I)J"⟩ : MethodName) (head1 (Jvm.Cond.code (⟨"dev/chainlatch/bucket/Serials", "serialAt", "(I)J"⟩ : MethodName) prog_12_method_2_code 2 (some .long) :: ws) ({ frames := 0, cells := 0, slots := 0, locals := 0 } : Room)) (fun a U => a = #[(.ref o0), (.int (0 : Int32))] ∧ Z.Warmed39 U.vm ∧ U.heap = h0) (fun _ _ _ _ _ => True) (fun _ U o U' => ∃ v L, o = .returned v ∧ Q_rmS0 Z o0 F kF w0 w1 w2 w3 h0 n0 v U'.heap L ∧ FrameEnd U o U' L ({ frames := 0, cells := 0, slots := 0, locals := 0 } : Room).cells ({ frames := 0, cells := 0, slots := 0, locals := 0 } : Room).slots) := by
  refine MetFree.of_bodySF (plainFor_of_name pn_dev_chainlatch_bucket_Serials) hisR ?_
  intro p e s m args below meth c s₁ Bd hml0 hP hK
  obtain ⟨rfl, hZ, hh⟩ := hP
  have hx := Bd.exec
  have hby := Bd.bytes
  have hml : c.maxLocals = 2 := hml0
  have hown : s.vm.findClass "dev/chainlatch/bucket/Serials" = some m.cls := findClass_of_methodNamed Bd.named
  have hnm := (name_of_methodNamed Bd.named Bd.method).1
  have hlk := Bd.notSynchronized
  have X0 : Stand p l e ({ frames := 0, cells := 0, slots := 0, locals := 0 } : Room) s m #[(.ref o0), (.int (0 : Int32))] below meth c s₁ [] 0 0 := Stand.of_body Bd
  have e0 : s₁.heap = h0 := by rw [← hh, Bd.state]; rfl
  have N0 := Fr.nil n0
  show own_G p.tables e below s (Q_rmS0 Z o0 F kF w0 w1 w2 w3 h0 n0) ({ frames := 0, cells := 0, slots := 0, locals := 0 } : Room).cells ({ frames := 0, cells := 0, slots := 0, locals := 0 } : Room).slots _
  refine own_thr (a := s₁.setTop (mkF m 0 #[.val (.ref o0), .val (.int (0 : Int32))] [])) (fun t kt => castTop (ef_rmS0 m o0) kt) ?_
  refine own_thr (a := s₁.setTop (mkF m 1 #[.val (.ref o0), .val (.int (0 : Int32))] [(.ref o0)])) (fun t kt => ?_) ?_
  · show Steps p.tables e below (s₁.setTop (mkF m 0 #[.val (.ref o0), .val (.int (0 : Int32))] [])) _
    refine XS.aloadN X0.here hx rfl (hb hby d4_0) rfl rfl ?_
    exact kt
  obtain ⟨T1, X1, e1, st1⟩ := getF X0 hx hZ hown (host := "") (Or.inl (hw _ (List.mem_of_getElem? (i := 19) rfl))) Via.refl e0 F_bySlot_o0 (g := (mkF m 1 #[.val (.ref o0), .val (.int (0 : Int32))] [(.ref o0)])) rfl rfl (hb hby d4_1)
  refine own_thr (a := T1.setTop (mkF m 4 #[.val (.ref o0), .val (.int (0 : Int32))] [(.ref F)])) (fun t kt => st1 t kt) ?_
  refine own_thr (a := T1.setTop (mkF m 13 #[.val (.ref o0), .val (.int (0 : Int32))] [(.ref o0)])) (fun t kt => ?_) ?_
  · show Steps p.tables e below (T1.setTop (mkF m 4 #[.val (.ref o0), .val (.int (0 : Int32))] [(.ref F)])) _
    refine XS.ifnonnullYes X1.here hx rfl (pc0 := 4) (pc' := 12) rfl (hb hby d4_4) rfl (by decide) (by decide) ?_
    refine XS.aloadN X1.here hx rfl (hb hby d4_12) rfl rfl ?_
    exact kt
  obtain ⟨T2, X2, e2, st2⟩ := getF X1 hx hZ hown (host := "") (Or.inl (hw _ (List.mem_of_getElem? (i := 19) rfl))) Via.refl e1 F_bySlot_o0 (g := (mkF m 13 #[.val (.ref o0), .val (.int (0 : Int32))] [(.ref o0)])) rfl rfl (hb hby d4_13)
  refine own_thr (a := T2.setTop (mkF m 16 #[.val (.ref o0), .val (.int (0 : Int32))] [(.ref F)])) (fun t kt => st2 t kt) ?_
  refine own_thr (a := T2.setTop (mkF m 17 #[.val (.ref o0), .val (.int (0 : Int32))] [(.int (0 : Int32)), (.ref F)])) (fun t kt => ?_) ?_
  · show Steps p.tables e below (T2.setTop (mkF m 16 #[.val (.ref o0), .val (.int (0 : Int32))] [(.ref F)])) _
    refine XS.iloadN X2.here hx rfl (hb hby d4_16) rfl ?_
    exact kt
  obtain ⟨cl3, Ar3, -, S3, M3, H3, -⟩ := id V_F
  have hin3 : ¬ ((0 : Int32) < 0 ∨ cl3.slots.size ≤ ((0 : Int32)).toNatClampNeg) := inb_of S3 ⟨by decide, by decide⟩
  have hat3 : cl3.slots[((0 : Int32)).toNatClampNeg]? = some (.long w0) := Has.at H3 hin3 rfl
  refine own_thr (a := T2.setTop (mkF m 18 #[.val (.ref o0), .val (.int (0 : Int32))] [(.long w0)])) (fun t kt => ?_) ?_
  · show Steps p.tables e below (T2.setTop (mkF m 17 #[.val (.ref o0), .val (.int (0 : Int32))] [(.int (0 : Int32)), (.ref F)])) _
    refine X2.laload hx (j := (0 : Int32)) (v := (.long w0)) (by rw [e2]; exact Ar3.1) (State.isArrayOf_alike hZ.alike Ar3.2.1) Ar3.2.2 hin3 hat3 (g := (mkF m 17 #[.val (.ref o0), .val (.int (0 : Int32))] [(.int (0 : Int32)), (.ref F)])) rfl rfl (hb hby d4_17) _ ?_
    exact kt
  exact own_end X2 hlk (v := some (.long w0)) (fun h => by rw [Bd.returns] at h; cases h) (fun fs hr => retJ X2 hx Bd.returns (hb hby d4_18) hr) (by rw [e2]; exact ⟨rfl, N0, rfl⟩) (by decide : 0 ≤ _) (by decide : 0 ≤ _)
theorem ef_rmS1 (m : MethodId) (o0 : Addr)  : entryFrame m #[(.ref o0), (.int (1 : Int32))] 2 = mkF m 0 #[.val (.ref o0), .val (.int (1 : Int32))] [] := by first |  (simp [entryFrame, mkF, argsToLocals, Value.category]; done) | rfl
def Q_rmS1 (Z : State) (o0 : Addr) (F : Addr) (kF : ClassId) (w0 : Int64) (w1 : Int64) (w2 : Int64) (w3 : Int64) (h0 : Heap) (n0 : Nat) (v : Option Value) (h : Heap) (L : List Loc) : Prop := v = some (.long w1) ∧ Fr n0 L ∧ h = h0
set_option maxRecDepth 65536 in
set_option maxHeartbeats 40000000 in
theorem rmS1 (l : Launch) (Z : State) (a0 : Array Value) (hw : ∀ d ∈ tables_1, d.before a0 Z = true) (ws : List Jvm.Cond) (o0 : Addr) (F : Addr) (kF : ClassId) (w0 : Int64) (w1 : Int64) (w2 : Int64) (w3 : Int64) (h0 : Heap) (n0 : Nat) (Z0 : n0 ≤ h0.size) (F_bySlot_o0 : Fld Z h0 o0 "dev/chainlatch/bucket/Serials" "bySlot" "[J" (.ref F)) (V_F : Arv Z h0 F kF .long (4 : Int32) [(.long w0), (.long w1), (.long w2), (.long w3)] (.long (0 : Int64))) :
    MetFree l (⟨"dev/chainlatch/bucket/Serials", "serialAt", "(I)J"⟩ : MethodName) (head1 (Jvm.Cond.code (⟨"dev/chainlatch/bucket/Serials", "serialAt", "(I)J"⟩ : MethodName) prog_12_method_2_code 2 (some .long) :: ws) ({ frames := 0, cells := 0, slots := 0, locals := 0 } : Room)) (fun a U => a = #[(.ref o0), (.int (1 : Int32))] ∧ Z.Warmed39 U.vm ∧ U.heap = h0) (fun _ _ _ _ _ => True) (fun _ U o U' => ∃ v L, o = .returned v ∧ Q_rmS1 Z o0 F kF w0 w1 w2 w3 h0 n0 v U'.heap L ∧ FrameEnd U o U' L ({ frames := 0, cells := 0, slots := 0, locals := 0 } : Room).cells ({ frames := 0, cells := 0, slots := 0, locals := 0 } : Room).slots) := by
  refine MetFree.of_bodySF (plainFor_of_name pn_dev_chainlatch_bucket_Serials) hisR ?_
  intro p e s m args below meth c s₁ Bd hml0 hP hK
  obtain ⟨rfl, hZ, hh⟩ := hP
  have hx := Bd.exec
  have hby := Bd.bytes
  have hml : c.maxLocals = 2 := hml0
  have hown : s.vm.findClass "dev/chainlatch/bucket/Serials" = some m.cls := findClass_of_methodNamed Bd.named
  have hnm := (name_of_methodNamed Bd.named Bd.method).1
  have hlk := Bd.notSynchronized
  have X0 : Stand p l e ({ frames := 0, cells := 0, slots := 0, locals := 0 } : Room) s m #[(.ref o0), (.int (1 : Int32))] below meth c s₁ [] 0 0 := Stand.of_body Bd
  have e0 : s₁.heap = h0 := by rw [← hh, Bd.state]; rfl
  have N0 := Fr.nil n0
  show own_G p.tables e below s (Q_rmS1 Z o0 F kF w0 w1 w2 w3 h0 n0) ({ frames := 0, cells := 0, slots := 0, locals := 0 } : Room).cells ({ frames := 0, cells := 0, slots := 0, locals := 0 } : Room).slots _
  refine own_thr (a := s₁.setTop (mkF m 0 #[.val (.ref o0), .val (.int (1 : Int32))] [])) (fun t kt => castTop (ef_rmS1 m o0) kt) ?_
  refine own_thr (a := s₁.setTop (mkF m 1 #[.val (.ref o0), .val (.int (1 : Int32))] [(.ref o0)])) (fun t kt => ?_) ?_
  · show Steps p.tables e below (s₁.setTop (mkF m 0 #[.val (.ref o0), .val (.int (1 : Int32))] [])) _
    refine XS.aloadN X0.here hx rfl (hb hby d4_0) rfl rfl ?_
    exact kt
  obtain ⟨T1, X1, e1, st1⟩ := getF X0 hx hZ hown (host := "") (Or.inl (hw _ (List.mem_of_getElem? (i := 19) rfl))) Via.refl e0 F_bySlot_o0 (g := (mkF m 1 #[.val (.ref o0), .val (.int (1 : Int32))] [(.ref o0)])) rfl rfl (hb hby d4_1)
  refine own_thr (a := T1.setTop (mkF m 4 #[.val (.ref o0), .val (.int (1 : Int32))] [(.ref F)])) (fun t kt => st1 t kt) ?_
  refine own_thr (a := T1.setTop (mkF m 13 #[.val (.ref o0), .val (.int (1 : Int32))] [(.ref o0)])) (fun t kt => ?_) ?_
  · show Steps p.tables e below (T1.setTop (mkF m 4 #[.val (.ref o0), .val (.int (1 : Int32))] [(.ref F)])) _
    refine XS.ifnonnullYes X1.here hx rfl (pc0 := 4) (pc' := 12) rfl (hb hby d4_4) rfl (by decide) (by decide) ?_
    refine XS.aloadN X1.here hx rfl (hb hby d4_12) rfl rfl ?_
    exact kt
  obtain ⟨T2, X2, e2, st2⟩ := getF X1 hx hZ hown (host := "") (Or.inl (hw _ (List.mem_of_getElem? (i := 19) rfl))) Via.refl e1 F_bySlot_o0 (g := (mkF m 13 #[.val (.ref o0), .val (.int (1 : Int32))] [(.ref o0)])) rfl rfl (hb hby d4_13)
  refine own_thr (a := T2.setTop (mkF m 16 #[.val (.ref o0), .val (.int (1 : Int32))] [(.ref F)])) (fun t kt => st2 t kt) ?_
  refine own_thr (a := T2.setTop (mkF m 17 #[.val (.ref o0), .val (.int (1 : Int32))] [(.int (1 : Int32)), (.ref F)])) (fun t kt => ?_) ?_
  · show Steps p.tables e below (T2.setTop (mkF m 16 #[.val (.ref o0), .val (.int (1 : Int32))] [(.ref F)])) _
    refine XS.iloadN X2.here hx rfl (hb hby d4_16) rfl ?_
    exact kt
  obtain ⟨cl3, Ar3, -, S3, M3, H3, -⟩ := id V_F
  have hin3 : ¬ ((1 : Int32) < 0 ∨ cl3.slots.size ≤ ((1 : Int32)).toNatClampNeg) := inb_of S3 ⟨by decide, by decide⟩
  have hat3 : cl3.slots[((1 : Int32)).toNatClampNeg]? = some (.long w1) := Has.at H3 hin3 rfl
  refine own_thr (a := T2.setTop (mkF m 18 #[.val (.ref o0), .val (.int (1 : Int32))] [(.long w1)])) (fun t kt => ?_) ?_
  · show Steps p.tables e below (T2.setTop (mkF m 17 #[.val (.ref o0), .val (.int (1 : Int32))] [(.int (1 : Int32)), (.ref F)])) _
    refine X2.laload hx (j := (1 : Int32)) (v := (.long w1)) (by rw [e2]; exact Ar3.1) (State.isArrayOf_alike hZ.alike Ar3.2.1) Ar3.2.2 hin3 hat3 (g := (mkF m 17 #[.val (.ref o0), .val (.int (1 : Int32))] [(.int (1 : Int32)), (.ref F)])) rfl rfl (hb hby d4_17) _ ?_
    exact kt
  exact own_end X2 hlk (v := some (.long w1)) (fun h => by rw [Bd.returns] at h; cases h) (fun fs hr => retJ X2 hx Bd.returns (hb hby d4_18) hr) (by rw [e2]; exact ⟨rfl, N0, rfl⟩) (by decide : 0 ≤ _) (by decide : 0 ≤ _)
theorem ef_rmS2 (m : MethodId) (o0 : Addr)  : entryFrame m #[(.ref o0), (.int (2 : Int32))] 2 = mkF m 0 #[.val (.ref o0), .val (.int (2 : Int32))] [] := by first |  (simp [entryFrame, mkF, argsToLocals, Value.category]; done) | rfl
def Q_rmS2 (Z : State) (o0 : Addr) (F : Addr) (kF : ClassId) (w0 : Int64) (w1 : Int64) (w2 : Int64) (w3 : Int64) (h0 : Heap) (n0 : Nat) (v : Option Value) (h : Heap) (L : List Loc) : Prop := v = some (.long w2) ∧ Fr n0 L ∧ h = h0
set_option maxRecDepth 65536 in
set_option maxHeartbeats 40000000 in
theorem rmS2 (l : Launch) (Z : State) (a0 : Array Value) (hw : ∀ d ∈ tables_1, d.before a0 Z = true) (ws : List Jvm.Cond) (o0 : Addr) (F : Addr) (kF : ClassId) (w0 : Int64) (w1 : Int64) (w2 : Int64) (w3 : Int64) (h0 : Heap) (n0 : Nat) (Z0 : n0 ≤ h0.size) (F_bySlot_o0 : Fld Z h0 o0 "dev/chainlatch/bucket/Serials" "bySlot" "[J" (.ref F)) (V_F : Arv Z h0 F kF .long (4 : Int32) [(.long w0), (.long w1), (.long w2), (.long w3)] (.long (0 : Int64))) :
    MetFree l (⟨"dev/chainlatch/bucket/Serials", "serialAt", "(I)J"⟩ : MethodName) (head1 (Jvm.Cond.code (⟨"dev/chainlatch/bucket/Serials", "serialAt", "(I)J"⟩ : MethodName) prog_12_method_2_code 2 (some .long) :: ws) ({ frames := 0, cells := 0, slots := 0, locals := 0 } : Room)) (fun a U => a = #[(.ref o0), (.int (2 : Int32))] ∧ Z.Warmed39 U.vm ∧ U.heap = h0) (fun _ _ _ _ _ => True) (fun _ U o U' => ∃ v L, o = .returned v ∧ Q_rmS2 Z o0 F kF w0 w1 w2 w3 h0 n0 v U'.heap L ∧ FrameEnd U o U' L ({ frames := 0, cells := 0, slots := 0, locals := 0 } : Room).cells ({ frames := 0, cells := 0, slots := 0, locals := 0 } : Room).slots) := by
  refine MetFree.of_bodySF (plainFor_of_name pn_dev_chainlatch_bucket_Serials) hisR ?_
  intro p e s m args below meth c s₁ Bd hml0 hP hK
  obtain ⟨rfl, hZ, hh⟩ := hP
  have hx := Bd.exec
  have hby := Bd.bytes
  have hml : c.maxLocals = 2 := hml0
  have hown : s.vm.findClass "dev/chainlatch/bucket/Serials" = some m.cls := findClass_of_methodNamed Bd.named
  have hnm := (name_of_methodNamed Bd.named Bd.method).1
  have hlk := Bd.notSynchronized
  have X0 : Stand p l e ({ frames := 0, cells := 0, slots := 0, locals := 0 } : Room) s m #[(.ref o0), (.int (2 : Int32))] below meth c s₁ [] 0 0 := Stand.of_body Bd
  have e0 : s₁.heap = h0 := by rw [← hh, Bd.state]; rfl
  have N0 := Fr.nil n0
  show own_G p.tables e below s (Q_rmS2 Z o0 F kF w0 w1 w2 w3 h0 n0) ({ frames := 0, cells := 0, slots := 0, locals := 0 } : Room).cells ({ frames := 0, cells := 0, slots := 0, locals := 0 } : Room).slots _
  refine own_thr (a := s₁.setTop (mkF m 0 #[.val (.ref o0), .val (.int (2 : Int32))] [])) (fun t kt => castTop (ef_rmS2 m o0) kt) ?_
  refine own_thr (a := s₁.setTop (mkF m 1 #[.val (.ref o0), .val (.int (2 : Int32))] [(.ref o0)])) (fun t kt => ?_) ?_
  · show Steps p.tables e below (s₁.setTop (mkF m 0 #[.val (.ref o0), .val (.int (2 : Int32))] [])) _
    refine XS.aloadN X0.here hx rfl (hb hby d4_0) rfl rfl ?_
    exact kt
  obtain ⟨T1, X1, e1, st1⟩ := getF X0 hx hZ hown (host := "") (Or.inl (hw _ (List.mem_of_getElem? (i := 19) rfl))) Via.refl e0 F_bySlot_o0 (g := (mkF m 1 #[.val (.ref o0), .val (.int (2 : Int32))] [(.ref o0)])) rfl rfl (hb hby d4_1)
  refine own_thr (a := T1.setTop (mkF m 4 #[.val (.ref o0), .val (.int (2 : Int32))] [(.ref F)])) (fun t kt => st1 t kt) ?_
  refine own_thr (a := T1.setTop (mkF m 13 #[.val (.ref o0), .val (.int (2 : Int32))] [(.ref o0)])) (fun t kt => ?_) ?_
  · show Steps p.tables e below (T1.setTop (mkF m 4 #[.val (.ref o0), .val (.int (2 : Int32))] [(.ref F)])) _
    refine XS.ifnonnullYes X1.here hx rfl (pc0 := 4) (pc' := 12) rfl (hb hby d4_4) rfl (by decide) (by decide) ?_
    refine XS.aloadN X1.here hx rfl (hb hby d4_12) rfl rfl ?_
    exact kt
  obtain ⟨T2, X2, e2, st2⟩ := getF X1 hx hZ hown (host := "") (Or.inl (hw _ (List.mem_of_getElem? (i := 19) rfl))) Via.refl e1 F_bySlot_o0 (g := (mkF m 13 #[.val (.ref o0), .val (.int (2 : Int32))] [(.ref o0)])) rfl rfl (hb hby d4_13)
  refine own_thr (a := T2.setTop (mkF m 16 #[.val (.ref o0), .val (.int (2 : Int32))] [(.ref F)])) (fun t kt => st2 t kt) ?_
  refine own_thr (a := T2.setTop (mkF m 17 #[.val (.ref o0), .val (.int (2 : Int32))] [(.int (2 : Int32)), (.ref F)])) (fun t kt => ?_) ?_
  · show Steps p.tables e below (T2.setTop (mkF m 16 #[.val (.ref o0), .val (.int (2 : Int32))] [(.ref F)])) _
    refine XS.iloadN X2.here hx rfl (hb hby d4_16) rfl ?_
    exact kt
  obtain ⟨cl3, Ar3, -, S3, M3, H3, -⟩ := id V_F
  have hin3 : ¬ ((2 : Int32) < 0 ∨ cl3.slots.size ≤ ((2 : Int32)).toNatClampNeg) := inb_of S3 ⟨by decide, by decide⟩
  have hat3 : cl3.slots[((2 : Int32)).toNatClampNeg]? = some (.long w2) := Has.at H3 hin3 rfl
  refine own_thr (a := T2.setTop (mkF m 18 #[.val (.ref o0), .val (.int (2 : Int32))] [(.long w2)])) (fun t kt => ?_) ?_
  · show Steps p.tables e below (T2.setTop (mkF m 17 #[.val (.ref o0), .val (.int (2 : Int32))] [(.int (2 : Int32)), (.ref F)])) _
    refine X2.laload hx (j := (2 : Int32)) (v := (.long w2)) (by rw [e2]; exact Ar3.1) (State.isArrayOf_alike hZ.alike Ar3.2.1) Ar3.2.2 hin3 hat3 (g := (mkF m 17 #[.val (.ref o0), .val (.int (2 : Int32))] [(.int (2 : Int32)), (.ref F)])) rfl rfl (hb hby d4_17) _ ?_
    exact kt
  exact own_end X2 hlk (v := some (.long w2)) (fun h => by rw [Bd.returns] at h; cases h) (fun fs hr => retJ X2 hx Bd.returns (hb hby d4_18) hr) (by rw [e2]; exact ⟨rfl, N0, rfl⟩) (by decide : 0 ≤ _) (by decide : 0 ≤ _)
theorem ef_rmS3 (m : MethodId) (o0 : Addr)  : entryFrame m #[(.ref o0), (.int (3 : Int32))] 2 = mkF m 0 #[.val (.ref o0), .val (.int (3 : Int32))] [] := by first |  (simp [entryFrame, mkF, argsToLocals, Value.category]; done) | rfl
def Q_rmS3 (Z : State) (o0 : Addr) (F : Addr) (kF : ClassId) (w0 : Int64) (w1 : Int64) (w2 : Int64) (w3 : Int64) (h0 : Heap) (n0 : Nat) (v : Option Value) (h : Heap) (L : List Loc) : Prop := v = some (.long w3) ∧ Fr n0 L ∧ h = h0
set_option maxRecDepth 65536 in
set_option maxHeartbeats 40000000 in
theorem rmS3 (l : Launch) (Z : State) (a0 : Array Value) (hw : ∀ d ∈ tables_1, d.before a0 Z = true) (ws : List Jvm.Cond) (o0 : Addr) (F : Addr) (kF : ClassId) (w0 : Int64) (w1 : Int64) (w2 : Int64) (w3 : Int64) (h0 : Heap) (n0 : Nat) (Z0 : n0 ≤ h0.size) (F_bySlot_o0 : Fld Z h0 o0 "dev/chainlatch/bucket/Serials" "bySlot" "[J" (.ref F)) (V_F : Arv Z h0 F kF .long (4 : Int32) [(.long w0), (.long w1), (.long w2), (.long w3)] (.long (0 : Int64))) :
    MetFree l (⟨"dev/chainlatch/bucket/Serials", "serialAt", "(I)J"⟩ : MethodName) (head1 (Jvm.Cond.code (⟨"dev/chainlatch/bucket/Serials", "serialAt", "(I)J"⟩ : MethodName) prog_12_method_2_code 2 (some .long) :: ws) ({ frames := 0, cells := 0, slots := 0, locals := 0 } : Room)) (fun a U => a = #[(.ref o0), (.int (3 : Int32))] ∧ Z.Warmed39 U.vm ∧ U.heap = h0) (fun _ _ _ _ _ => True) (fun _ U o U' => ∃ v L, o = .returned v ∧ Q_rmS3 Z o0 F kF w0 w1 w2 w3 h0 n0 v U'.heap L ∧ FrameEnd U o U' L ({ frames := 0, cells := 0, slots := 0, locals := 0 } : Room).cells ({ frames := 0, cells := 0, slots := 0, locals := 0 } : Room).slots) := by
  refine MetFree.of_bodySF (plainFor_of_name pn_dev_chainlatch_bucket_Serials) hisR ?_
  intro p e s m args below meth c s₁ Bd hml0 hP hK
  obtain ⟨rfl, hZ, hh⟩ := hP
  have hx := Bd.exec
  have hby := Bd.bytes
  have hml : c.maxLocals = 2 := hml0
  have hown : s.vm.findClass "dev/chainlatch/bucket/Serials" = some m.cls := findClass_of_methodNamed Bd.named
  have hnm := (name_of_methodNamed Bd.named Bd.method).1
  have hlk := Bd.notSynchronized
  have X0 : Stand p l e ({ frames := 0, cells := 0, slots := 0, locals := 0 } : Room) s m #[(.ref o0), (.int (3 : Int32))] below meth c s₁ [] 0 0 := Stand.of_body Bd
  have e0 : s₁.heap = h0 := by rw [← hh, Bd.state]; rfl
  have N0 := Fr.nil n0
  show own_G p.tables e below s (Q_rmS3 Z o0 F kF w0 w1 w2 w3 h0 n0) ({ frames := 0, cells := 0, slots := 0, locals := 0 } : Room).cells ({ frames := 0, cells := 0, slots := 0, locals := 0 } : Room).slots _
  refine own_thr (a := s₁.setTop (mkF m 0 #[.val (.ref o0), .val (.int (3 : Int32))] [])) (fun t kt => castTop (ef_rmS3 m o0) kt) ?_
  refine own_thr (a := s₁.setTop (mkF m 1 #[.val (.ref o0), .val (.int (3 : Int32))] [(.ref o0)])) (fun t kt => ?_) ?_
  · show Steps p.tables e below (s₁.setTop (mkF m 0 #[.val (.ref o0), .val (.int (3 : Int32))] [])) _
    refine XS.aloadN X0.here hx rfl (hb hby d4_0) rfl rfl ?_
    exact kt
  obtain ⟨T1, X1, e1, st1⟩ := getF X0 hx hZ hown (host := "") (Or.inl (hw _ (List.mem_of_getElem? (i := 19) rfl))) Via.refl e0 F_bySlot_o0 (g := (mkF m 1 #[.val (.ref o0), .val (.int (3 : Int32))] [(.ref o0)])) rfl rfl (hb hby d4_1)
  refine own_thr (a := T1.setTop (mkF m 4 #[.val (.ref o0), .val (.int (3 : Int32))] [(.ref F)])) (fun t kt => st1 t kt) ?_
  refine own_thr (a := T1.setTop (mkF m 13 #[.val (.ref o0), .val (.int (3 : Int32))] [(.ref o0)])) (fun t kt => ?_) ?_
  · show Steps p.tables e below (T1.setTop (mkF m 4 #[.val (.ref o0), .val (.int (3 : Int32))] [(.ref F)])) _
    refine XS.ifnonnullYes X1.here hx rfl (pc0 := 4) (pc' := 12) rfl (hb hby d4_4) rfl (by decide) (by decide) ?_
    refine XS.aloadN X1.here hx rfl (hb hby d4_12) rfl rfl ?_
    exact kt
  obtain ⟨T2, X2, e2, st2⟩ := getF X1 hx hZ hown (host := "") (Or.inl (hw _ (List.mem_of_getElem? (i := 19) rfl))) Via.refl e1 F_bySlot_o0 (g := (mkF m 13 #[.val (.ref o0), .val (.int (3 : Int32))] [(.ref o0)])) rfl rfl (hb hby d4_13)
  refine own_thr (a := T2.setTop (mkF m 16 #[.val (.ref o0), .val (.int (3 : Int32))] [(.ref F)])) (fun t kt => st2 t kt) ?_
  refine own_thr (a := T2.setTop (mkF m 17 #[.val (.ref o0), .val (.int (3 : Int32))] [(.int (3 : Int32)), (.ref F)])) (fun t kt => ?_) ?_
  · show Steps p.tables e below (T2.setTop (mkF m 16 #[.val (.ref o0), .val (.int (3 : Int32))] [(.ref F)])) _
    refine XS.iloadN X2.here hx rfl (hb hby d4_16) rfl ?_
    exact kt
  obtain ⟨cl3, Ar3, -, S3, M3, H3, -⟩ := id V_F
  have hin3 : ¬ ((3 : Int32) < 0 ∨ cl3.slots.size ≤ ((3 : Int32)).toNatClampNeg) := inb_of S3 ⟨by decide, by decide⟩
  have hat3 : cl3.slots[((3 : Int32)).toNatClampNeg]? = some (.long w3) := Has.at H3 hin3 rfl
  refine own_thr (a := T2.setTop (mkF m 18 #[.val (.ref o0), .val (.int (3 : Int32))] [(.long w3)])) (fun t kt => ?_) ?_
  · show Steps p.tables e below (T2.setTop (mkF m 17 #[.val (.ref o0), .val (.int (3 : Int32))] [(.int (3 : Int32)), (.ref F)])) _
    refine X2.laload hx (j := (3 : Int32)) (v := (.long w3)) (by rw [e2]; exact Ar3.1) (State.isArrayOf_alike hZ.alike Ar3.2.1) Ar3.2.2 hin3 hat3 (g := (mkF m 17 #[.val (.ref o0), .val (.int (3 : Int32))] [(.int (3 : Int32)), (.ref F)])) rfl rfl (hb hby d4_17) _ ?_
    exact kt
  exact own_end X2 hlk (v := some (.long w3)) (fun h => by rw [Bd.returns] at h; cases h) (fun fs hr => retJ X2 hx Bd.returns (hb hby d4_18) hr) (by rw [e2]; exact ⟨rfl, N0, rfl⟩) (by decide : 0 ≤ _) (by decide : 0 ≤ _)
theorem d11_0 : decode method_3_code 0 = .ok (.iload_n 0, 1) := by decide +kernel
theorem d11_1 : decode method_3_code 1 = .ok (.iload_n 3, 1) := by decide +kernel
theorem d11_2 : decode method_3_code 2 = .ok (.if_icmp .ne 8, 3) := by decide +kernel
theorem d11_5 : decode method_3_code 5 = .ok (.iload_n 1, 1) := by decide +kernel
theorem d11_6 : decode method_3_code 6 = .ok (.i2l, 1) := by decide +kernel
theorem d11_7 : decode method_3_code 7 = .ok (.lconst 1, 1) := by decide +kernel
theorem d11_8 : decode method_3_code 8 = .ok (.ladd, 1) := by decide +kernel
theorem d11_9 : decode method_3_code 9 = .ok (.lreturn, 1) := by decide +kernel
theorem d11_10 : decode method_3_code 10 = .ok (.iload_n 0, 1) := by decide +kernel
theorem d11_11 : decode method_3_code 11 = .ok (.iload_n 2, 1) := by decide +kernel
theorem d11_12 : decode method_3_code 12 = .ok (.if_icmp .ne 6, 3) := by decide +kernel
theorem d11_15 : decode method_3_code 15 = .ok (.iload_n 1, 1) := by decide +kernel
theorem d11_16 : decode method_3_code 16 = .ok (.i2l, 1) := by decide +kernel
theorem d11_17 : decode method_3_code 17 = .ok (.lreturn, 1) := by decide +kernel
theorem d11_18 : decode method_3_code 18 = .ok (.iload_n 0, 1) := by decide +kernel
theorem d11_19 : decode method_3_code 19 = .ok (.i2l, 1) := by decide +kernel
theorem d11_20 : decode method_3_code 20 = .ok (.lreturn, 1) := by decide +kernel
theorem pn_dev_chainlatch_bucket_SerialsRemapPinLaw : plainName "dev/chainlatch/bucket/SerialsRemapPinLaw" = true := by first | (simp [plainName, overriddenIn]; done) | decide +kernel
theorem ef_rmOld (m : MethodId) (k0 : Int32) (n1 : Int32) (p2 : Int32) (q3 : Int32)  : entryFrame m #[(.int k0), (.int n1), (.int p2), (.int q3)] 4 = mkF m 0 #[.val (.int k0), .val (.int n1), .val (.int p2), .val (.int q3)] [] := by first |  (simp [entryFrame, mkF, argsToLocals, Value.category]; done) | rfl
def f_rmOld (k0 : Int32) (n1 : Int32) (p2 : Int32) (q3 : Int32) : Int64 := if k0 = q3 then ((n1.toInt64) + (1 : Int64)) else if k0 = p2 then (n1.toInt64) else (k0.toInt64)
def Q_rmOld (Z : State) (k0 : Int32) (n1 : Int32) (p2 : Int32) (q3 : Int32) (h0 : Heap) (n0 : Nat) (v : Option Value) (h : Heap) (L : List Loc) : Prop := v = some (.long (f_rmOld k0 n1 p2 q3)) ∧ Fr n0 L ∧ h = h0
set_option maxRecDepth 65536 in
set_option maxHeartbeats 40000000 in
theorem rmOld (l : Launch) (Z : State) (a0 : Array Value) (hw : ∀ d ∈ tables_1, d.before a0 Z = true) (ws : List Jvm.Cond) (k0 : Int32) (n1 : Int32) (p2 : Int32) (q3 : Int32) (h0 : Heap) (n0 : Nat) (Z0 : n0 ≤ h0.size) :
    MetFree l (⟨"dev/chainlatch/bucket/SerialsRemapPinLaw", "old", "(IIII)J"⟩ : MethodName) (head1 (Jvm.Cond.code (⟨"dev/chainlatch/bucket/SerialsRemapPinLaw", "old", "(IIII)J"⟩ : MethodName) method_3_code 4 (some .long) :: ws) ({ frames := 0, cells := 0, slots := 0, locals := 0 } : Room)) (fun a U => a = #[(.int k0), (.int n1), (.int p2), (.int q3)] ∧ Z.Warmed39 U.vm ∧ U.heap = h0) (fun _ _ _ _ _ => True) (fun _ U o U' => ∃ v L, o = .returned v ∧ Q_rmOld Z k0 n1 p2 q3 h0 n0 v U'.heap L ∧ FrameEnd U o U' L ({ frames := 0, cells := 0, slots := 0, locals := 0 } : Room).cells ({ frames := 0, cells := 0, slots := 0, locals := 0 } : Room).slots) := by
  refine MetFree.of_bodySF (plainFor_of_name pn_dev_chainlatch_bucket_SerialsRemapPinLaw) hisR ?_
  intro p e s m args below meth c s₁ Bd hml0 hP hK
  obtain ⟨rfl, hZ, hh⟩ := hP
  have hx := Bd.exec
  have hby := Bd.bytes
  have hml : c.maxLocals = 4 := hml0
  have hown : s.vm.findClass "dev/chainlatch/bucket/SerialsRemapPinLaw" = some m.cls := findClass_of_methodNamed Bd.named
  have hnm := (name_of_methodNamed Bd.named Bd.method).1
  have hlk := Bd.notSynchronized
  have X0 : Stand p l e ({ frames := 0, cells := 0, slots := 0, locals := 0 } : Room) s m #[(.int k0), (.int n1), (.int p2), (.int q3)] below meth c s₁ [] 0 0 := Stand.of_body Bd
  have e0 : s₁.heap = h0 := by rw [← hh, Bd.state]; rfl
  have N0 := Fr.nil n0
  show own_G p.tables e below s (Q_rmOld Z k0 n1 p2 q3 h0 n0) ({ frames := 0, cells := 0, slots := 0, locals := 0 } : Room).cells ({ frames := 0, cells := 0, slots := 0, locals := 0 } : Room).slots _
  refine own_thr (a := s₁.setTop (mkF m 0 #[.val (.int k0), .val (.int n1), .val (.int p2), .val (.int q3)] [])) (fun t kt => castTop (ef_rmOld m k0 n1 p2 q3) kt) ?_
  refine own_thr (a := s₁.setTop (mkF m 2 #[.val (.int k0), .val (.int n1), .val (.int p2), .val (.int q3)] [(.int q3), (.int k0)])) (fun t kt => ?_) ?_
  · show Steps p.tables e below (s₁.setTop (mkF m 0 #[.val (.int k0), .val (.int n1), .val (.int p2), .val (.int q3)] [])) _
    refine XS.iloadN X0.here hx rfl (hb hby d11_0) rfl ?_
    refine XS.iloadN X0.here hx rfl (hb hby d11_1) rfl ?_
    exact kt
  by_cases hc1 : k0 = q3
  · refine own_thr (a := s₁.setTop (mkF m 9 #[.val (.int k0), .val (.int n1), .val (.int p2), .val (.int q3)] [(.long ((n1.toInt64) + (1 : Int64)))])) (fun t kt => ?_) ?_
    · show Steps p.tables e below (s₁.setTop (mkF m 2 #[.val (.int k0), .val (.int n1), .val (.int p2), .val (.int q3)] [(.int q3), (.int k0)])) _
      refine XS.icmpNo X0.here hx rfl (hb hby d11_2) rfl (teq hc1).2 ?_
      refine XS.iloadN X0.here hx rfl (hb hby d11_5) rfl ?_
      refine XS.i2l X0.here hx rfl (hb hby d11_6) rfl ?_
      refine XS.lconst X0.here hx rfl (hb hby d11_7) ?_
      refine XS.ladd X0.here hx rfl (hb hby d11_8) rfl ?_
      exact kt
    exact own_end X0 hlk (v := some (.long ((n1.toInt64) + (1 : Int64)))) (fun h => by rw [Bd.returns] at h; cases h) (fun fs hr => retJ X0 hx Bd.returns (hb hby d11_9) hr) (by rw [e0]; exact ⟨(by rw [f_rmOld, if_pos hc1]), N0, rfl⟩) (by decide : 0 ≤ _) (by decide : 0 ≤ _)
  · refine own_thr (a := s₁.setTop (mkF m 12 #[.val (.int k0), .val (.int n1), .val (.int p2), .val (.int q3)] [(.int p2), (.int k0)])) (fun t kt => ?_) ?_
    · show Steps p.tables e below (s₁.setTop (mkF m 2 #[.val (.int k0), .val (.int n1), .val (.int p2), .val (.int q3)] [(.int q3), (.int k0)])) _
      refine XS.icmpYes X0.here hx rfl (pc0 := 2) (pc' := 10) rfl (hb hby d11_2) rfl (feq hc1).2 (by decide) (by decide) ?_
      refine XS.iloadN X0.here hx rfl (hb hby d11_10) rfl ?_
      refine XS.iloadN X0.here hx rfl (hb hby d11_11) rfl ?_
      exact kt
    by_cases hc2 : k0 = p2
    · refine own_thr (a := s₁.setTop (mkF m 17 #[.val (.int k0), .val (.int n1), .val (.int p2), .val (.int q3)] [(.long (n1.toInt64))])) (fun t kt => ?_) ?_
      · show Steps p.tables e below (s₁.setTop (mkF m 12 #[.val (.int k0), .val (.int n1), .val (.int p2), .val (.int q3)] [(.int p2), (.int k0)])) _
        refine XS.icmpNo X0.here hx rfl (hb hby d11_12) rfl (teq hc2).2 ?_
        refine XS.iloadN X0.here hx rfl (hb hby d11_15) rfl ?_
        refine XS.i2l X0.here hx rfl (hb hby d11_16) rfl ?_
        exact kt
      exact own_end X0 hlk (v := some (.long (n1.toInt64))) (fun h => by rw [Bd.returns] at h; cases h) (fun fs hr => retJ X0 hx Bd.returns (hb hby d11_17) hr) (by rw [e0]; exact ⟨(by rw [f_rmOld, if_neg hc1, if_pos hc2]), N0, rfl⟩) (by decide : 0 ≤ _) (by decide : 0 ≤ _)
    · refine own_thr (a := s₁.setTop (mkF m 20 #[.val (.int k0), .val (.int n1), .val (.int p2), .val (.int q3)] [(.long (k0.toInt64))])) (fun t kt => ?_) ?_
      · show Steps p.tables e below (s₁.setTop (mkF m 12 #[.val (.int k0), .val (.int n1), .val (.int p2), .val (.int q3)] [(.int p2), (.int k0)])) _
        refine XS.icmpYes X0.here hx rfl (pc0 := 12) (pc' := 18) rfl (hb hby d11_12) rfl (feq hc2).2 (by decide) (by decide) ?_
        refine XS.iloadN X0.here hx rfl (hb hby d11_18) rfl ?_
        refine XS.i2l X0.here hx rfl (hb hby d11_19) rfl ?_
        exact kt
      exact own_end X0 hlk (v := some (.long (k0.toInt64))) (fun h => by rw [Bd.returns] at h; cases h) (fun fs hr => retJ X0 hx Bd.returns (hb hby d11_20) hr) (by rw [e0]; exact ⟨(by rw [f_rmOld, if_neg hc1, if_neg hc2]), N0, rfl⟩) (by decide : 0 ≤ _) (by decide : 0 ≤ _)
theorem d10_0 : decode method_4_code 0 = .ok (.iload_n 0, 1) := by decide +kernel
theorem d10_1 : decode method_4_code 1 = .ok (.ifCond .ne 5, 3) := by decide +kernel
theorem d10_4 : decode method_4_code 4 = .ok (.lconst 0, 1) := by decide +kernel
theorem d10_5 : decode method_4_code 5 = .ok (.lreturn, 1) := by decide +kernel
theorem d10_6 : decode method_4_code 6 = .ok (.iload_n 0, 1) := by decide +kernel
theorem d10_7 : decode method_4_code 7 = .ok (.iconst 1, 1) := by decide +kernel
theorem d10_8 : decode method_4_code 8 = .ok (.isub, 1) := by decide +kernel
theorem d10_9 : decode method_4_code 9 = .ok (.iload_n 1, 1) := by decide +kernel
theorem d10_10 : decode method_4_code 10 = .ok (.iload_n 2, 1) := by decide +kernel
theorem d10_11 : decode method_4_code 11 = .ok (.iload_n 3, 1) := by decide +kernel
theorem pd__28IIII_29J : parseMethodDescriptor "(IIII)J" = some ⟨[.int, .int, .int, .int], some .long⟩ := by decide +kernel
theorem d10_12 : decode method_4_code 12 = .ok (.invokestatic 39, 3) := by decide +kernel
theorem d10_15 : decode method_4_code 15 = .ok (.lreturn, 1) := by decide +kernel
theorem ef_rmE (m : MethodId) (r0 : Int32) (n1 : Int32) (p2 : Int32) (q3 : Int32)  : entryFrame m #[(.int r0), (.int n1), (.int p2), (.int q3)] 4 = mkF m 0 #[.val (.int r0), .val (.int n1), .val (.int p2), .val (.int q3)] [] := by first |  (simp [entryFrame, mkF, argsToLocals, Value.category]; done) | rfl
def f_rmE (r0 : Int32) (n1 : Int32) (p2 : Int32) (q3 : Int32) : Int64 := if r0 = (0 : Int32) then (0 : Int64) else (f_rmOld (r0 - (1 : Int32)) n1 p2 q3)
def Q_rmE (Z : State) (r0 : Int32) (n1 : Int32) (p2 : Int32) (q3 : Int32) (h0 : Heap) (n0 : Nat) (v : Option Value) (h : Heap) (L : List Loc) : Prop := v = some (.long (f_rmE r0 n1 p2 q3)) ∧ Fr n0 L ∧ h = h0
set_option maxRecDepth 65536 in
set_option maxHeartbeats 40000000 in
theorem rmE (l : Launch) (Z : State) (a0 : Array Value) (hw : ∀ d ∈ tables_1, d.before a0 Z = true) (ws : List Jvm.Cond) (r0 : Int32) (n1 : Int32) (p2 : Int32) (q3 : Int32) (h0 : Heap) (n0 : Nat) (Z0 : n0 ≤ h0.size) :
    MetFree l (⟨"dev/chainlatch/bucket/SerialsRemapPinLaw", "expected", "(IIII)J"⟩ : MethodName) (head1 (Jvm.Cond.code (⟨"dev/chainlatch/bucket/SerialsRemapPinLaw", "expected", "(IIII)J"⟩ : MethodName) method_4_code 4 (some .long) :: ws) ({ frames := 1, cells := 0, slots := 0, locals := 15 } : Room)) (fun a U => a = #[(.int r0), (.int n1), (.int p2), (.int q3)] ∧ Z.Warmed39 U.vm ∧ U.heap = h0) (fun _ _ _ _ _ => True) (fun _ U o U' => ∃ v L, o = .returned v ∧ Q_rmE Z r0 n1 p2 q3 h0 n0 v U'.heap L ∧ FrameEnd U o U' L ({ frames := 1, cells := 0, slots := 0, locals := 15 } : Room).cells ({ frames := 1, cells := 0, slots := 0, locals := 15 } : Room).slots) := by
  refine MetFree.of_bodySF (plainFor_of_name pn_dev_chainlatch_bucket_SerialsRemapPinLaw) hisR ?_
  intro p e s m args below meth c s₁ Bd hml0 hP hK
  obtain ⟨rfl, hZ, hh⟩ := hP
  have hx := Bd.exec
  have hby := Bd.bytes
  have hml : c.maxLocals = 4 := hml0
  have hown : s.vm.findClass "dev/chainlatch/bucket/SerialsRemapPinLaw" = some m.cls := findClass_of_methodNamed Bd.named
  have hnm := (name_of_methodNamed Bd.named Bd.method).1
  have hlk := Bd.notSynchronized
  have X0 : Stand p l e ({ frames := 1, cells := 0, slots := 0, locals := 15 } : Room) s m #[(.int r0), (.int n1), (.int p2), (.int q3)] below meth c s₁ [] 0 0 := Stand.of_body Bd
  have e0 : s₁.heap = h0 := by rw [← hh, Bd.state]; rfl
  have N0 := Fr.nil n0
  show own_G p.tables e below s (Q_rmE Z r0 n1 p2 q3 h0 n0) ({ frames := 1, cells := 0, slots := 0, locals := 15 } : Room).cells ({ frames := 1, cells := 0, slots := 0, locals := 15 } : Room).slots _
  refine own_thr (a := s₁.setTop (mkF m 0 #[.val (.int r0), .val (.int n1), .val (.int p2), .val (.int q3)] [])) (fun t kt => castTop (ef_rmE m r0 n1 p2 q3) kt) ?_
  refine own_thr (a := s₁.setTop (mkF m 1 #[.val (.int r0), .val (.int n1), .val (.int p2), .val (.int q3)] [(.int r0)])) (fun t kt => ?_) ?_
  · show Steps p.tables e below (s₁.setTop (mkF m 0 #[.val (.int r0), .val (.int n1), .val (.int p2), .val (.int q3)] [])) _
    refine XS.iloadN X0.here hx rfl (hb hby d10_0) rfl ?_
    exact kt
  by_cases hc1 : r0 = (0 : Int32)
  · refine own_thr (a := s₁.setTop (mkF m 5 #[.val (.int r0), .val (.int n1), .val (.int p2), .val (.int q3)] [(.long (0 : Int64))])) (fun t kt => ?_) ?_
    · show Steps p.tables e below (s₁.setTop (mkF m 1 #[.val (.int r0), .val (.int n1), .val (.int p2), .val (.int q3)] [(.int r0)])) _
      refine XS.ifNo X0.here hx rfl (hb hby d10_1) rfl ((if0 _ _).trans (teq hc1).2) ?_
      refine XS.lconst X0.here hx rfl (hb hby d10_4) ?_
      exact kt
    exact own_end X0 hlk (v := some (.long (0 : Int64))) (fun h => by rw [Bd.returns] at h; cases h) (fun fs hr => retJ X0 hx Bd.returns (hb hby d10_5) hr) (by rw [e0]; exact ⟨(by rw [f_rmE, if_pos hc1]), N0, rfl⟩) (by decide : 0 ≤ _) (by decide : 0 ≤ _)
  · refine own_thr (a := s₁.setTop (mkF m 12 #[.val (.int r0), .val (.int n1), .val (.int p2), .val (.int q3)] [(.int q3), (.int p2), (.int n1), (.int (r0 - (1 : Int32)))])) (fun t kt => ?_) ?_
    · show Steps p.tables e below (s₁.setTop (mkF m 1 #[.val (.int r0), .val (.int n1), .val (.int p2), .val (.int q3)] [(.int r0)])) _
      refine XS.ifYes X0.here hx rfl (pc0 := 1) (pc' := 6) rfl (hb hby d10_1) rfl ((if0 _ _).trans (feq hc1).2) (by decide) (by decide) ?_
      refine XS.iloadN X0.here hx rfl (hb hby d10_6) rfl ?_
      refine XS.iconst X0.here hx rfl (hb hby d10_7) ?_
      refine XS.isub X0.here hx rfl (hb hby d10_8) rfl ?_
      refine XS.iloadN X0.here hx rfl (hb hby d10_9) rfl ?_
      refine XS.iloadN X0.here hx rfl (hb hby d10_10) rfl ?_
      refine XS.iloadN X0.here hx rfl (hb hby d10_11) rfl ?_
      exact kt
    obtain ⟨_, _, ⟨T2, L2, k2, n2⟩, -, X2, ⟨Lc2, hQ2, l2, y2, z2⟩, st2⟩ := Jvm.LawKit.callS X0 hx (y := (⟨"dev/chainlatch/bucket/SerialsRemapPinLaw", "old", "(IIII)J"⟩ : MethodName)) hown (mvT hZ (hw _ (List.mem_of_getElem? (i := 61) rfl))) (mvT hZ (hw _ (List.mem_of_getElem? (i := 62) rfl))) (mvT hZ (hw _ (List.mem_of_getElem? (i := 59) rfl))) (mvT hZ (hw _ (List.mem_of_getElem? (i := 63) rfl))) (by decide) (backOf (W := 0) (rmOld l Z a0 hw [] (r0 - (1 : Int32)) n1 p2 q3 h0 n0 Z0) hZ (hw _ (List.mem_of_getElem? (i := 63) rfl)) (hw _ (List.mem_of_getElem? (i := 59) rfl)) (by decide) (by decide)) (g := (mkF m 12 #[.val (.int r0), .val (.int n1), .val (.int p2), .val (.int q3)] [(.int q3), (.int p2), (.int n1), (.int (r0 - (1 : Int32)))])) rfl (by rw [hml]; rfl) (argsL := [(.int (r0 - (1 : Int32))), (.int n1), (.int p2), (.int q3)]) (rest := []) (lenOf pd__28IIII_29J rfl) rfl (by show 2 * 0 + _ ≤ _; exact Nat.le_of_eq rfl) (hb hby d10_12) (fun _ _ => ⟨rfl, e0, (by decide : 0 + 0 ≤ _), (by decide : 0 + 0 ≤ _)⟩)
    dsimp only [Pt.U, Pt.locs, Pt.cells, Pt.slots] at X2 l2 y2 z2 st2 hQ2
    obtain ⟨rfl, N2q, e2⟩ := hQ2
    obtain ⟨lc2, X2, N2⟩ := own_pack X2 l2 y2 z2 N0 N2q (C := 0) (S' := 0) rfl rfl
    refine own_thr (a := T2.setTop (mkF m 15 #[.val (.int r0), .val (.int n1), .val (.int p2), .val (.int q3)] [(.long (f_rmOld (r0 - (1 : Int32)) n1 p2 q3))])) (fun t kt => st2 t kt) ?_
    exact own_end X2 hlk (v := some (.long (f_rmOld (r0 - (1 : Int32)) n1 p2 q3))) (fun h => by rw [Bd.returns] at h; cases h) (fun fs hr => retJ X2 hx Bd.returns (hb hby d10_15) hr) (by rw [e2]; exact ⟨(by rw [f_rmE, if_neg hc1]), N2, rfl⟩) (by decide : 0 ≤ _) (by decide : 0 ≤ _)
theorem own_fin (r n p q : Int32) : own_o (own_upL (own_upL own_idL p (n.toInt64)) q ((n.toInt64) + (1 : Int64))) r = f_rmE r n p q := by
  unfold own_o f_rmE
  by_cases h : r = 0
  · rw [if_pos h, if_pos h]
  · rw [if_neg h, if_neg h]; rfl
theorem own_n (x : Int32) : 1 ≤ ((1 : Int32) + (x &&& (3 : Int32))).toInt ∧ ((1 : Int32) + (x &&& (3 : Int32))).toInt ≤ 4 := by
  have h := c_mask x 3 2 (by decide) (by decide)
  have a := c_iadd (1 : Int32) (x &&& (3 : Int32))
  have r := rng32 ((1 : Int32) + (x &&& (3 : Int32)))
  have e3 : (1 : Int32).toInt = 1 := rfl
  omega
theorem own_n1 {n : Int32} (Hn : 1 ≤ n.toInt ∧ n.toInt ≤ 4) : (n + (1 : Int32)).toInt = n.toInt + 1 := by
  have a := c_iadd n (1 : Int32)
  have r := rng32 (n + (1 : Int32))
  have e1 : (1 : Int32).toInt = 1 := rfl
  omega
theorem own_nz {n : Int32} (Hn : 1 ≤ n.toInt ∧ n.toInt ≤ 4) : n ≠ 0 := fun e => by
  subst e; exact absurd Hn.1 (by decide)
theorem own_nz1 {n : Int32} (Hn : 1 ≤ n.toInt ∧ n.toInt ≤ 4) : n + (1 : Int32) ≠ 0 := fun e => by
  have h := own_n1 Hn
  rw [e] at h
  have h0 : (0 : Int32).toInt = 0 := rfl
  omega
theorem own_hn {n : Int32} (Hn : 1 ≤ n.toInt ∧ n.toInt ≤ 4) : ¬ n < 0 ∧ n.toNatClampNeg ≤ 4 ∧ ¬ (4 : Int32) < n := by
  have h0 : (0 : Int32).toInt = 0 := rfl
  have h4 : (4 : Int32).toInt = 4 := rfl
  refine ⟨by rw [Int32.lt_iff_toInt_lt]; omega, by show n.toInt.toNat ≤ 4; omega, by rw [Int32.lt_iff_toInt_lt]; omega⟩
theorem own_pq {n y : Int32} (Hn : 1 ≤ n.toInt ∧ n.toInt ≤ 4) (hy : 0 ≤ y.toInt) : ¬ y % n < 0 ∧ y % n < n := by
  obtain ⟨h1, h2, -⟩ := (c_iremV y n).1 hy (by omega)
  have h0 : (0 : Int32).toInt = 0 := rfl
  exact ⟨by rw [Int32.lt_iff_toInt_lt]; omega, by rw [Int32.lt_iff_toInt_lt]; omega⟩
theorem own_rr {n y : Int32} (Hn : 1 ≤ n.toInt ∧ n.toInt ≤ 4) (hy : 0 ≤ y.toInt) : ¬ y % (n + (1 : Int32)) = 0 → ¬ (y % (n + (1 : Int32)) - (1 : Int32)) < 0 ∧ (y % (n + (1 : Int32)) - (1 : Int32)) < n := by
  intro hz
  have hn1 := own_n1 Hn
  obtain ⟨h1, h2, -⟩ := (c_iremV y (n + (1 : Int32))).1 hy (by omega)
  have a := c_isub (y % (n + (1 : Int32))) (1 : Int32)
  have r := rng32 (y % (n + (1 : Int32)) - (1 : Int32))
  have h0 : (0 : Int32).toInt = 0 := rfl
  have e1 : (1 : Int32).toInt = 1 := rfl
  rw [← Int32.toInt_inj] at hz
  exact ⟨by rw [Int32.lt_iff_toInt_lt]; omega, by rw [Int32.lt_iff_toInt_lt]; omega⟩
theorem own_m1 (x : Int32) : 0 ≤ (x &&& (2147483647 : Int32)).toInt := (c_and x 2147483647 (by decide)).1
theorem own_m2 (x : Int32) : 0 ≤ (x &&& (8388607 : Int32)).toInt := (c_and x 8388607 (by decide)).1
theorem own_m3 (x : Int32) : 0 ≤ (x &&& (255 : Int32)).toInt := (c_and x 255 (by decide)).1
theorem pd__28Ldev_2fchainlatch_2fbucket_2fChainTable_3b_29V : parseMethodDescriptor "(Ldev/chainlatch/bucket/ChainTable;)V" = some ⟨[(.object "dev/chainlatch/bucket/ChainTable")], none⟩ := by decide +kernel
theorem pd__28_5bI_29V : parseMethodDescriptor "([I)V" = some ⟨[(.array .int)], none⟩ := by decide +kernel
theorem pd__28I_29V : parseMethodDescriptor "(I)V" = some ⟨[.int], none⟩ := by decide +kernel
theorem ef_rm0 (m : MethodId) (md : Int32) (pk : Int32) (cd : Int32) (pb : Int32)  : entryFrame m #[(.int md), (.int pk), (.int cd), (.int pb)] maxLocals = mkF m 0 #[.val (.int md), .val (.int pk), .val (.int cd), .val (.int pb), .unset, .unset, .unset, .unset, .unset, .unset] [] := by first |  (simp [entryFrame, mkF, argsToLocals, Value.category, maxLocals]; done) | rfl
def Q0 (Z : State) (md : Int32) (pk : Int32) (cd : Int32) (pb : Int32) (h0 : Heap) (n0 : Nat) (v : Option Value) (h : Heap) (L : List Loc) : Prop := v = some (.int (1 : Int32)) ∧ Fr n0 L
set_option maxRecDepth 65536 in
set_option maxHeartbeats 40000000 in
theorem rm0 (l : Launch) (Z : State) (a0 : Array Value) (hw : ∀ d ∈ tables_1, d.before a0 Z = true) (ws : List Jvm.Cond) (md : Int32) (pk : Int32) (cd : Int32) (pb : Int32) (h0 : Heap) (n0 : Nat) (Z0 : n0 ≤ h0.size) (hO : Old Z n0 h0) :
    MetFree l x (head1 (Jvm.Cond.code x code maxLocals ret :: ws) room_1) (fun a U => a = #[(.int md), (.int pk), (.int cd), (.int pb)] ∧ Z.Warmed39 U.vm ∧ U.heap = h0) (fun _ _ _ _ _ => True) (fun _ U o U' => ∃ v L, o = .returned v ∧ Q0 Z md pk cd pb h0 n0 v U'.heap L ∧ FrameEnd U o U' L room_1.cells room_1.slots) := by
  refine MetFree.of_bodySF (plainFor_of_name pn_dev_chainlatch_bucket_SerialsRemapPinLaw) hisR ?_
  intro p e s m args below meth c s₁ Bd hml0 hP hK
  obtain ⟨rfl, hZ, hh⟩ := hP
  have hx := Bd.exec
  have hby := Bd.bytes
  have hml : c.maxLocals = 10 := hml0
  have hown : s.vm.findClass "dev/chainlatch/bucket/SerialsRemapPinLaw" = some m.cls := findClass_of_methodNamed Bd.named
  have hnm := (name_of_methodNamed Bd.named Bd.method).1
  have hlk := Bd.notSynchronized
  have X0 : Stand p l e room_1 s m #[(.int md), (.int pk), (.int cd), (.int pb)] below meth c s₁ [] 0 0 := Stand.of_body Bd
  have e0 : s₁.heap = h0 := by rw [← hh, Bd.state]; rfl
  have N0 := Fr.nil n0
  show own_G p.tables e below s (Q0 Z md pk cd pb h0 n0) room_1.cells room_1.slots _
  refine own_thr (a := s₁.setTop (mkF m 0 #[.val (.int md), .val (.int pk), .val (.int cd), .val (.int pb), .unset, .unset, .unset, .unset, .unset, .unset] [])) (fun t kt => castTop (ef_rm0 m md pk cd pb) kt) ?_
  refine own_thr (a := s₁.setTop (mkF m 3 #[.val (.int md), .val (.int pk), .val (.int cd), .val (.int pb), .unset, .unset, .unset, .unset, .unset, .unset] [(.int (md &&& (1 : Int32)))])) (fun t kt => ?_) ?_
  · show Steps p.tables e below (s₁.setTop (mkF m 0 #[.val (.int md), .val (.int pk), .val (.int cd), .val (.int pb), .unset, .unset, .unset, .unset, .unset, .unset] [])) _
    refine XS.iloadN X0.here hx rfl (hb hby at_0) rfl ?_
    refine XS.iconst X0.here hx rfl (hb hby at_1) ?_
    refine XS.iand X0.here hx rfl (hb hby at_2) rfl ?_
    exact kt
  by_cases hc1 : (md &&& (1 : Int32)) = (0 : Int32)
  · refine own_thr (a := s₁.setTop (mkF m 22 #[.val (.int md), .val (.int pk), .val (.int cd), .val (.int pb), .val (.int (0 : Int32)), .val (.int ((1 : Int32) + (((md.toUInt32 >>> ((1 : Int32) &&& 31).toUInt32).toInt32) &&& (3 : Int32)))), .unset, .unset, .unset, .unset] [])) (fun t kt => ?_) ?_
    · show Steps p.tables e below (s₁.setTop (mkF m 3 #[.val (.int md), .val (.int pk), .val (.int cd), .val (.int pb), .unset, .unset, .unset, .unset, .unset, .unset] [(.int (md &&& (1 : Int32)))])) _
      refine XS.ifYes X0.here hx rfl (pc0 := 3) (pc' := 10) rfl (hb hby at_3) rfl ((if0 _ _).trans (teq hc1).1) (by decide) (by decide) ?_
      refine XS.iconst X0.here hx rfl (hb hby at_10) ?_
      refine XS.istore X0.here hx rfl (hb hby at_11) rfl (l' := #[.val (.int md), .val (.int pk), .val (.int cd), .val (.int pb), .val (.int (0 : Int32)), .unset, .unset, .unset, .unset, .unset]) rfl ?_
      refine XS.iconst X0.here hx rfl (hb hby at_13) ?_
      refine XS.iloadN X0.here hx rfl (hb hby at_14) rfl ?_
      refine XS.iconst X0.here hx rfl (hb hby at_15) ?_
      refine XS.iushr X0.here hx rfl (hb hby at_16) rfl ?_
      refine XS.iconst X0.here hx rfl (hb hby at_17) ?_
      refine XS.iand X0.here hx rfl (hb hby at_18) rfl ?_
      refine XS.iadd X0.here hx rfl (hb hby at_19) rfl ?_
      refine XS.istore X0.here hx rfl (hb hby at_20) rfl (l' := #[.val (.int md), .val (.int pk), .val (.int cd), .val (.int pb), .val (.int (0 : Int32)), .val (.int ((1 : Int32) + (((md.toUInt32 >>> ((1 : Int32) &&& 31).toUInt32).toInt32) &&& (3 : Int32)))), .unset, .unset, .unset, .unset]) rfl ?_
      exact kt
    obtain ⟨n, e_n⟩ : ∃ z, z = ((1 : Int32) + (((md.toUInt32 >>> ((1 : Int32) &&& 31).toUInt32).toInt32) &&& (3 : Int32))) := ⟨_, rfl⟩
    rw [← e_n]
    have Hn : 1 ≤ n.toInt ∧ n.toInt ≤ 4 := by rw [e_n]; exact own_n _
    obtain ⟨hn0, hn1, hn4⟩ := own_hn Hn
    refine own_thr (a := s₁.setTop (mkF m 31 #[.val (.int md), .val (.int pk), .val (.int cd), .val (.int pb), .val (.int (0 : Int32)), .val (.int n), .val (.int ((pk &&& (2147483647 : Int32)) % n)), .unset, .unset, .unset] [])) (fun t kt => ?_) ?_
    · show Steps p.tables e below (s₁.setTop (mkF m 22 #[.val (.int md), .val (.int pk), .val (.int cd), .val (.int pb), .val (.int (0 : Int32)), .val (.int n), .unset, .unset, .unset, .unset] [])) _
      refine XS.iloadN X0.here hx rfl (hb hby at_22) rfl ?_
      refine X0.ldcInt hx hown (mvT hZ (hw _ (List.mem_of_getElem? (i := 0) rfl))) (g := (mkF m 23 #[.val (.int md), .val (.int pk), .val (.int cd), .val (.int pb), .val (.int (0 : Int32)), .val (.int n), .unset, .unset, .unset, .unset] [(.int pk)])) rfl (hb hby at_23) _ ?_
      refine XS.iand X0.here hx rfl (hb hby at_25) rfl ?_
      refine XS.iload X0.here hx rfl (hb hby at_26) rfl ?_
      refine iremM X0 hx rfl (hb hby at_28) rfl (own_nz Hn) ?_
      refine XS.istore X0.here hx rfl (hb hby at_29) rfl (l' := #[.val (.int md), .val (.int pk), .val (.int cd), .val (.int pb), .val (.int (0 : Int32)), .val (.int n), .val (.int ((pk &&& (2147483647 : Int32)) % n)), .unset, .unset, .unset]) rfl ?_
      exact kt
    obtain ⟨pp, e_pp⟩ : ∃ z, z = ((pk &&& (2147483647 : Int32)) % n) := ⟨_, rfl⟩
    rw [← e_pp]
    have Hp : ¬ pp < 0 ∧ pp < n := by rw [e_pp]; exact own_pq Hn (own_m1 _)
    refine own_thr (a := s₁.setTop (mkF m 43 #[.val (.int md), .val (.int pk), .val (.int cd), .val (.int pb), .val (.int (0 : Int32)), .val (.int n), .val (.int pp), .val (.int ((((pk.toUInt32 >>> ((8 : Int32) &&& 31).toUInt32).toInt32) &&& (8388607 : Int32)) % n)), .unset, .unset] [])) (fun t kt => ?_) ?_
    · show Steps p.tables e below (s₁.setTop (mkF m 31 #[.val (.int md), .val (.int pk), .val (.int cd), .val (.int pb), .val (.int (0 : Int32)), .val (.int n), .val (.int pp), .unset, .unset, .unset] [])) _
      refine XS.iloadN X0.here hx rfl (hb hby at_31) rfl ?_
      refine XS.bipush X0.here hx rfl (hb hby at_32) ?_
      refine XS.iushr X0.here hx rfl (hb hby at_34) rfl ?_
      refine X0.ldcInt hx hown (mvT hZ (hw _ (List.mem_of_getElem? (i := 1) rfl))) (g := (mkF m 35 #[.val (.int md), .val (.int pk), .val (.int cd), .val (.int pb), .val (.int (0 : Int32)), .val (.int n), .val (.int pp), .unset, .unset, .unset] [(.int ((pk.toUInt32 >>> ((8 : Int32) &&& 31).toUInt32).toInt32))])) rfl (hb hby at_35) _ ?_
      refine XS.iand X0.here hx rfl (hb hby at_37) rfl ?_
      refine XS.iload X0.here hx rfl (hb hby at_38) rfl ?_
      refine iremM X0 hx rfl (hb hby at_40) rfl (own_nz Hn) ?_
      refine XS.istore X0.here hx rfl (hb hby at_41) rfl (l' := #[.val (.int md), .val (.int pk), .val (.int cd), .val (.int pb), .val (.int (0 : Int32)), .val (.int n), .val (.int pp), .val (.int ((((pk.toUInt32 >>> ((8 : Int32) &&& 31).toUInt32).toInt32) &&& (8388607 : Int32)) % n)), .unset, .unset]) rfl ?_
      exact kt
    obtain ⟨qq, e_qq⟩ : ∃ z, z = ((((pk.toUInt32 >>> ((8 : Int32) &&& 31).toUInt32).toInt32) &&& (8388607 : Int32)) % n) := ⟨_, rfl⟩
    rw [← e_qq]
    have Hq : ¬ qq < 0 ∧ qq < n := by rw [e_qq]; exact own_pq Hn (own_m2 _)
    refine own_thr (a := s₁.setTop (mkF m 44 #[.val (.int md), .val (.int pk), .val (.int cd), .val (.int pb), .val (.int (0 : Int32)), .val (.int n), .val (.int pp), .val (.int qq), .unset, .unset] [(.int (4 : Int32))])) (fun t kt => ?_) ?_
    · show Steps p.tables e below (s₁.setTop (mkF m 43 #[.val (.int md), .val (.int pk), .val (.int cd), .val (.int pb), .val (.int (0 : Int32)), .val (.int n), .val (.int pp), .val (.int qq), .unset, .unset] [])) _
      refine XS.iconst X0.here hx rfl (hb hby at_43) ?_
      exact kt
    obtain ⟨T2, h2, k2, X2, e2, E2, A2, st2⟩ := newP X0 hx hZ (hw _ (List.mem_of_getElem? (i := 2) rfl)) e0 (g := (mkF m 44 #[.val (.int md), .val (.int pk), .val (.int cd), .val (.int pb), .val (.int (0 : Int32)), .val (.int n), .val (.int pp), .val (.int qq), .unset, .unset] [(.int (4 : Int32))])) rfl (hb hby at_44) rfl (by decide) (cap := 4) (by decide) (by decide) (by decide : 0 + 1 ≤ _) (by decide : 0 + 4 ≤ _)
    obtain ⟨b2, g2⟩ : ∃ z, z = h0.size := ⟨_, rfl⟩
    rw [← g2] at A2 st2
    have g_b2 : n0 ≤ b2 := Nat.le_trans Z0 (Nat.le_of_eq g2.symm)
    have sz_b2 : h0.size ≤ b2 := Nat.le_trans (Nat.le_refl h0.size) (Nat.le_of_eq g2.symm)
    have V_b2 : Arv Z h2 b2 k2 .int (4 : Int32) [(.int (0 : Int32)), (.int (0 : Int32)), (.int (0 : Int32)), (.int (0 : Int32))] (.int (0 : Int32)) := (Arv.new A2 (by decide)).pad (pad_rep [] (.int (0 : Int32)) 4)
    have Z3 : n0 ≤ h2.size := Nat.le_trans Z0 E2.1
    have Z3h : h0.size ≤ h2.size := Nat.le_trans (Nat.le_refl h0.size) E2.1
    refine own_thr (a := T2.setTop (mkF m 46 #[.val (.int md), .val (.int pk), .val (.int cd), .val (.int pb), .val (.int (0 : Int32)), .val (.int n), .val (.int pp), .val (.int qq), .unset, .unset] [(.ref b2)])) (fun t kt => st2 t kt) ?_
    refine own_thr (a := T2.setTop (mkF m 61 #[.val (.int md), .val (.int pk), .val (.int cd), .val (.int pb), .val (.int (0 : Int32)), .val (.int n), .val (.int pp), .val (.int qq), .val (.ref b2), .unset] [(.int ((cd &&& (255 : Int32)) % (n + (1 : Int32)))), (.int (0 : Int32)), (.ref b2)])) (fun t kt => ?_) ?_
    · show Steps p.tables e below (T2.setTop (mkF m 46 #[.val (.int md), .val (.int pk), .val (.int cd), .val (.int pb), .val (.int (0 : Int32)), .val (.int n), .val (.int pp), .val (.int qq), .unset, .unset] [(.ref b2)])) _
      refine XS.astore X2.here hx rfl (hb hby at_46) rfl rfl (l' := #[.val (.int md), .val (.int pk), .val (.int cd), .val (.int pb), .val (.int (0 : Int32)), .val (.int n), .val (.int pp), .val (.int qq), .val (.ref b2), .unset]) rfl ?_
      refine XS.aload X2.here hx rfl (hb hby at_48) rfl rfl ?_
      refine XS.iconst X2.here hx rfl (hb hby at_50) ?_
      refine XS.iloadN X2.here hx rfl (hb hby at_51) rfl ?_
      refine XS.sipush X2.here hx rfl (hb hby at_52) ?_
      refine XS.iand X2.here hx rfl (hb hby at_55) rfl ?_
      refine XS.iload X2.here hx rfl (hb hby at_56) rfl ?_
      refine XS.iconst X2.here hx rfl (hb hby at_58) ?_
      refine XS.iadd X2.here hx rfl (hb hby at_59) rfl ?_
      refine iremM X2 hx rfl (hb hby at_60) rfl (own_nz1 Hn) ?_
      exact kt
    obtain ⟨r0, e_r0⟩ : ∃ z, z = ((cd &&& (255 : Int32)) % (n + (1 : Int32))) := ⟨_, rfl⟩
    rw [← e_r0]
    have hr0 : ¬ r0 = 0 → ¬ (r0 - (1 : Int32)) < 0 ∧ (r0 - (1 : Int32)) < n := by rw [e_r0]; exact own_rr Hn (own_m3 _)
    obtain ⟨cl4, Ar4, q4, S4, M4, H4, G4⟩ := id V_b2
    have hin4 : ¬ ((0 : Int32) < 0 ∨ cl4.slots.size ≤ ((0 : Int32)).toNatClampNeg) := inb_of S4 ⟨by decide, by decide⟩
    obtain ⟨T4, h4, X4, e4, W4, st4⟩ := stI X2 hx hZ e2 Ar4 (j := (0 : Int32)) hin4 (g := (mkF m 61 #[.val (.int md), .val (.int pk), .val (.int cd), .val (.int pb), .val (.int (0 : Int32)), .val (.int n), .val (.int pp), .val (.int qq), .val (.ref b2), .unset] [(.int r0), (.int (0 : Int32)), (.ref b2)])) rfl rfl (hb hby at_61)
    have Z5 : n0 ≤ h4.size := Nat.le_trans Z3 (Nat.le_of_eq W4.size.symm)
    have Z5h : h0.size ≤ h4.size := Nat.le_trans Z3h (Nat.le_of_eq W4.size.symm)
    have V4 : Arv Z h4 b2 k2 .int (4 : Int32) [(.int r0), (.int (0 : Int32)), (.int (0 : Int32)), (.int (0 : Int32))] (.int (0 : Int32)) := Arv.set Ar4 q4 S4 M4 H4 G4 rfl W4 0 rfl (Nat.le_of_ble_eq_true rfl)
    obtain ⟨lc4, X4, N4⟩ := own_pack1 X4 N0 g_b2
    refine own_thr (a := T4.setTop (mkF m 62 #[.val (.int md), .val (.int pk), .val (.int cd), .val (.int pb), .val (.int (0 : Int32)), .val (.int n), .val (.int pp), .val (.int qq), .val (.ref b2), .unset] [])) (fun t kt => st4 t kt) ?_
    refine own_thr (a := T4.setTop (mkF m 78 #[.val (.int md), .val (.int pk), .val (.int cd), .val (.int pb), .val (.int (0 : Int32)), .val (.int n), .val (.int pp), .val (.int qq), .val (.ref b2), .unset] [(.int ((((cd.toUInt32 >>> ((8 : Int32) &&& 31).toUInt32).toInt32) &&& (255 : Int32)) % (n + (1 : Int32)))), (.int (1 : Int32)), (.ref b2)])) (fun t kt => ?_) ?_
    · show Steps p.tables e below (T4.setTop (mkF m 62 #[.val (.int md), .val (.int pk), .val (.int cd), .val (.int pb), .val (.int (0 : Int32)), .val (.int n), .val (.int pp), .val (.int qq), .val (.ref b2), .unset] [])) _
      refine XS.aload X4.here hx rfl (hb hby at_62) rfl rfl ?_
      refine XS.iconst X4.here hx rfl (hb hby at_64) ?_
      refine XS.iloadN X4.here hx rfl (hb hby at_65) rfl ?_
      refine XS.bipush X4.here hx rfl (hb hby at_66) ?_
      refine XS.iushr X4.here hx rfl (hb hby at_68) rfl ?_
      refine XS.sipush X4.here hx rfl (hb hby at_69) ?_
      refine XS.iand X4.here hx rfl (hb hby at_72) rfl ?_
      refine XS.iload X4.here hx rfl (hb hby at_73) rfl ?_
      refine XS.iconst X4.here hx rfl (hb hby at_75) ?_
      refine XS.iadd X4.here hx rfl (hb hby at_76) rfl ?_
      refine iremM X4 hx rfl (hb hby at_77) rfl (own_nz1 Hn) ?_
      exact kt
    obtain ⟨r1, e_r1⟩ : ∃ z, z = ((((cd.toUInt32 >>> ((8 : Int32) &&& 31).toUInt32).toInt32) &&& (255 : Int32)) % (n + (1 : Int32))) := ⟨_, rfl⟩
    rw [← e_r1]
    have hr1 : ¬ r1 = 0 → ¬ (r1 - (1 : Int32)) < 0 ∧ (r1 - (1 : Int32)) < n := by rw [e_r1]; exact own_rr Hn (own_m3 _)
    obtain ⟨cl6, Ar6, q6, S6, M6, H6, G6⟩ := id V4
    have hin6 : ¬ ((1 : Int32) < 0 ∨ cl6.slots.size ≤ ((1 : Int32)).toNatClampNeg) := inb_of S6 ⟨by decide, by decide⟩
    obtain ⟨T6, h6, X6, e6, W6, st6⟩ := stI X4 hx hZ e4 Ar6 (j := (1 : Int32)) hin6 (g := (mkF m 78 #[.val (.int md), .val (.int pk), .val (.int cd), .val (.int pb), .val (.int (0 : Int32)), .val (.int n), .val (.int pp), .val (.int qq), .val (.ref b2), .unset] [(.int r1), (.int (1 : Int32)), (.ref b2)])) rfl rfl (hb hby at_78)
    have Z7 : n0 ≤ h6.size := Nat.le_trans Z5 (Nat.le_of_eq W6.size.symm)
    have Z7h : h0.size ≤ h6.size := Nat.le_trans Z5h (Nat.le_of_eq W6.size.symm)
    have V6 : Arv Z h6 b2 k2 .int (4 : Int32) [(.int r0), (.int r1), (.int (0 : Int32)), (.int (0 : Int32))] (.int (0 : Int32)) := Arv.set Ar6 q6 S6 M6 H6 G6 rfl W6 1 rfl (Nat.le_of_ble_eq_true rfl)
    obtain ⟨lc6, X6, N6⟩ := own_pack1 X6 N4 g_b2
    refine own_thr (a := T6.setTop (mkF m 79 #[.val (.int md), .val (.int pk), .val (.int cd), .val (.int pb), .val (.int (0 : Int32)), .val (.int n), .val (.int pp), .val (.int qq), .val (.ref b2), .unset] [])) (fun t kt => st6 t kt) ?_
    refine own_thr (a := T6.setTop (mkF m 95 #[.val (.int md), .val (.int pk), .val (.int cd), .val (.int pb), .val (.int (0 : Int32)), .val (.int n), .val (.int pp), .val (.int qq), .val (.ref b2), .unset] [(.int ((((cd.toUInt32 >>> ((16 : Int32) &&& 31).toUInt32).toInt32) &&& (255 : Int32)) % (n + (1 : Int32)))), (.int (2 : Int32)), (.ref b2)])) (fun t kt => ?_) ?_
    · show Steps p.tables e below (T6.setTop (mkF m 79 #[.val (.int md), .val (.int pk), .val (.int cd), .val (.int pb), .val (.int (0 : Int32)), .val (.int n), .val (.int pp), .val (.int qq), .val (.ref b2), .unset] [])) _
      refine XS.aload X6.here hx rfl (hb hby at_79) rfl rfl ?_
      refine XS.iconst X6.here hx rfl (hb hby at_81) ?_
      refine XS.iloadN X6.here hx rfl (hb hby at_82) rfl ?_
      refine XS.bipush X6.here hx rfl (hb hby at_83) ?_
      refine XS.iushr X6.here hx rfl (hb hby at_85) rfl ?_
      refine XS.sipush X6.here hx rfl (hb hby at_86) ?_
      refine XS.iand X6.here hx rfl (hb hby at_89) rfl ?_
      refine XS.iload X6.here hx rfl (hb hby at_90) rfl ?_
      refine XS.iconst X6.here hx rfl (hb hby at_92) ?_
      refine XS.iadd X6.here hx rfl (hb hby at_93) rfl ?_
      refine iremM X6 hx rfl (hb hby at_94) rfl (own_nz1 Hn) ?_
      exact kt
    obtain ⟨r2, e_r2⟩ : ∃ z, z = ((((cd.toUInt32 >>> ((16 : Int32) &&& 31).toUInt32).toInt32) &&& (255 : Int32)) % (n + (1 : Int32))) := ⟨_, rfl⟩
    rw [← e_r2]
    have hr2 : ¬ r2 = 0 → ¬ (r2 - (1 : Int32)) < 0 ∧ (r2 - (1 : Int32)) < n := by rw [e_r2]; exact own_rr Hn (own_m3 _)
    obtain ⟨cl8, Ar8, q8, S8, M8, H8, G8⟩ := id V6
    have hin8 : ¬ ((2 : Int32) < 0 ∨ cl8.slots.size ≤ ((2 : Int32)).toNatClampNeg) := inb_of S8 ⟨by decide, by decide⟩
    obtain ⟨T8, h8, X8, e8, W8, st8⟩ := stI X6 hx hZ e6 Ar8 (j := (2 : Int32)) hin8 (g := (mkF m 95 #[.val (.int md), .val (.int pk), .val (.int cd), .val (.int pb), .val (.int (0 : Int32)), .val (.int n), .val (.int pp), .val (.int qq), .val (.ref b2), .unset] [(.int r2), (.int (2 : Int32)), (.ref b2)])) rfl rfl (hb hby at_95)
    have Z9 : n0 ≤ h8.size := Nat.le_trans Z7 (Nat.le_of_eq W8.size.symm)
    have Z9h : h0.size ≤ h8.size := Nat.le_trans Z7h (Nat.le_of_eq W8.size.symm)
    have V8 : Arv Z h8 b2 k2 .int (4 : Int32) [(.int r0), (.int r1), (.int r2), (.int (0 : Int32))] (.int (0 : Int32)) := Arv.set Ar8 q8 S8 M8 H8 G8 rfl W8 2 rfl (Nat.le_of_ble_eq_true rfl)
    obtain ⟨lc8, X8, N8⟩ := own_pack1 X8 N6 g_b2
    refine own_thr (a := T8.setTop (mkF m 96 #[.val (.int md), .val (.int pk), .val (.int cd), .val (.int pb), .val (.int (0 : Int32)), .val (.int n), .val (.int pp), .val (.int qq), .val (.ref b2), .unset] [])) (fun t kt => st8 t kt) ?_
    refine own_thr (a := T8.setTop (mkF m 112 #[.val (.int md), .val (.int pk), .val (.int cd), .val (.int pb), .val (.int (0 : Int32)), .val (.int n), .val (.int pp), .val (.int qq), .val (.ref b2), .unset] [(.int ((((cd.toUInt32 >>> ((24 : Int32) &&& 31).toUInt32).toInt32) &&& (255 : Int32)) % (n + (1 : Int32)))), (.int (3 : Int32)), (.ref b2)])) (fun t kt => ?_) ?_
    · show Steps p.tables e below (T8.setTop (mkF m 96 #[.val (.int md), .val (.int pk), .val (.int cd), .val (.int pb), .val (.int (0 : Int32)), .val (.int n), .val (.int pp), .val (.int qq), .val (.ref b2), .unset] [])) _
      refine XS.aload X8.here hx rfl (hb hby at_96) rfl rfl ?_
      refine XS.iconst X8.here hx rfl (hb hby at_98) ?_
      refine XS.iloadN X8.here hx rfl (hb hby at_99) rfl ?_
      refine XS.bipush X8.here hx rfl (hb hby at_100) ?_
      refine XS.iushr X8.here hx rfl (hb hby at_102) rfl ?_
      refine XS.sipush X8.here hx rfl (hb hby at_103) ?_
      refine XS.iand X8.here hx rfl (hb hby at_106) rfl ?_
      refine XS.iload X8.here hx rfl (hb hby at_107) rfl ?_
      refine XS.iconst X8.here hx rfl (hb hby at_109) ?_
      refine XS.iadd X8.here hx rfl (hb hby at_110) rfl ?_
      refine iremM X8 hx rfl (hb hby at_111) rfl (own_nz1 Hn) ?_
      exact kt
    obtain ⟨r3, e_r3⟩ : ∃ z, z = ((((cd.toUInt32 >>> ((24 : Int32) &&& 31).toUInt32).toInt32) &&& (255 : Int32)) % (n + (1 : Int32))) := ⟨_, rfl⟩
    rw [← e_r3]
    have hr3 : ¬ r3 = 0 → ¬ (r3 - (1 : Int32)) < 0 ∧ (r3 - (1 : Int32)) < n := by rw [e_r3]; exact own_rr Hn (own_m3 _)
    obtain ⟨cl10, Ar10, q10, S10, M10, H10, G10⟩ := id V8
    have hin10 : ¬ ((3 : Int32) < 0 ∨ cl10.slots.size ≤ ((3 : Int32)).toNatClampNeg) := inb_of S10 ⟨by decide, by decide⟩
    obtain ⟨T10, h10, X10, e10, W10, st10⟩ := stI X8 hx hZ e8 Ar10 (j := (3 : Int32)) hin10 (g := (mkF m 112 #[.val (.int md), .val (.int pk), .val (.int cd), .val (.int pb), .val (.int (0 : Int32)), .val (.int n), .val (.int pp), .val (.int qq), .val (.ref b2), .unset] [(.int r3), (.int (3 : Int32)), (.ref b2)])) rfl rfl (hb hby at_112)
    have Z11 : n0 ≤ h10.size := Nat.le_trans Z9 (Nat.le_of_eq W10.size.symm)
    have Z11h : h0.size ≤ h10.size := Nat.le_trans Z9h (Nat.le_of_eq W10.size.symm)
    have V10 : Arv Z h10 b2 k2 .int (4 : Int32) [(.int r0), (.int r1), (.int r2), (.int r3)] (.int (0 : Int32)) := Arv.set Ar10 q10 S10 M10 H10 G10 rfl W10 3 rfl (Nat.le_of_ble_eq_true rfl)
    obtain ⟨lc10, X10, N10⟩ := own_pack1 X10 N8 g_b2
    refine own_thr (a := T10.setTop (mkF m 113 #[.val (.int md), .val (.int pk), .val (.int cd), .val (.int pb), .val (.int (0 : Int32)), .val (.int n), .val (.int pp), .val (.int qq), .val (.ref b2), .unset] [])) (fun t kt => st10 t kt) ?_
    obtain ⟨T12, h12, X12, e12, E12, A12, D12, U12, st12⟩ := newO X10 hx hZ hown (hw _ (List.mem_of_getElem? (i := 3) rfl)) (hw _ (List.mem_of_getElem? (i := 4) rfl)) (hw _ (List.mem_of_getElem? (i := 5) rfl)) e10 (g := (mkF m 113 #[.val (.int md), .val (.int pk), .val (.int cd), .val (.int pb), .val (.int (0 : Int32)), .val (.int n), .val (.int pp), .val (.int qq), .val (.ref b2), .unset] [])) rfl (hb hby at_113) (by decide : 1 + 1 ≤ _) (by decide : 4 + 3 ≤ _)
    obtain ⟨b12, g12⟩ : ∃ z, z = h10.size := ⟨_, rfl⟩
    rw [← g12] at A12 D12 st12 U12
    have g_b12 : n0 ≤ b12 := Nat.le_trans Z11 (Nat.le_of_eq g12.symm)
    have sz_b12 : h0.size ≤ b12 := Nat.le_trans Z11h (Nat.le_of_eq g12.symm)
    have lt_b2_b12 : b2 < b12 := Nat.lt_of_lt_of_le V10.lt (Nat.le_of_eq g12.symm)
    have ne_b2_b12 : b2 ≠ b12 := Nat.ne_of_lt lt_b2_b12
    have Z13 : n0 ≤ h12.size := Nat.le_trans Z11 E12.1
    have Z13h : h0.size ≤ h12.size := Nat.le_trans Z11h E12.1
    have F_table_b12 : Fld Z h12 b12 "dev/chainlatch/bucket/Serials" "table" "Ldev/chainlatch/bucket/ChainTable;" .null := D12 (Or.inr (hw _ (List.mem_of_getElem? (i := 13) rfl))) (ty := (.object "dev/chainlatch/bucket/ChainTable")) (by decide)
    have F_bySlot_b12 : Fld Z h12 b12 "dev/chainlatch/bucket/Serials" "bySlot" "[J" .null := D12 (Or.inl (hw _ (List.mem_of_getElem? (i := 20) rfl))) (ty := (.array .long)) (by decide)
    have F_next_b12 : Fld Z h12 b12 "dev/chainlatch/bucket/Serials" "next" "J" (.long (0 : Int64)) := D12 (Or.inl (hw _ (List.mem_of_getElem? (i := 51) rfl))) (ty := .long) (by decide)
    refine own_thr (a := T12.setTop (mkF m 116 #[.val (.int md), .val (.int pk), .val (.int cd), .val (.int pb), .val (.int (0 : Int32)), .val (.int n), .val (.int pp), .val (.int qq), .val (.ref b2), .unset] [(.ref b12)])) (fun t kt => st12 t kt) ?_
    refine own_thr (a := T12.setTop (mkF m 118 #[.val (.int md), .val (.int pk), .val (.int cd), .val (.int pb), .val (.int (0 : Int32)), .val (.int n), .val (.int pp), .val (.int qq), .val (.ref b2), .unset] [.null, (.ref b12), (.ref b12)])) (fun t kt => ?_) ?_
    · show Steps p.tables e below (T12.setTop (mkF m 116 #[.val (.int md), .val (.int pk), .val (.int cd), .val (.int pb), .val (.int (0 : Int32)), .val (.int n), .val (.int pp), .val (.int qq), .val (.ref b2), .unset] [(.ref b12)])) _
      refine XS.dup X12.here hx rfl (hb hby at_116) rfl rfl ?_
      refine XS.aconstNull X12.here hx rfl (hb hby at_117) ?_
      exact kt
    obtain ⟨_, _, ⟨T14, L14, k14, n14⟩, -, X14, ⟨Lc14, hQ14, l14, y14, z14⟩, st14⟩ := X12.specialBack hx (y := (⟨"dev/chainlatch/bucket/Serials", "<init>", "(Ldev/chainlatch/bucket/ChainTable;)V"⟩ : MethodName)) rfl hown (mvT hZ (hw _ (List.mem_of_getElem? (i := 6) rfl))) (mvT hZ (hw _ (List.mem_of_getElem? (i := 7) rfl))) (mvT hZ (hw _ (List.mem_of_getElem? (i := 8) rfl))) (by decide) (backOf (W := 1) (rmI l Z a0 hw [] b12 h12 n0 Z13 A12 F_table_b12 F_bySlot_b12 F_next_b12 g_b12) hZ (hw _ (List.mem_of_getElem? (i := 8) rfl)) (hw _ (List.mem_of_getElem? (i := 5) rfl)) (by decide) (by decide)) (g := (mkF m 118 #[.val (.int md), .val (.int pk), .val (.int cd), .val (.int pb), .val (.int (0 : Int32)), .val (.int n), .val (.int pp), .val (.int qq), .val (.ref b2), .unset] [.null, (.ref b12), (.ref b12)])) rfl (by rw [hml]; rfl) (Steps.refl _) (a := b12) (argsL := [.null]) (rest := [(.ref b12)]) (lenOf pd__28Ldev_2fchainlatch_2fbucket_2fChainTable_3b_29V rfl) rfl (by show 2 * 0 + _ ≤ _; exact Nat.le_of_eq rfl) (hb hby at_118) (fun _ _ => ⟨rfl, e12, (by decide : 2 + 0 ≤ _), (by decide : 7 + 0 ≤ _)⟩)
    dsimp only [Pt.U, Pt.locs, Pt.cells, Pt.slots] at X14 l14 y14 z14 st14 hQ14
    obtain ⟨rfl, N14q, K14, o14_0, o14_1, o14_2, o14_3⟩ := hQ14
    have Z15 : n0 ≤ T14.heap.size := Nat.le_trans Z13 K14.1
    have Z15h : h0.size ≤ T14.heap.size := Nat.le_trans Z13h K14.1
    obtain ⟨lc14, X14, N14⟩ := own_pack X14 l14 y14 z14 N10 N14q (C := 2) (S' := 7) rfl rfl
    refine own_thr (a := T14.setTop (mkF m 121 #[.val (.int md), .val (.int pk), .val (.int cd), .val (.int pb), .val (.int (0 : Int32)), .val (.int n), .val (.int pp), .val (.int qq), .val (.ref b2), .unset] [(.ref b12)])) (fun t kt => st14.trans kt) ?_
    refine own_thr (a := T14.setTop (mkF m 132 #[.val (.int md), .val (.int pk), .val (.int cd), .val (.int pb), .val (.int (0 : Int32)), .val (.int n), .val (.int pp), .val (.int qq), .val (.ref b2), .val (.ref b12)] [(.ref b2), (.ref b12)])) (fun t kt => ?_) ?_
    · show Steps p.tables e below (T14.setTop (mkF m 121 #[.val (.int md), .val (.int pk), .val (.int cd), .val (.int pb), .val (.int (0 : Int32)), .val (.int n), .val (.int pp), .val (.int qq), .val (.ref b2), .unset] [(.ref b12)])) _
      refine XS.astore X14.here hx rfl (hb hby at_121) rfl rfl (l' := #[.val (.int md), .val (.int pk), .val (.int cd), .val (.int pb), .val (.int (0 : Int32)), .val (.int n), .val (.int pp), .val (.int qq), .val (.ref b2), .val (.ref b12)]) rfl ?_
      refine XS.iload X14.here hx rfl (hb hby at_123) rfl ?_
      refine XS.ifNo X14.here hx rfl (hb hby at_125) rfl ((if0 _ _).trans (teq rfl).2) ?_
      refine XS.aload X14.here hx rfl (hb hby at_128) rfl rfl ?_
      refine XS.aload X14.here hx rfl (hb hby at_130) rfl rfl ?_
      exact kt
    obtain ⟨cq16, kq16, q16a, q16b, q16c⟩ := isOf hZ rfl o14_0
    obtain ⟨_, _, ⟨T16, L16, k16, n16⟩, -, X16, ⟨Lc16, hQ16, l16, y16, z16⟩, st16⟩ := X14.virtualBack hx (y := (⟨"dev/chainlatch/bucket/Serials", "remap", "([I)V"⟩ : MethodName)) (z := (⟨"dev/chainlatch/bucket/Serials", "remap", "([I)V"⟩ : MethodName)) hown (mvT hZ (hw _ (List.mem_of_getElem? (i := 14) rfl))) (mvT hZ (hw _ (List.mem_of_getElem? (i := 15) rfl))) (notFace_of_selects (args := #[]) (mvT hZ (hw _ (List.mem_of_getElem? (i := 17) rfl)))) (mvT hZ (hw _ (List.mem_of_getElem? (i := 17) rfl))) (mvT hZ (hw _ (List.mem_of_getElem? (i := 16) rfl))) (by decide) (backOf (W := 0) (rmRN l Z a0 hw [] b12 b2 T14.heap n0 Z15 o14_2) hZ (hw _ (List.mem_of_getElem? (i := 18) rfl)) (hw _ (List.mem_of_getElem? (i := 5) rfl)) (by decide) (by decide)) q16a q16c (g := (mkF m 132 #[.val (.int md), .val (.int pk), .val (.int cd), .val (.int pb), .val (.int (0 : Int32)), .val (.int n), .val (.int pp), .val (.int qq), .val (.ref b2), .val (.ref b12)] [(.ref b2), (.ref b12)])) rfl (by rw [hml]; rfl) (Steps.refl _) (argsL := [(.ref b2)]) (rest := []) (lenOf pd__28_5bI_29V rfl) rfl (by show 2 * 0 + _ ≤ _; exact Nat.le_of_eq rfl) (hb hby at_132) (fun _ _ => ⟨rfl, rfl, (by decide : 2 + 0 ≤ _), (by decide : 7 + 0 ≤ _)⟩)
    dsimp only [Pt.U, Pt.locs, Pt.cells, Pt.slots] at X16 l16 y16 z16 st16 hQ16
    obtain ⟨rfl, N16q, e16⟩ := hQ16
    obtain ⟨lc16, X16, N16⟩ := own_pack X16 l16 y16 z16 N14 N16q (C := 2) (S' := 7) rfl rfl
    refine own_thr (a := T16.setTop (mkF m 135 #[.val (.int md), .val (.int pk), .val (.int cd), .val (.int pb), .val (.int (0 : Int32)), .val (.int n), .val (.int pp), .val (.int qq), .val (.ref b2), .val (.ref b12)] [])) (fun t kt => st16.trans kt) ?_
    refine own_thr (a := T16.setTop (mkF m 138 #[.val (.int md), .val (.int pk), .val (.int cd), .val (.int pb), .val (.int (0 : Int32)), .val (.int n), .val (.int pp), .val (.int qq), .val (.ref b2), .val (.ref b12)] [(.int (0 : Int32)), (.ref b12)])) (fun t kt => ?_) ?_
    · show Steps p.tables e below (T16.setTop (mkF m 135 #[.val (.int md), .val (.int pk), .val (.int cd), .val (.int pb), .val (.int (0 : Int32)), .val (.int n), .val (.int pp), .val (.int qq), .val (.ref b2), .val (.ref b12)] [])) _
      refine XS.aload X16.here hx rfl (hb hby at_135) rfl rfl ?_
      refine XS.iconst X16.here hx rfl (hb hby at_137) ?_
      exact kt
    obtain ⟨cq17, kq17, q17a, q17b, q17c⟩ := isOf hZ e16 o14_0
    obtain ⟨_, _, ⟨T17, L17, k17, n17⟩, -, X17, ⟨Lc17, hQ17, l17, y17, z17⟩, st17⟩ := X16.virtualBack hx (y := (⟨"dev/chainlatch/bucket/Serials", "serialAt", "(I)J"⟩ : MethodName)) (z := (⟨"dev/chainlatch/bucket/Serials", "serialAt", "(I)J"⟩ : MethodName)) hown (mvT hZ (hw _ (List.mem_of_getElem? (i := 21) rfl))) (mvT hZ (hw _ (List.mem_of_getElem? (i := 22) rfl))) (notFace_of_selects (args := #[]) (mvT hZ (hw _ (List.mem_of_getElem? (i := 24) rfl)))) (mvT hZ (hw _ (List.mem_of_getElem? (i := 24) rfl))) (mvT hZ (hw _ (List.mem_of_getElem? (i := 23) rfl))) (by decide) (backOf (W := 0) (rmSN l Z a0 hw [] b12 (0 : Int32) T14.heap n0 Z15 o14_2) hZ (hw _ (List.mem_of_getElem? (i := 25) rfl)) (hw _ (List.mem_of_getElem? (i := 5) rfl)) (by decide) (by decide)) q17a q17c (g := (mkF m 138 #[.val (.int md), .val (.int pk), .val (.int cd), .val (.int pb), .val (.int (0 : Int32)), .val (.int n), .val (.int pp), .val (.int qq), .val (.ref b2), .val (.ref b12)] [(.int (0 : Int32)), (.ref b12)])) rfl (by rw [hml]; rfl) (Steps.refl _) (argsL := [(.int (0 : Int32))]) (rest := []) (lenOf pd__28I_29J rfl) rfl (by show 2 * 0 + _ ≤ _; exact Nat.le_of_eq rfl) (hb hby at_138) (fun _ _ => ⟨rfl, e16, (by decide : 2 + 0 ≤ _), (by decide : 7 + 0 ≤ _)⟩)
    dsimp only [Pt.U, Pt.locs, Pt.cells, Pt.slots] at X17 l17 y17 z17 st17 hQ17
    obtain ⟨rfl, N17q, e17⟩ := hQ17
    obtain ⟨lc17, X17, N17⟩ := own_pack X17 l17 y17 z17 N16 N17q (C := 2) (S' := 7) rfl rfl
    refine own_thr (a := T17.setTop (mkF m 141 #[.val (.int md), .val (.int pk), .val (.int cd), .val (.int pb), .val (.int (0 : Int32)), .val (.int n), .val (.int pp), .val (.int qq), .val (.ref b2), .val (.ref b12)] [(.long ((0 : Int32).toInt64))])) (fun t kt => st17.trans kt) ?_
    refine own_thr (a := T17.setTop (mkF m 149 #[.val (.int md), .val (.int pk), .val (.int cd), .val (.int pb), .val (.int (0 : Int32)), .val (.int n), .val (.int pp), .val (.int qq), .val (.ref b2), .val (.ref b12)] [(.int (1 : Int32)), (.ref b12)])) (fun t kt => ?_) ?_
    · show Steps p.tables e below (T17.setTop (mkF m 141 #[.val (.int md), .val (.int pk), .val (.int cd), .val (.int pb), .val (.int (0 : Int32)), .val (.int n), .val (.int pp), .val (.int qq), .val (.ref b2), .val (.ref b12)] [(.long ((0 : Int32).toInt64))])) _
      refine XS.lconst X17.here hx rfl (hb hby at_141) ?_
      refine XS.lcmp X17.here hx rfl (hb hby at_142) rfl ?_
      refine XS.ifNo X17.here hx rfl (hb hby at_143) rfl ((if0 _ _).trans (teq ((lw_eq ((0 : Int32).toInt64) (0 : Int64)).mpr (by decide))).2) ?_
      refine XS.aload X17.here hx rfl (hb hby at_146) rfl rfl ?_
      refine XS.iconst X17.here hx rfl (hb hby at_148) ?_
      exact kt
    obtain ⟨cq18, kq18, q18a, q18b, q18c⟩ := isOf hZ e17 o14_0
    obtain ⟨_, _, ⟨T18, L18, k18, n18⟩, -, X18, ⟨Lc18, hQ18, l18, y18, z18⟩, st18⟩ := X17.virtualBack hx (y := (⟨"dev/chainlatch/bucket/Serials", "serialAt", "(I)J"⟩ : MethodName)) (z := (⟨"dev/chainlatch/bucket/Serials", "serialAt", "(I)J"⟩ : MethodName)) hown (mvT hZ (hw _ (List.mem_of_getElem? (i := 21) rfl))) (mvT hZ (hw _ (List.mem_of_getElem? (i := 22) rfl))) (notFace_of_selects (args := #[]) (mvT hZ (hw _ (List.mem_of_getElem? (i := 24) rfl)))) (mvT hZ (hw _ (List.mem_of_getElem? (i := 24) rfl))) (mvT hZ (hw _ (List.mem_of_getElem? (i := 23) rfl))) (by decide) (backOf (W := 0) (rmSN l Z a0 hw [] b12 (1 : Int32) T14.heap n0 Z15 o14_2) hZ (hw _ (List.mem_of_getElem? (i := 25) rfl)) (hw _ (List.mem_of_getElem? (i := 5) rfl)) (by decide) (by decide)) q18a q18c (g := (mkF m 149 #[.val (.int md), .val (.int pk), .val (.int cd), .val (.int pb), .val (.int (0 : Int32)), .val (.int n), .val (.int pp), .val (.int qq), .val (.ref b2), .val (.ref b12)] [(.int (1 : Int32)), (.ref b12)])) rfl (by rw [hml]; rfl) (Steps.refl _) (argsL := [(.int (1 : Int32))]) (rest := []) (lenOf pd__28I_29J rfl) rfl (by show 2 * 0 + _ ≤ _; exact Nat.le_of_eq rfl) (hb hby at_149) (fun _ _ => ⟨rfl, e17, (by decide : 2 + 0 ≤ _), (by decide : 7 + 0 ≤ _)⟩)
    dsimp only [Pt.U, Pt.locs, Pt.cells, Pt.slots] at X18 l18 y18 z18 st18 hQ18
    obtain ⟨rfl, N18q, e18⟩ := hQ18
    obtain ⟨lc18, X18, N18⟩ := own_pack X18 l18 y18 z18 N17 N18q (C := 2) (S' := 7) rfl rfl
    refine own_thr (a := T18.setTop (mkF m 152 #[.val (.int md), .val (.int pk), .val (.int cd), .val (.int pb), .val (.int (0 : Int32)), .val (.int n), .val (.int pp), .val (.int qq), .val (.ref b2), .val (.ref b12)] [(.long ((1 : Int32).toInt64))])) (fun t kt => st18.trans kt) ?_
    refine own_thr (a := T18.setTop (mkF m 160 #[.val (.int md), .val (.int pk), .val (.int cd), .val (.int pb), .val (.int (0 : Int32)), .val (.int n), .val (.int pp), .val (.int qq), .val (.ref b2), .val (.ref b12)] [(.int (2 : Int32)), (.ref b12)])) (fun t kt => ?_) ?_
    · show Steps p.tables e below (T18.setTop (mkF m 152 #[.val (.int md), .val (.int pk), .val (.int cd), .val (.int pb), .val (.int (0 : Int32)), .val (.int n), .val (.int pp), .val (.int qq), .val (.ref b2), .val (.ref b12)] [(.long ((1 : Int32).toInt64))])) _
      refine XS.lconst X18.here hx rfl (hb hby at_152) ?_
      refine XS.lcmp X18.here hx rfl (hb hby at_153) rfl ?_
      refine XS.ifNo X18.here hx rfl (hb hby at_154) rfl ((if0 _ _).trans (teq ((lw_eq ((1 : Int32).toInt64) (1 : Int64)).mpr (by decide))).2) ?_
      refine XS.aload X18.here hx rfl (hb hby at_157) rfl rfl ?_
      refine XS.iconst X18.here hx rfl (hb hby at_159) ?_
      exact kt
    obtain ⟨cq19, kq19, q19a, q19b, q19c⟩ := isOf hZ e18 o14_0
    obtain ⟨_, _, ⟨T19, L19, k19, n19⟩, -, X19, ⟨Lc19, hQ19, l19, y19, z19⟩, st19⟩ := X18.virtualBack hx (y := (⟨"dev/chainlatch/bucket/Serials", "serialAt", "(I)J"⟩ : MethodName)) (z := (⟨"dev/chainlatch/bucket/Serials", "serialAt", "(I)J"⟩ : MethodName)) hown (mvT hZ (hw _ (List.mem_of_getElem? (i := 21) rfl))) (mvT hZ (hw _ (List.mem_of_getElem? (i := 22) rfl))) (notFace_of_selects (args := #[]) (mvT hZ (hw _ (List.mem_of_getElem? (i := 24) rfl)))) (mvT hZ (hw _ (List.mem_of_getElem? (i := 24) rfl))) (mvT hZ (hw _ (List.mem_of_getElem? (i := 23) rfl))) (by decide) (backOf (W := 0) (rmSN l Z a0 hw [] b12 (2 : Int32) T14.heap n0 Z15 o14_2) hZ (hw _ (List.mem_of_getElem? (i := 25) rfl)) (hw _ (List.mem_of_getElem? (i := 5) rfl)) (by decide) (by decide)) q19a q19c (g := (mkF m 160 #[.val (.int md), .val (.int pk), .val (.int cd), .val (.int pb), .val (.int (0 : Int32)), .val (.int n), .val (.int pp), .val (.int qq), .val (.ref b2), .val (.ref b12)] [(.int (2 : Int32)), (.ref b12)])) rfl (by rw [hml]; rfl) (Steps.refl _) (argsL := [(.int (2 : Int32))]) (rest := []) (lenOf pd__28I_29J rfl) rfl (by show 2 * 0 + _ ≤ _; exact Nat.le_of_eq rfl) (hb hby at_160) (fun _ _ => ⟨rfl, e18, (by decide : 2 + 0 ≤ _), (by decide : 7 + 0 ≤ _)⟩)
    dsimp only [Pt.U, Pt.locs, Pt.cells, Pt.slots] at X19 l19 y19 z19 st19 hQ19
    obtain ⟨rfl, N19q, e19⟩ := hQ19
    obtain ⟨lc19, X19, N19⟩ := own_pack X19 l19 y19 z19 N18 N19q (C := 2) (S' := 7) rfl rfl
    refine own_thr (a := T19.setTop (mkF m 163 #[.val (.int md), .val (.int pk), .val (.int cd), .val (.int pb), .val (.int (0 : Int32)), .val (.int n), .val (.int pp), .val (.int qq), .val (.ref b2), .val (.ref b12)] [(.long ((2 : Int32).toInt64))])) (fun t kt => st19.trans kt) ?_
    refine own_thr (a := T19.setTop (mkF m 173 #[.val (.int md), .val (.int pk), .val (.int cd), .val (.int pb), .val (.int (0 : Int32)), .val (.int n), .val (.int pp), .val (.int qq), .val (.ref b2), .val (.ref b12)] [(.int (3 : Int32)), (.ref b12)])) (fun t kt => ?_) ?_
    · show Steps p.tables e below (T19.setTop (mkF m 163 #[.val (.int md), .val (.int pk), .val (.int cd), .val (.int pb), .val (.int (0 : Int32)), .val (.int n), .val (.int pp), .val (.int qq), .val (.ref b2), .val (.ref b12)] [(.long ((2 : Int32).toInt64))])) _
      refine X19.ldc2Long hx hown (mvT hZ (hw _ (List.mem_of_getElem? (i := 26) rfl))) (g := (mkF m 163 #[.val (.int md), .val (.int pk), .val (.int cd), .val (.int pb), .val (.int (0 : Int32)), .val (.int n), .val (.int pp), .val (.int qq), .val (.ref b2), .val (.ref b12)] [(.long ((2 : Int32).toInt64))])) rfl (hb hby at_163) _ ?_
      refine XS.lcmp X19.here hx rfl (hb hby at_166) rfl ?_
      refine XS.ifNo X19.here hx rfl (hb hby at_167) rfl ((if0 _ _).trans (teq ((lw_eq ((2 : Int32).toInt64) (2 : Int64)).mpr (by decide))).2) ?_
      refine XS.aload X19.here hx rfl (hb hby at_170) rfl rfl ?_
      refine XS.iconst X19.here hx rfl (hb hby at_172) ?_
      exact kt
    obtain ⟨cq20, kq20, q20a, q20b, q20c⟩ := isOf hZ e19 o14_0
    obtain ⟨_, _, ⟨T20, L20, k20, n20⟩, -, X20, ⟨Lc20, hQ20, l20, y20, z20⟩, st20⟩ := X19.virtualBack hx (y := (⟨"dev/chainlatch/bucket/Serials", "serialAt", "(I)J"⟩ : MethodName)) (z := (⟨"dev/chainlatch/bucket/Serials", "serialAt", "(I)J"⟩ : MethodName)) hown (mvT hZ (hw _ (List.mem_of_getElem? (i := 21) rfl))) (mvT hZ (hw _ (List.mem_of_getElem? (i := 22) rfl))) (notFace_of_selects (args := #[]) (mvT hZ (hw _ (List.mem_of_getElem? (i := 24) rfl)))) (mvT hZ (hw _ (List.mem_of_getElem? (i := 24) rfl))) (mvT hZ (hw _ (List.mem_of_getElem? (i := 23) rfl))) (by decide) (backOf (W := 0) (rmSN l Z a0 hw [] b12 (3 : Int32) T14.heap n0 Z15 o14_2) hZ (hw _ (List.mem_of_getElem? (i := 25) rfl)) (hw _ (List.mem_of_getElem? (i := 5) rfl)) (by decide) (by decide)) q20a q20c (g := (mkF m 173 #[.val (.int md), .val (.int pk), .val (.int cd), .val (.int pb), .val (.int (0 : Int32)), .val (.int n), .val (.int pp), .val (.int qq), .val (.ref b2), .val (.ref b12)] [(.int (3 : Int32)), (.ref b12)])) rfl (by rw [hml]; rfl) (Steps.refl _) (argsL := [(.int (3 : Int32))]) (rest := []) (lenOf pd__28I_29J rfl) rfl (by show 2 * 0 + _ ≤ _; exact Nat.le_of_eq rfl) (hb hby at_173) (fun _ _ => ⟨rfl, e19, (by decide : 2 + 0 ≤ _), (by decide : 7 + 0 ≤ _)⟩)
    dsimp only [Pt.U, Pt.locs, Pt.cells, Pt.slots] at X20 l20 y20 z20 st20 hQ20
    obtain ⟨rfl, N20q, e20⟩ := hQ20
    obtain ⟨lc20, X20, N20⟩ := own_pack X20 l20 y20 z20 N19 N20q (C := 2) (S' := 7) rfl rfl
    refine own_thr (a := T20.setTop (mkF m 176 #[.val (.int md), .val (.int pk), .val (.int cd), .val (.int pb), .val (.int (0 : Int32)), .val (.int n), .val (.int pp), .val (.int qq), .val (.ref b2), .val (.ref b12)] [(.long ((3 : Int32).toInt64))])) (fun t kt => st20.trans kt) ?_
    refine own_thr (a := T20.setTop (mkF m 186 #[.val (.int md), .val (.int pk), .val (.int cd), .val (.int pb), .val (.int (0 : Int32)), .val (.int n), .val (.int pp), .val (.int qq), .val (.ref b2), .val (.ref b12)] [(.int pb), (.ref b12)])) (fun t kt => ?_) ?_
    · show Steps p.tables e below (T20.setTop (mkF m 176 #[.val (.int md), .val (.int pk), .val (.int cd), .val (.int pb), .val (.int (0 : Int32)), .val (.int n), .val (.int pp), .val (.int qq), .val (.ref b2), .val (.ref b12)] [(.long ((3 : Int32).toInt64))])) _
      refine X20.ldc2Long hx hown (mvT hZ (hw _ (List.mem_of_getElem? (i := 27) rfl))) (g := (mkF m 176 #[.val (.int md), .val (.int pk), .val (.int cd), .val (.int pb), .val (.int (0 : Int32)), .val (.int n), .val (.int pp), .val (.int qq), .val (.ref b2), .val (.ref b12)] [(.long ((3 : Int32).toInt64))])) rfl (hb hby at_176) _ ?_
      refine XS.lcmp X20.here hx rfl (hb hby at_179) rfl ?_
      refine XS.ifNo X20.here hx rfl (hb hby at_180) rfl ((if0 _ _).trans (teq ((lw_eq ((3 : Int32).toInt64) (3 : Int64)).mpr (by decide))).2) ?_
      refine XS.aload X20.here hx rfl (hb hby at_183) rfl rfl ?_
      refine XS.iloadN X20.here hx rfl (hb hby at_185) rfl ?_
      exact kt
    obtain ⟨cq21, kq21, q21a, q21b, q21c⟩ := isOf hZ e20 o14_0
    obtain ⟨_, _, ⟨T21, L21, k21, n21⟩, -, X21, ⟨Lc21, hQ21, l21, y21, z21⟩, st21⟩ := X20.virtualBack hx (y := (⟨"dev/chainlatch/bucket/Serials", "serialAt", "(I)J"⟩ : MethodName)) (z := (⟨"dev/chainlatch/bucket/Serials", "serialAt", "(I)J"⟩ : MethodName)) hown (mvT hZ (hw _ (List.mem_of_getElem? (i := 21) rfl))) (mvT hZ (hw _ (List.mem_of_getElem? (i := 22) rfl))) (notFace_of_selects (args := #[]) (mvT hZ (hw _ (List.mem_of_getElem? (i := 24) rfl)))) (mvT hZ (hw _ (List.mem_of_getElem? (i := 24) rfl))) (mvT hZ (hw _ (List.mem_of_getElem? (i := 23) rfl))) (by decide) (backOf (W := 0) (rmSN l Z a0 hw [] b12 pb T14.heap n0 Z15 o14_2) hZ (hw _ (List.mem_of_getElem? (i := 25) rfl)) (hw _ (List.mem_of_getElem? (i := 5) rfl)) (by decide) (by decide)) q21a q21c (g := (mkF m 186 #[.val (.int md), .val (.int pk), .val (.int cd), .val (.int pb), .val (.int (0 : Int32)), .val (.int n), .val (.int pp), .val (.int qq), .val (.ref b2), .val (.ref b12)] [(.int pb), (.ref b12)])) rfl (by rw [hml]; rfl) (Steps.refl _) (argsL := [(.int pb)]) (rest := []) (lenOf pd__28I_29J rfl) rfl (by show 2 * 0 + _ ≤ _; exact Nat.le_of_eq rfl) (hb hby at_186) (fun _ _ => ⟨rfl, e20, (by decide : 2 + 0 ≤ _), (by decide : 7 + 0 ≤ _)⟩)
    dsimp only [Pt.U, Pt.locs, Pt.cells, Pt.slots] at X21 l21 y21 z21 st21 hQ21
    obtain ⟨rfl, N21q, e21⟩ := hQ21
    obtain ⟨lc21, X21, N21⟩ := own_pack X21 l21 y21 z21 N20 N21q (C := 2) (S' := 7) rfl rfl
    refine own_thr (a := T21.setTop (mkF m 189 #[.val (.int md), .val (.int pk), .val (.int cd), .val (.int pb), .val (.int (0 : Int32)), .val (.int n), .val (.int pp), .val (.int qq), .val (.ref b2), .val (.ref b12)] [(.long (pb.toInt64))])) (fun t kt => st21.trans kt) ?_
    refine own_thr (a := T21.setTop (mkF m 200 #[.val (.int md), .val (.int pk), .val (.int cd), .val (.int pb), .val (.int (0 : Int32)), .val (.int n), .val (.int pp), .val (.int qq), .val (.ref b2), .val (.ref b12)] [(.int (1 : Int32))])) (fun t kt => ?_) ?_
    · show Steps p.tables e below (T21.setTop (mkF m 189 #[.val (.int md), .val (.int pk), .val (.int cd), .val (.int pb), .val (.int (0 : Int32)), .val (.int n), .val (.int pp), .val (.int qq), .val (.ref b2), .val (.ref b12)] [(.long (pb.toInt64))])) _
      refine XS.iloadN X21.here hx rfl (hb hby at_189) rfl ?_
      refine XS.i2l X21.here hx rfl (hb hby at_190) rfl ?_
      refine XS.lcmp X21.here hx rfl (hb hby at_191) rfl ?_
      refine XS.ifNo X21.here hx rfl (hb hby at_192) rfl ((if0 _ _).trans (teq ((lw_eq (pb.toInt64) (pb.toInt64)).mpr rfl)).2) ?_
      refine XS.iconst X21.here hx rfl (hb hby at_195) ?_
      refine XS.goto X21.here hx rfl (pc0 := 196) (pc' := 200) rfl (hb hby at_196) (by decide) (by decide) ?_
      exact kt
    exact own_end X21 hlk (v := some (.int (1 : Int32))) (fun h => by rw [Bd.returns] at h; cases h) (fun fs hr => retN X21 hx (t := .boolean) Bd.returns (by simp) (hb hby at_200) hr) ⟨rfl, N21⟩ (by decide : 2 ≤ _) (by decide : 7 ≤ _)
  · refine own_thr (a := s₁.setTop (mkF m 22 #[.val (.int md), .val (.int pk), .val (.int cd), .val (.int pb), .val (.int (1 : Int32)), .val (.int ((1 : Int32) + (((md.toUInt32 >>> ((1 : Int32) &&& 31).toUInt32).toInt32) &&& (3 : Int32)))), .unset, .unset, .unset, .unset] [])) (fun t kt => ?_) ?_
    · show Steps p.tables e below (s₁.setTop (mkF m 3 #[.val (.int md), .val (.int pk), .val (.int cd), .val (.int pb), .unset, .unset, .unset, .unset, .unset, .unset] [(.int (md &&& (1 : Int32)))])) _
      refine XS.ifNo X0.here hx rfl (hb hby at_3) rfl ((if0 _ _).trans (feq hc1).1) ?_
      refine XS.iconst X0.here hx rfl (hb hby at_6) ?_
      refine XS.goto X0.here hx rfl (pc0 := 7) (pc' := 11) rfl (hb hby at_7) (by decide) (by decide) ?_
      refine XS.istore X0.here hx rfl (hb hby at_11) rfl (l' := #[.val (.int md), .val (.int pk), .val (.int cd), .val (.int pb), .val (.int (1 : Int32)), .unset, .unset, .unset, .unset, .unset]) rfl ?_
      refine XS.iconst X0.here hx rfl (hb hby at_13) ?_
      refine XS.iloadN X0.here hx rfl (hb hby at_14) rfl ?_
      refine XS.iconst X0.here hx rfl (hb hby at_15) ?_
      refine XS.iushr X0.here hx rfl (hb hby at_16) rfl ?_
      refine XS.iconst X0.here hx rfl (hb hby at_17) ?_
      refine XS.iand X0.here hx rfl (hb hby at_18) rfl ?_
      refine XS.iadd X0.here hx rfl (hb hby at_19) rfl ?_
      refine XS.istore X0.here hx rfl (hb hby at_20) rfl (l' := #[.val (.int md), .val (.int pk), .val (.int cd), .val (.int pb), .val (.int (1 : Int32)), .val (.int ((1 : Int32) + (((md.toUInt32 >>> ((1 : Int32) &&& 31).toUInt32).toInt32) &&& (3 : Int32)))), .unset, .unset, .unset, .unset]) rfl ?_
      exact kt
    obtain ⟨n, e_n⟩ : ∃ z, z = ((1 : Int32) + (((md.toUInt32 >>> ((1 : Int32) &&& 31).toUInt32).toInt32) &&& (3 : Int32))) := ⟨_, rfl⟩
    rw [← e_n]
    have Hn : 1 ≤ n.toInt ∧ n.toInt ≤ 4 := by rw [e_n]; exact own_n _
    obtain ⟨hn0, hn1, hn4⟩ := own_hn Hn
    refine own_thr (a := s₁.setTop (mkF m 31 #[.val (.int md), .val (.int pk), .val (.int cd), .val (.int pb), .val (.int (1 : Int32)), .val (.int n), .val (.int ((pk &&& (2147483647 : Int32)) % n)), .unset, .unset, .unset] [])) (fun t kt => ?_) ?_
    · show Steps p.tables e below (s₁.setTop (mkF m 22 #[.val (.int md), .val (.int pk), .val (.int cd), .val (.int pb), .val (.int (1 : Int32)), .val (.int n), .unset, .unset, .unset, .unset] [])) _
      refine XS.iloadN X0.here hx rfl (hb hby at_22) rfl ?_
      refine X0.ldcInt hx hown (mvT hZ (hw _ (List.mem_of_getElem? (i := 0) rfl))) (g := (mkF m 23 #[.val (.int md), .val (.int pk), .val (.int cd), .val (.int pb), .val (.int (1 : Int32)), .val (.int n), .unset, .unset, .unset, .unset] [(.int pk)])) rfl (hb hby at_23) _ ?_
      refine XS.iand X0.here hx rfl (hb hby at_25) rfl ?_
      refine XS.iload X0.here hx rfl (hb hby at_26) rfl ?_
      refine iremM X0 hx rfl (hb hby at_28) rfl (own_nz Hn) ?_
      refine XS.istore X0.here hx rfl (hb hby at_29) rfl (l' := #[.val (.int md), .val (.int pk), .val (.int cd), .val (.int pb), .val (.int (1 : Int32)), .val (.int n), .val (.int ((pk &&& (2147483647 : Int32)) % n)), .unset, .unset, .unset]) rfl ?_
      exact kt
    obtain ⟨pp, e_pp⟩ : ∃ z, z = ((pk &&& (2147483647 : Int32)) % n) := ⟨_, rfl⟩
    rw [← e_pp]
    have Hp : ¬ pp < 0 ∧ pp < n := by rw [e_pp]; exact own_pq Hn (own_m1 _)
    refine own_thr (a := s₁.setTop (mkF m 43 #[.val (.int md), .val (.int pk), .val (.int cd), .val (.int pb), .val (.int (1 : Int32)), .val (.int n), .val (.int pp), .val (.int ((((pk.toUInt32 >>> ((8 : Int32) &&& 31).toUInt32).toInt32) &&& (8388607 : Int32)) % n)), .unset, .unset] [])) (fun t kt => ?_) ?_
    · show Steps p.tables e below (s₁.setTop (mkF m 31 #[.val (.int md), .val (.int pk), .val (.int cd), .val (.int pb), .val (.int (1 : Int32)), .val (.int n), .val (.int pp), .unset, .unset, .unset] [])) _
      refine XS.iloadN X0.here hx rfl (hb hby at_31) rfl ?_
      refine XS.bipush X0.here hx rfl (hb hby at_32) ?_
      refine XS.iushr X0.here hx rfl (hb hby at_34) rfl ?_
      refine X0.ldcInt hx hown (mvT hZ (hw _ (List.mem_of_getElem? (i := 1) rfl))) (g := (mkF m 35 #[.val (.int md), .val (.int pk), .val (.int cd), .val (.int pb), .val (.int (1 : Int32)), .val (.int n), .val (.int pp), .unset, .unset, .unset] [(.int ((pk.toUInt32 >>> ((8 : Int32) &&& 31).toUInt32).toInt32))])) rfl (hb hby at_35) _ ?_
      refine XS.iand X0.here hx rfl (hb hby at_37) rfl ?_
      refine XS.iload X0.here hx rfl (hb hby at_38) rfl ?_
      refine iremM X0 hx rfl (hb hby at_40) rfl (own_nz Hn) ?_
      refine XS.istore X0.here hx rfl (hb hby at_41) rfl (l' := #[.val (.int md), .val (.int pk), .val (.int cd), .val (.int pb), .val (.int (1 : Int32)), .val (.int n), .val (.int pp), .val (.int ((((pk.toUInt32 >>> ((8 : Int32) &&& 31).toUInt32).toInt32) &&& (8388607 : Int32)) % n)), .unset, .unset]) rfl ?_
      exact kt
    obtain ⟨qq, e_qq⟩ : ∃ z, z = ((((pk.toUInt32 >>> ((8 : Int32) &&& 31).toUInt32).toInt32) &&& (8388607 : Int32)) % n) := ⟨_, rfl⟩
    rw [← e_qq]
    have Hq : ¬ qq < 0 ∧ qq < n := by rw [e_qq]; exact own_pq Hn (own_m2 _)
    refine own_thr (a := s₁.setTop (mkF m 44 #[.val (.int md), .val (.int pk), .val (.int cd), .val (.int pb), .val (.int (1 : Int32)), .val (.int n), .val (.int pp), .val (.int qq), .unset, .unset] [(.int (4 : Int32))])) (fun t kt => ?_) ?_
    · show Steps p.tables e below (s₁.setTop (mkF m 43 #[.val (.int md), .val (.int pk), .val (.int cd), .val (.int pb), .val (.int (1 : Int32)), .val (.int n), .val (.int pp), .val (.int qq), .unset, .unset] [])) _
      refine XS.iconst X0.here hx rfl (hb hby at_43) ?_
      exact kt
    obtain ⟨T22, h22, k22, X22, e22, E22, A22, st22⟩ := newP X0 hx hZ (hw _ (List.mem_of_getElem? (i := 2) rfl)) e0 (g := (mkF m 44 #[.val (.int md), .val (.int pk), .val (.int cd), .val (.int pb), .val (.int (1 : Int32)), .val (.int n), .val (.int pp), .val (.int qq), .unset, .unset] [(.int (4 : Int32))])) rfl (hb hby at_44) rfl (by decide) (cap := 4) (by decide) (by decide) (by decide : 0 + 1 ≤ _) (by decide : 0 + 4 ≤ _)
    obtain ⟨b22, g22⟩ : ∃ z, z = h0.size := ⟨_, rfl⟩
    rw [← g22] at A22 st22
    have g_b22 : n0 ≤ b22 := Nat.le_trans Z0 (Nat.le_of_eq g22.symm)
    have sz_b22 : h0.size ≤ b22 := Nat.le_trans (Nat.le_refl h0.size) (Nat.le_of_eq g22.symm)
    have V_b22 : Arv Z h22 b22 k22 .int (4 : Int32) [(.int (0 : Int32)), (.int (0 : Int32)), (.int (0 : Int32)), (.int (0 : Int32))] (.int (0 : Int32)) := (Arv.new A22 (by decide)).pad (pad_rep [] (.int (0 : Int32)) 4)
    have Z23 : n0 ≤ h22.size := Nat.le_trans Z0 E22.1
    have Z23h : h0.size ≤ h22.size := Nat.le_trans (Nat.le_refl h0.size) E22.1
    refine own_thr (a := T22.setTop (mkF m 46 #[.val (.int md), .val (.int pk), .val (.int cd), .val (.int pb), .val (.int (1 : Int32)), .val (.int n), .val (.int pp), .val (.int qq), .unset, .unset] [(.ref b22)])) (fun t kt => st22 t kt) ?_
    refine own_thr (a := T22.setTop (mkF m 61 #[.val (.int md), .val (.int pk), .val (.int cd), .val (.int pb), .val (.int (1 : Int32)), .val (.int n), .val (.int pp), .val (.int qq), .val (.ref b22), .unset] [(.int ((cd &&& (255 : Int32)) % (n + (1 : Int32)))), (.int (0 : Int32)), (.ref b22)])) (fun t kt => ?_) ?_
    · show Steps p.tables e below (T22.setTop (mkF m 46 #[.val (.int md), .val (.int pk), .val (.int cd), .val (.int pb), .val (.int (1 : Int32)), .val (.int n), .val (.int pp), .val (.int qq), .unset, .unset] [(.ref b22)])) _
      refine XS.astore X22.here hx rfl (hb hby at_46) rfl rfl (l' := #[.val (.int md), .val (.int pk), .val (.int cd), .val (.int pb), .val (.int (1 : Int32)), .val (.int n), .val (.int pp), .val (.int qq), .val (.ref b22), .unset]) rfl ?_
      refine XS.aload X22.here hx rfl (hb hby at_48) rfl rfl ?_
      refine XS.iconst X22.here hx rfl (hb hby at_50) ?_
      refine XS.iloadN X22.here hx rfl (hb hby at_51) rfl ?_
      refine XS.sipush X22.here hx rfl (hb hby at_52) ?_
      refine XS.iand X22.here hx rfl (hb hby at_55) rfl ?_
      refine XS.iload X22.here hx rfl (hb hby at_56) rfl ?_
      refine XS.iconst X22.here hx rfl (hb hby at_58) ?_
      refine XS.iadd X22.here hx rfl (hb hby at_59) rfl ?_
      refine iremM X22 hx rfl (hb hby at_60) rfl (own_nz1 Hn) ?_
      exact kt
    obtain ⟨r0, e_r0⟩ : ∃ z, z = ((cd &&& (255 : Int32)) % (n + (1 : Int32))) := ⟨_, rfl⟩
    rw [← e_r0]
    have hr0 : ¬ r0 = 0 → ¬ (r0 - (1 : Int32)) < 0 ∧ (r0 - (1 : Int32)) < n := by rw [e_r0]; exact own_rr Hn (own_m3 _)
    obtain ⟨cl24, Ar24, q24, S24, M24, H24, G24⟩ := id V_b22
    have hin24 : ¬ ((0 : Int32) < 0 ∨ cl24.slots.size ≤ ((0 : Int32)).toNatClampNeg) := inb_of S24 ⟨by decide, by decide⟩
    obtain ⟨T24, h24, X24, e24, W24, st24⟩ := stI X22 hx hZ e22 Ar24 (j := (0 : Int32)) hin24 (g := (mkF m 61 #[.val (.int md), .val (.int pk), .val (.int cd), .val (.int pb), .val (.int (1 : Int32)), .val (.int n), .val (.int pp), .val (.int qq), .val (.ref b22), .unset] [(.int r0), (.int (0 : Int32)), (.ref b22)])) rfl rfl (hb hby at_61)
    have Z25 : n0 ≤ h24.size := Nat.le_trans Z23 (Nat.le_of_eq W24.size.symm)
    have Z25h : h0.size ≤ h24.size := Nat.le_trans Z23h (Nat.le_of_eq W24.size.symm)
    have V24 : Arv Z h24 b22 k22 .int (4 : Int32) [(.int r0), (.int (0 : Int32)), (.int (0 : Int32)), (.int (0 : Int32))] (.int (0 : Int32)) := Arv.set Ar24 q24 S24 M24 H24 G24 rfl W24 0 rfl (Nat.le_of_ble_eq_true rfl)
    obtain ⟨lc24, X24, N24⟩ := own_pack1 X24 N0 g_b22
    refine own_thr (a := T24.setTop (mkF m 62 #[.val (.int md), .val (.int pk), .val (.int cd), .val (.int pb), .val (.int (1 : Int32)), .val (.int n), .val (.int pp), .val (.int qq), .val (.ref b22), .unset] [])) (fun t kt => st24 t kt) ?_
    refine own_thr (a := T24.setTop (mkF m 78 #[.val (.int md), .val (.int pk), .val (.int cd), .val (.int pb), .val (.int (1 : Int32)), .val (.int n), .val (.int pp), .val (.int qq), .val (.ref b22), .unset] [(.int ((((cd.toUInt32 >>> ((8 : Int32) &&& 31).toUInt32).toInt32) &&& (255 : Int32)) % (n + (1 : Int32)))), (.int (1 : Int32)), (.ref b22)])) (fun t kt => ?_) ?_
    · show Steps p.tables e below (T24.setTop (mkF m 62 #[.val (.int md), .val (.int pk), .val (.int cd), .val (.int pb), .val (.int (1 : Int32)), .val (.int n), .val (.int pp), .val (.int qq), .val (.ref b22), .unset] [])) _
      refine XS.aload X24.here hx rfl (hb hby at_62) rfl rfl ?_
      refine XS.iconst X24.here hx rfl (hb hby at_64) ?_
      refine XS.iloadN X24.here hx rfl (hb hby at_65) rfl ?_
      refine XS.bipush X24.here hx rfl (hb hby at_66) ?_
      refine XS.iushr X24.here hx rfl (hb hby at_68) rfl ?_
      refine XS.sipush X24.here hx rfl (hb hby at_69) ?_
      refine XS.iand X24.here hx rfl (hb hby at_72) rfl ?_
      refine XS.iload X24.here hx rfl (hb hby at_73) rfl ?_
      refine XS.iconst X24.here hx rfl (hb hby at_75) ?_
      refine XS.iadd X24.here hx rfl (hb hby at_76) rfl ?_
      refine iremM X24 hx rfl (hb hby at_77) rfl (own_nz1 Hn) ?_
      exact kt
    obtain ⟨r1, e_r1⟩ : ∃ z, z = ((((cd.toUInt32 >>> ((8 : Int32) &&& 31).toUInt32).toInt32) &&& (255 : Int32)) % (n + (1 : Int32))) := ⟨_, rfl⟩
    rw [← e_r1]
    have hr1 : ¬ r1 = 0 → ¬ (r1 - (1 : Int32)) < 0 ∧ (r1 - (1 : Int32)) < n := by rw [e_r1]; exact own_rr Hn (own_m3 _)
    obtain ⟨cl26, Ar26, q26, S26, M26, H26, G26⟩ := id V24
    have hin26 : ¬ ((1 : Int32) < 0 ∨ cl26.slots.size ≤ ((1 : Int32)).toNatClampNeg) := inb_of S26 ⟨by decide, by decide⟩
    obtain ⟨T26, h26, X26, e26, W26, st26⟩ := stI X24 hx hZ e24 Ar26 (j := (1 : Int32)) hin26 (g := (mkF m 78 #[.val (.int md), .val (.int pk), .val (.int cd), .val (.int pb), .val (.int (1 : Int32)), .val (.int n), .val (.int pp), .val (.int qq), .val (.ref b22), .unset] [(.int r1), (.int (1 : Int32)), (.ref b22)])) rfl rfl (hb hby at_78)
    have Z27 : n0 ≤ h26.size := Nat.le_trans Z25 (Nat.le_of_eq W26.size.symm)
    have Z27h : h0.size ≤ h26.size := Nat.le_trans Z25h (Nat.le_of_eq W26.size.symm)
    have V26 : Arv Z h26 b22 k22 .int (4 : Int32) [(.int r0), (.int r1), (.int (0 : Int32)), (.int (0 : Int32))] (.int (0 : Int32)) := Arv.set Ar26 q26 S26 M26 H26 G26 rfl W26 1 rfl (Nat.le_of_ble_eq_true rfl)
    obtain ⟨lc26, X26, N26⟩ := own_pack1 X26 N24 g_b22
    refine own_thr (a := T26.setTop (mkF m 79 #[.val (.int md), .val (.int pk), .val (.int cd), .val (.int pb), .val (.int (1 : Int32)), .val (.int n), .val (.int pp), .val (.int qq), .val (.ref b22), .unset] [])) (fun t kt => st26 t kt) ?_
    refine own_thr (a := T26.setTop (mkF m 95 #[.val (.int md), .val (.int pk), .val (.int cd), .val (.int pb), .val (.int (1 : Int32)), .val (.int n), .val (.int pp), .val (.int qq), .val (.ref b22), .unset] [(.int ((((cd.toUInt32 >>> ((16 : Int32) &&& 31).toUInt32).toInt32) &&& (255 : Int32)) % (n + (1 : Int32)))), (.int (2 : Int32)), (.ref b22)])) (fun t kt => ?_) ?_
    · show Steps p.tables e below (T26.setTop (mkF m 79 #[.val (.int md), .val (.int pk), .val (.int cd), .val (.int pb), .val (.int (1 : Int32)), .val (.int n), .val (.int pp), .val (.int qq), .val (.ref b22), .unset] [])) _
      refine XS.aload X26.here hx rfl (hb hby at_79) rfl rfl ?_
      refine XS.iconst X26.here hx rfl (hb hby at_81) ?_
      refine XS.iloadN X26.here hx rfl (hb hby at_82) rfl ?_
      refine XS.bipush X26.here hx rfl (hb hby at_83) ?_
      refine XS.iushr X26.here hx rfl (hb hby at_85) rfl ?_
      refine XS.sipush X26.here hx rfl (hb hby at_86) ?_
      refine XS.iand X26.here hx rfl (hb hby at_89) rfl ?_
      refine XS.iload X26.here hx rfl (hb hby at_90) rfl ?_
      refine XS.iconst X26.here hx rfl (hb hby at_92) ?_
      refine XS.iadd X26.here hx rfl (hb hby at_93) rfl ?_
      refine iremM X26 hx rfl (hb hby at_94) rfl (own_nz1 Hn) ?_
      exact kt
    obtain ⟨r2, e_r2⟩ : ∃ z, z = ((((cd.toUInt32 >>> ((16 : Int32) &&& 31).toUInt32).toInt32) &&& (255 : Int32)) % (n + (1 : Int32))) := ⟨_, rfl⟩
    rw [← e_r2]
    have hr2 : ¬ r2 = 0 → ¬ (r2 - (1 : Int32)) < 0 ∧ (r2 - (1 : Int32)) < n := by rw [e_r2]; exact own_rr Hn (own_m3 _)
    obtain ⟨cl28, Ar28, q28, S28, M28, H28, G28⟩ := id V26
    have hin28 : ¬ ((2 : Int32) < 0 ∨ cl28.slots.size ≤ ((2 : Int32)).toNatClampNeg) := inb_of S28 ⟨by decide, by decide⟩
    obtain ⟨T28, h28, X28, e28, W28, st28⟩ := stI X26 hx hZ e26 Ar28 (j := (2 : Int32)) hin28 (g := (mkF m 95 #[.val (.int md), .val (.int pk), .val (.int cd), .val (.int pb), .val (.int (1 : Int32)), .val (.int n), .val (.int pp), .val (.int qq), .val (.ref b22), .unset] [(.int r2), (.int (2 : Int32)), (.ref b22)])) rfl rfl (hb hby at_95)
    have Z29 : n0 ≤ h28.size := Nat.le_trans Z27 (Nat.le_of_eq W28.size.symm)
    have Z29h : h0.size ≤ h28.size := Nat.le_trans Z27h (Nat.le_of_eq W28.size.symm)
    have V28 : Arv Z h28 b22 k22 .int (4 : Int32) [(.int r0), (.int r1), (.int r2), (.int (0 : Int32))] (.int (0 : Int32)) := Arv.set Ar28 q28 S28 M28 H28 G28 rfl W28 2 rfl (Nat.le_of_ble_eq_true rfl)
    obtain ⟨lc28, X28, N28⟩ := own_pack1 X28 N26 g_b22
    refine own_thr (a := T28.setTop (mkF m 96 #[.val (.int md), .val (.int pk), .val (.int cd), .val (.int pb), .val (.int (1 : Int32)), .val (.int n), .val (.int pp), .val (.int qq), .val (.ref b22), .unset] [])) (fun t kt => st28 t kt) ?_
    refine own_thr (a := T28.setTop (mkF m 112 #[.val (.int md), .val (.int pk), .val (.int cd), .val (.int pb), .val (.int (1 : Int32)), .val (.int n), .val (.int pp), .val (.int qq), .val (.ref b22), .unset] [(.int ((((cd.toUInt32 >>> ((24 : Int32) &&& 31).toUInt32).toInt32) &&& (255 : Int32)) % (n + (1 : Int32)))), (.int (3 : Int32)), (.ref b22)])) (fun t kt => ?_) ?_
    · show Steps p.tables e below (T28.setTop (mkF m 96 #[.val (.int md), .val (.int pk), .val (.int cd), .val (.int pb), .val (.int (1 : Int32)), .val (.int n), .val (.int pp), .val (.int qq), .val (.ref b22), .unset] [])) _
      refine XS.aload X28.here hx rfl (hb hby at_96) rfl rfl ?_
      refine XS.iconst X28.here hx rfl (hb hby at_98) ?_
      refine XS.iloadN X28.here hx rfl (hb hby at_99) rfl ?_
      refine XS.bipush X28.here hx rfl (hb hby at_100) ?_
      refine XS.iushr X28.here hx rfl (hb hby at_102) rfl ?_
      refine XS.sipush X28.here hx rfl (hb hby at_103) ?_
      refine XS.iand X28.here hx rfl (hb hby at_106) rfl ?_
      refine XS.iload X28.here hx rfl (hb hby at_107) rfl ?_
      refine XS.iconst X28.here hx rfl (hb hby at_109) ?_
      refine XS.iadd X28.here hx rfl (hb hby at_110) rfl ?_
      refine iremM X28 hx rfl (hb hby at_111) rfl (own_nz1 Hn) ?_
      exact kt
    obtain ⟨r3, e_r3⟩ : ∃ z, z = ((((cd.toUInt32 >>> ((24 : Int32) &&& 31).toUInt32).toInt32) &&& (255 : Int32)) % (n + (1 : Int32))) := ⟨_, rfl⟩
    rw [← e_r3]
    have hr3 : ¬ r3 = 0 → ¬ (r3 - (1 : Int32)) < 0 ∧ (r3 - (1 : Int32)) < n := by rw [e_r3]; exact own_rr Hn (own_m3 _)
    obtain ⟨cl30, Ar30, q30, S30, M30, H30, G30⟩ := id V28
    have hin30 : ¬ ((3 : Int32) < 0 ∨ cl30.slots.size ≤ ((3 : Int32)).toNatClampNeg) := inb_of S30 ⟨by decide, by decide⟩
    obtain ⟨T30, h30, X30, e30, W30, st30⟩ := stI X28 hx hZ e28 Ar30 (j := (3 : Int32)) hin30 (g := (mkF m 112 #[.val (.int md), .val (.int pk), .val (.int cd), .val (.int pb), .val (.int (1 : Int32)), .val (.int n), .val (.int pp), .val (.int qq), .val (.ref b22), .unset] [(.int r3), (.int (3 : Int32)), (.ref b22)])) rfl rfl (hb hby at_112)
    have Z31 : n0 ≤ h30.size := Nat.le_trans Z29 (Nat.le_of_eq W30.size.symm)
    have Z31h : h0.size ≤ h30.size := Nat.le_trans Z29h (Nat.le_of_eq W30.size.symm)
    have V30 : Arv Z h30 b22 k22 .int (4 : Int32) [(.int r0), (.int r1), (.int r2), (.int r3)] (.int (0 : Int32)) := Arv.set Ar30 q30 S30 M30 H30 G30 rfl W30 3 rfl (Nat.le_of_ble_eq_true rfl)
    obtain ⟨lc30, X30, N30⟩ := own_pack1 X30 N28 g_b22
    refine own_thr (a := T30.setTop (mkF m 113 #[.val (.int md), .val (.int pk), .val (.int cd), .val (.int pb), .val (.int (1 : Int32)), .val (.int n), .val (.int pp), .val (.int qq), .val (.ref b22), .unset] [])) (fun t kt => st30 t kt) ?_
    obtain ⟨T32, h32, X32, e32, E32, A32, D32, U32, st32⟩ := newO X30 hx hZ hown (hw _ (List.mem_of_getElem? (i := 3) rfl)) (hw _ (List.mem_of_getElem? (i := 4) rfl)) (hw _ (List.mem_of_getElem? (i := 5) rfl)) e30 (g := (mkF m 113 #[.val (.int md), .val (.int pk), .val (.int cd), .val (.int pb), .val (.int (1 : Int32)), .val (.int n), .val (.int pp), .val (.int qq), .val (.ref b22), .unset] [])) rfl (hb hby at_113) (by decide : 1 + 1 ≤ _) (by decide : 4 + 3 ≤ _)
    obtain ⟨b32, g32⟩ : ∃ z, z = h30.size := ⟨_, rfl⟩
    rw [← g32] at A32 D32 st32 U32
    have g_b32 : n0 ≤ b32 := Nat.le_trans Z31 (Nat.le_of_eq g32.symm)
    have sz_b32 : h0.size ≤ b32 := Nat.le_trans Z31h (Nat.le_of_eq g32.symm)
    have lt_b22_b32 : b22 < b32 := Nat.lt_of_lt_of_le V30.lt (Nat.le_of_eq g32.symm)
    have ne_b22_b32 : b22 ≠ b32 := Nat.ne_of_lt lt_b22_b32
    have Z33 : n0 ≤ h32.size := Nat.le_trans Z31 E32.1
    have Z33h : h0.size ≤ h32.size := Nat.le_trans Z31h E32.1
    have F_table_b32 : Fld Z h32 b32 "dev/chainlatch/bucket/Serials" "table" "Ldev/chainlatch/bucket/ChainTable;" .null := D32 (Or.inr (hw _ (List.mem_of_getElem? (i := 13) rfl))) (ty := (.object "dev/chainlatch/bucket/ChainTable")) (by decide)
    have F_bySlot_b32 : Fld Z h32 b32 "dev/chainlatch/bucket/Serials" "bySlot" "[J" .null := D32 (Or.inl (hw _ (List.mem_of_getElem? (i := 20) rfl))) (ty := (.array .long)) (by decide)
    have F_next_b32 : Fld Z h32 b32 "dev/chainlatch/bucket/Serials" "next" "J" (.long (0 : Int64)) := D32 (Or.inl (hw _ (List.mem_of_getElem? (i := 51) rfl))) (ty := .long) (by decide)
    refine own_thr (a := T32.setTop (mkF m 116 #[.val (.int md), .val (.int pk), .val (.int cd), .val (.int pb), .val (.int (1 : Int32)), .val (.int n), .val (.int pp), .val (.int qq), .val (.ref b22), .unset] [(.ref b32)])) (fun t kt => st32 t kt) ?_
    refine own_thr (a := T32.setTop (mkF m 118 #[.val (.int md), .val (.int pk), .val (.int cd), .val (.int pb), .val (.int (1 : Int32)), .val (.int n), .val (.int pp), .val (.int qq), .val (.ref b22), .unset] [.null, (.ref b32), (.ref b32)])) (fun t kt => ?_) ?_
    · show Steps p.tables e below (T32.setTop (mkF m 116 #[.val (.int md), .val (.int pk), .val (.int cd), .val (.int pb), .val (.int (1 : Int32)), .val (.int n), .val (.int pp), .val (.int qq), .val (.ref b22), .unset] [(.ref b32)])) _
      refine XS.dup X32.here hx rfl (hb hby at_116) rfl rfl ?_
      refine XS.aconstNull X32.here hx rfl (hb hby at_117) ?_
      exact kt
    obtain ⟨_, _, ⟨T34, L34, k34, n34⟩, -, X34, ⟨Lc34, hQ34, l34, y34, z34⟩, st34⟩ := X32.specialBack hx (y := (⟨"dev/chainlatch/bucket/Serials", "<init>", "(Ldev/chainlatch/bucket/ChainTable;)V"⟩ : MethodName)) rfl hown (mvT hZ (hw _ (List.mem_of_getElem? (i := 6) rfl))) (mvT hZ (hw _ (List.mem_of_getElem? (i := 7) rfl))) (mvT hZ (hw _ (List.mem_of_getElem? (i := 8) rfl))) (by decide) (backOf (W := 1) (rmI l Z a0 hw [] b32 h32 n0 Z33 A32 F_table_b32 F_bySlot_b32 F_next_b32 g_b32) hZ (hw _ (List.mem_of_getElem? (i := 8) rfl)) (hw _ (List.mem_of_getElem? (i := 5) rfl)) (by decide) (by decide)) (g := (mkF m 118 #[.val (.int md), .val (.int pk), .val (.int cd), .val (.int pb), .val (.int (1 : Int32)), .val (.int n), .val (.int pp), .val (.int qq), .val (.ref b22), .unset] [.null, (.ref b32), (.ref b32)])) rfl (by rw [hml]; rfl) (Steps.refl _) (a := b32) (argsL := [.null]) (rest := [(.ref b32)]) (lenOf pd__28Ldev_2fchainlatch_2fbucket_2fChainTable_3b_29V rfl) rfl (by show 2 * 0 + _ ≤ _; exact Nat.le_of_eq rfl) (hb hby at_118) (fun _ _ => ⟨rfl, e32, (by decide : 2 + 0 ≤ _), (by decide : 7 + 0 ≤ _)⟩)
    dsimp only [Pt.U, Pt.locs, Pt.cells, Pt.slots] at X34 l34 y34 z34 st34 hQ34
    obtain ⟨rfl, N34q, K34, o34_0, o34_1, o34_2, o34_3⟩ := hQ34
    have Z35 : n0 ≤ T34.heap.size := Nat.le_trans Z33 K34.1
    have Z35h : h0.size ≤ T34.heap.size := Nat.le_trans Z33h K34.1
    obtain ⟨lc34, X34, N34⟩ := own_pack X34 l34 y34 z34 N30 N34q (C := 2) (S' := 7) rfl rfl
    refine own_thr (a := T34.setTop (mkF m 121 #[.val (.int md), .val (.int pk), .val (.int cd), .val (.int pb), .val (.int (1 : Int32)), .val (.int n), .val (.int pp), .val (.int qq), .val (.ref b22), .unset] [(.ref b32)])) (fun t kt => st34.trans kt) ?_
    refine own_thr (a := T34.setTop (mkF m 205 #[.val (.int md), .val (.int pk), .val (.int cd), .val (.int pb), .val (.int (1 : Int32)), .val (.int n), .val (.int pp), .val (.int qq), .val (.ref b22), .val (.ref b32)] [(.int n), (.ref b32)])) (fun t kt => ?_) ?_
    · show Steps p.tables e below (T34.setTop (mkF m 121 #[.val (.int md), .val (.int pk), .val (.int cd), .val (.int pb), .val (.int (1 : Int32)), .val (.int n), .val (.int pp), .val (.int qq), .val (.ref b22), .unset] [(.ref b32)])) _
      refine XS.astore X34.here hx rfl (hb hby at_121) rfl rfl (l' := #[.val (.int md), .val (.int pk), .val (.int cd), .val (.int pb), .val (.int (1 : Int32)), .val (.int n), .val (.int pp), .val (.int qq), .val (.ref b22), .val (.ref b32)]) rfl ?_
      refine XS.iload X34.here hx rfl (hb hby at_123) rfl ?_
      refine XS.ifYes X34.here hx rfl (pc0 := 125) (pc' := 201) rfl (hb hby at_125) rfl ((if0 _ _).trans (feq (by decide)).2) (by decide) (by decide) ?_
      refine XS.aload X34.here hx rfl (hb hby at_201) rfl rfl ?_
      refine XS.iload X34.here hx rfl (hb hby at_203) rfl ?_
      exact kt
    have c37 := (((((((hO.ext E22).wr W24 g_b22).wr W26 g_b22).wr W28 g_b22).wr W30 g_b22).ext E32).keep K34 (allS g_b32 all0))
    obtain ⟨cq36, kq36, q36a, q36b, q36c⟩ := isOf hZ rfl o34_0
    obtain ⟨_, _, ⟨T36, L36, k36, n36⟩, -, X36, ⟨Lc36, hQ36, l36, y36, z36⟩, st36⟩ := X34.virtualBack hx (y := (⟨"dev/chainlatch/bucket/Serials", "writeOut", "(I)V"⟩ : MethodName)) (z := (⟨"dev/chainlatch/bucket/Serials", "writeOut", "(I)V"⟩ : MethodName)) hown (mvT hZ (hw _ (List.mem_of_getElem? (i := 28) rfl))) (mvT hZ (hw _ (List.mem_of_getElem? (i := 29) rfl))) (notFace_of_selects (args := #[]) (mvT hZ (hw _ (List.mem_of_getElem? (i := 31) rfl)))) (mvT hZ (hw _ (List.mem_of_getElem? (i := 31) rfl))) (mvT hZ (hw _ (List.mem_of_getElem? (i := 30) rfl))) (by decide) (backOf (W := 0) (rmW l Z a0 hw [] b32 n (0 : Int64) T34.heap n0 Z35 o34_0 o34_2 o34_3 g_b32 c37 hn0 hn1 hn4) hZ (hw _ (List.mem_of_getElem? (i := 32) rfl)) (hw _ (List.mem_of_getElem? (i := 5) rfl)) (by decide) (by decide)) q36a q36c (g := (mkF m 205 #[.val (.int md), .val (.int pk), .val (.int cd), .val (.int pb), .val (.int (1 : Int32)), .val (.int n), .val (.int pp), .val (.int qq), .val (.ref b22), .val (.ref b32)] [(.int n), (.ref b32)])) rfl (by rw [hml]; rfl) (Steps.refl _) (argsL := [(.int n)]) (rest := []) (lenOf pd__28I_29V rfl) rfl (by show 2 * 0 + _ ≤ _; exact Nat.le_of_eq rfl) (hb hby at_205) (fun _ _ => ⟨rfl, rfl, (by decide : 2 + 1 ≤ _), (by decide : 7 + 4 ≤ _)⟩)
    dsimp only [Pt.U, Pt.locs, Pt.cells, Pt.slots] at X36 l36 y36 z36 st36 hQ36
    obtain ⟨B36, rfl, N36q, K36, o36_e, o36_b, o36_n, o36_a, hB36⟩ := hQ36
    have ne_b22_B36 : b22 ≠ B36 := Nat.ne_of_lt (Nat.lt_of_lt_of_le ((V30.ext E32).keep K34 (ninS ne_b22_b32 nin0)).lt hB36)
    have ne_b32_B36 : b32 ≠ B36 := Nat.ne_of_lt (Nat.lt_of_lt_of_le o34_0.lt hB36)
    have g_B36 : n0 ≤ B36 := Nat.le_trans Z35 hB36
    have sz_B36 : h0.size ≤ B36 := Nat.le_trans Z35h hB36
    have Z38 : n0 ≤ T36.heap.size := Nat.le_trans Z35 K36.1
    have Z38h : h0.size ≤ T36.heap.size := Nat.le_trans Z35h K36.1
    obtain ⟨lc36, X36, N36⟩ := own_pack X36 l36 y36 z36 N34 N36q (C := 3) (S' := 11) rfl rfl
    refine own_thr (a := T36.setTop (mkF m 208 #[.val (.int md), .val (.int pk), .val (.int cd), .val (.int pb), .val (.int (1 : Int32)), .val (.int n), .val (.int pp), .val (.int qq), .val (.ref b22), .val (.ref b32)] [])) (fun t kt => st36.trans kt) ?_
    refine own_thr (a := T36.setTop (mkF m 212 #[.val (.int md), .val (.int pk), .val (.int cd), .val (.int pb), .val (.int (1 : Int32)), .val (.int n), .val (.int pp), .val (.int qq), .val (.ref b22), .val (.ref b32)] [(.int pp), (.ref b32)])) (fun t kt => ?_) ?_
    · show Steps p.tables e below (T36.setTop (mkF m 208 #[.val (.int md), .val (.int pk), .val (.int cd), .val (.int pb), .val (.int (1 : Int32)), .val (.int n), .val (.int pp), .val (.int qq), .val (.ref b22), .val (.ref b32)] [])) _
      refine XS.aload X36.here hx rfl (hb hby at_208) rfl rfl ?_
      refine XS.iload X36.here hx rfl (hb hby at_210) rfl ?_
      exact kt
    obtain ⟨cq39, kq39, q39a, q39b, q39c⟩ := isOf hZ rfl o36_e
    obtain ⟨_, _, ⟨T39, L39, k39, n39⟩, -, X39, ⟨Lc39, hQ39, l39, y39, z39⟩, st39⟩ := X36.virtualBack hx (y := (⟨"dev/chainlatch/bucket/Serials", "number", "(I)V"⟩ : MethodName)) (z := (⟨"dev/chainlatch/bucket/Serials", "number", "(I)V"⟩ : MethodName)) hown (mvT hZ (hw _ (List.mem_of_getElem? (i := 52) rfl))) (mvT hZ (hw _ (List.mem_of_getElem? (i := 53) rfl))) (notFace_of_selects (args := #[]) (mvT hZ (hw _ (List.mem_of_getElem? (i := 55) rfl)))) (mvT hZ (hw _ (List.mem_of_getElem? (i := 55) rfl))) (mvT hZ (hw _ (List.mem_of_getElem? (i := 54) rfl))) (by decide) (backOf (W := 0) (rmNu l Z a0 hw [] b32 pp B36 (n.toInt64) n own_idL T36.heap n0 Z38 o36_e o36_b o36_n o36_a g_b32 g_B36 ne_b32_B36 Hp.1 Hp.2) hZ (hw _ (List.mem_of_getElem? (i := 56) rfl)) (hw _ (List.mem_of_getElem? (i := 5) rfl)) (by decide) (by decide)) q39a q39c (g := (mkF m 212 #[.val (.int md), .val (.int pk), .val (.int cd), .val (.int pb), .val (.int (1 : Int32)), .val (.int n), .val (.int pp), .val (.int qq), .val (.ref b22), .val (.ref b32)] [(.int pp), (.ref b32)])) rfl (by rw [hml]; rfl) (Steps.refl _) (argsL := [(.int pp)]) (rest := []) (lenOf pd__28I_29V rfl) rfl (by show 2 * 0 + _ ≤ _; exact Nat.le_of_eq rfl) (hb hby at_212) (fun _ _ => ⟨rfl, rfl, (by decide : 3 + 0 ≤ _), (by decide : 11 + 0 ≤ _)⟩)
    dsimp only [Pt.U, Pt.locs, Pt.cells, Pt.slots] at X39 l39 y39 z39 st39 hQ39
    obtain ⟨rfl, N39q, K39, o39_0, o39_1, o39_2, o39_3⟩ := hQ39
    have Z40 : n0 ≤ T39.heap.size := Nat.le_trans Z38 K39.1
    have Z40h : h0.size ≤ T39.heap.size := Nat.le_trans Z38h K39.1
    obtain ⟨lc39, X39, N39⟩ := own_pack X39 l39 y39 z39 N36 N39q (C := 3) (S' := 11) rfl rfl
    refine own_thr (a := T39.setTop (mkF m 215 #[.val (.int md), .val (.int pk), .val (.int cd), .val (.int pb), .val (.int (1 : Int32)), .val (.int n), .val (.int pp), .val (.int qq), .val (.ref b22), .val (.ref b32)] [])) (fun t kt => st39.trans kt) ?_
    refine own_thr (a := T39.setTop (mkF m 219 #[.val (.int md), .val (.int pk), .val (.int cd), .val (.int pb), .val (.int (1 : Int32)), .val (.int n), .val (.int pp), .val (.int qq), .val (.ref b22), .val (.ref b32)] [(.int qq), (.ref b32)])) (fun t kt => ?_) ?_
    · show Steps p.tables e below (T39.setTop (mkF m 215 #[.val (.int md), .val (.int pk), .val (.int cd), .val (.int pb), .val (.int (1 : Int32)), .val (.int n), .val (.int pp), .val (.int qq), .val (.ref b22), .val (.ref b32)] [])) _
      refine XS.aload X39.here hx rfl (hb hby at_215) rfl rfl ?_
      refine XS.iload X39.here hx rfl (hb hby at_217) rfl ?_
      exact kt
    obtain ⟨cq41, kq41, q41a, q41b, q41c⟩ := isOf hZ rfl o39_0
    obtain ⟨_, _, ⟨T41, L41, k41, n41⟩, -, X41, ⟨Lc41, hQ41, l41, y41, z41⟩, st41⟩ := X39.virtualBack hx (y := (⟨"dev/chainlatch/bucket/Serials", "number", "(I)V"⟩ : MethodName)) (z := (⟨"dev/chainlatch/bucket/Serials", "number", "(I)V"⟩ : MethodName)) hown (mvT hZ (hw _ (List.mem_of_getElem? (i := 52) rfl))) (mvT hZ (hw _ (List.mem_of_getElem? (i := 53) rfl))) (notFace_of_selects (args := #[]) (mvT hZ (hw _ (List.mem_of_getElem? (i := 55) rfl)))) (mvT hZ (hw _ (List.mem_of_getElem? (i := 55) rfl))) (mvT hZ (hw _ (List.mem_of_getElem? (i := 54) rfl))) (by decide) (backOf (W := 0) (rmNu l Z a0 hw [] b32 qq B36 ((n.toInt64) + (1 : Int64)) n (own_upL own_idL pp (n.toInt64)) T39.heap n0 Z40 o39_0 o39_1 o39_2 o39_3 g_b32 g_B36 ne_b32_B36 Hq.1 Hq.2) hZ (hw _ (List.mem_of_getElem? (i := 56) rfl)) (hw _ (List.mem_of_getElem? (i := 5) rfl)) (by decide) (by decide)) q41a q41c (g := (mkF m 219 #[.val (.int md), .val (.int pk), .val (.int cd), .val (.int pb), .val (.int (1 : Int32)), .val (.int n), .val (.int pp), .val (.int qq), .val (.ref b22), .val (.ref b32)] [(.int qq), (.ref b32)])) rfl (by rw [hml]; rfl) (Steps.refl _) (argsL := [(.int qq)]) (rest := []) (lenOf pd__28I_29V rfl) rfl (by show 2 * 0 + _ ≤ _; exact Nat.le_of_eq rfl) (hb hby at_219) (fun _ _ => ⟨rfl, rfl, (by decide : 3 + 0 ≤ _), (by decide : 11 + 0 ≤ _)⟩)
    dsimp only [Pt.U, Pt.locs, Pt.cells, Pt.slots] at X41 l41 y41 z41 st41 hQ41
    obtain ⟨rfl, N41q, K41, o41_0, o41_1, o41_2, o41_3⟩ := hQ41
    have Z42 : n0 ≤ T41.heap.size := Nat.le_trans Z40 K41.1
    have Z42h : h0.size ≤ T41.heap.size := Nat.le_trans Z40h K41.1
    obtain ⟨lc41, X41, N41⟩ := own_pack X41 l41 y41 z41 N39 N41q (C := 3) (S' := 11) rfl rfl
    refine own_thr (a := T41.setTop (mkF m 222 #[.val (.int md), .val (.int pk), .val (.int cd), .val (.int pb), .val (.int (1 : Int32)), .val (.int n), .val (.int pp), .val (.int qq), .val (.ref b22), .val (.ref b32)] [])) (fun t kt => st41.trans kt) ?_
    refine own_thr (a := T41.setTop (mkF m 226 #[.val (.int md), .val (.int pk), .val (.int cd), .val (.int pb), .val (.int (1 : Int32)), .val (.int n), .val (.int pp), .val (.int qq), .val (.ref b22), .val (.ref b32)] [(.ref b22), (.ref b32)])) (fun t kt => ?_) ?_
    · show Steps p.tables e below (T41.setTop (mkF m 222 #[.val (.int md), .val (.int pk), .val (.int cd), .val (.int pb), .val (.int (1 : Int32)), .val (.int n), .val (.int pp), .val (.int qq), .val (.ref b22), .val (.ref b32)] [])) _
      refine XS.aload X41.here hx rfl (hb hby at_222) rfl rfl ?_
      refine XS.aload X41.here hx rfl (hb hby at_224) rfl rfl ?_
      exact kt
    have c44 := (((((V30.ext E32).keep K34 (ninS ne_b22_b32 nin0)).keep K36 (ninS ne_b22_b32 nin0)).keep K39 (ninS ne_b22_b32 (ninS ne_b22_B36 nin0))).keep K41 (ninS ne_b22_b32 (ninS ne_b22_B36 nin0)))
    obtain ⟨cq43, kq43, q43a, q43b, q43c⟩ := isOf hZ rfl o41_0
    obtain ⟨_, _, ⟨T43, L43, k43, n43⟩, -, X43, ⟨Lc43, hQ43, l43, y43, z43⟩, st43⟩ := X41.virtualBack hx (y := (⟨"dev/chainlatch/bucket/Serials", "remap", "([I)V"⟩ : MethodName)) (z := (⟨"dev/chainlatch/bucket/Serials", "remap", "([I)V"⟩ : MethodName)) hown (mvT hZ (hw _ (List.mem_of_getElem? (i := 14) rfl))) (mvT hZ (hw _ (List.mem_of_getElem? (i := 15) rfl))) (notFace_of_selects (args := #[]) (mvT hZ (hw _ (List.mem_of_getElem? (i := 17) rfl)))) (mvT hZ (hw _ (List.mem_of_getElem? (i := 17) rfl))) (mvT hZ (hw _ (List.mem_of_getElem? (i := 16) rfl))) (by decide) (backOf (W := 0) (rmR l Z a0 hw [] b32 b22 B36 n (own_upL (own_upL own_idL pp (n.toInt64)) qq ((n.toInt64) + (1 : Int64))) k22 r0 r1 r2 r3 T41.heap n0 Z42 o41_0 o41_1 o41_3 c44 g_b32 hr0 hr1 hr2 hr3) hZ (hw _ (List.mem_of_getElem? (i := 18) rfl)) (hw _ (List.mem_of_getElem? (i := 5) rfl)) (by decide) (by decide)) q43a q43c (g := (mkF m 226 #[.val (.int md), .val (.int pk), .val (.int cd), .val (.int pb), .val (.int (1 : Int32)), .val (.int n), .val (.int pp), .val (.int qq), .val (.ref b22), .val (.ref b32)] [(.ref b22), (.ref b32)])) rfl (by rw [hml]; rfl) (Steps.refl _) (argsL := [(.ref b22)]) (rest := []) (lenOf pd__28_5bI_29V rfl) rfl (by show 2 * 0 + _ ≤ _; exact Nat.le_of_eq rfl) (hb hby at_226) (fun _ _ => ⟨rfl, rfl, (by decide : 3 + 1 ≤ _), (by decide : 11 + 4 ≤ _)⟩)
    dsimp only [Pt.U, Pt.locs, Pt.cells, Pt.slots] at X43 l43 y43 z43 st43 hQ43
    obtain ⟨F43, kF43, rfl, N43q, K43, o43_e, o43_b, o43_a, hB43⟩ := hQ43
    have ne_b22_F43 : b22 ≠ F43 := Nat.ne_of_lt (Nat.lt_of_lt_of_le c44.lt hB43)
    have ne_b32_F43 : b32 ≠ F43 := Nat.ne_of_lt (Nat.lt_of_lt_of_le o41_0.lt hB43)
    have ne_B36_F43 : B36 ≠ F43 := Nat.ne_of_lt (Nat.lt_of_lt_of_le o41_3.lt hB43)
    have Z45 : n0 ≤ T43.heap.size := Nat.le_trans Z42 K43.1
    have Z45h : h0.size ≤ T43.heap.size := Nat.le_trans Z42h K43.1
    obtain ⟨lc43, X43, N43⟩ := own_pack X43 l43 y43 z43 N41 N43q (C := 4) (S' := 15) rfl rfl
    refine own_thr (a := T43.setTop (mkF m 229 #[.val (.int md), .val (.int pk), .val (.int cd), .val (.int pb), .val (.int (1 : Int32)), .val (.int n), .val (.int pp), .val (.int qq), .val (.ref b22), .val (.ref b32)] [])) (fun t kt => st43.trans kt) ?_
    refine own_thr (a := T43.setTop (mkF m 232 #[.val (.int md), .val (.int pk), .val (.int cd), .val (.int pb), .val (.int (1 : Int32)), .val (.int n), .val (.int pp), .val (.int qq), .val (.ref b22), .val (.ref b32)] [(.int (0 : Int32)), (.ref b32)])) (fun t kt => ?_) ?_
    · show Steps p.tables e below (T43.setTop (mkF m 229 #[.val (.int md), .val (.int pk), .val (.int cd), .val (.int pb), .val (.int (1 : Int32)), .val (.int n), .val (.int pp), .val (.int qq), .val (.ref b22), .val (.ref b32)] [])) _
      refine XS.aload X43.here hx rfl (hb hby at_229) rfl rfl ?_
      refine XS.iconst X43.here hx rfl (hb hby at_231) ?_
      exact kt
    obtain ⟨cq46, kq46, q46a, q46b, q46c⟩ := isOf hZ rfl o43_e
    obtain ⟨_, _, ⟨T46, L46, k46, n46⟩, -, X46, ⟨Lc46, hQ46, l46, y46, z46⟩, st46⟩ := X43.virtualBack hx (y := (⟨"dev/chainlatch/bucket/Serials", "serialAt", "(I)J"⟩ : MethodName)) (z := (⟨"dev/chainlatch/bucket/Serials", "serialAt", "(I)J"⟩ : MethodName)) hown (mvT hZ (hw _ (List.mem_of_getElem? (i := 21) rfl))) (mvT hZ (hw _ (List.mem_of_getElem? (i := 22) rfl))) (notFace_of_selects (args := #[]) (mvT hZ (hw _ (List.mem_of_getElem? (i := 24) rfl)))) (mvT hZ (hw _ (List.mem_of_getElem? (i := 24) rfl))) (mvT hZ (hw _ (List.mem_of_getElem? (i := 23) rfl))) (by decide) (backOf (W := 0) (rmS0 l Z a0 hw [] b32 F43 kF43 (own_o (own_upL (own_upL own_idL pp (n.toInt64)) qq ((n.toInt64) + (1 : Int64))) r0) (own_o (own_upL (own_upL own_idL pp (n.toInt64)) qq ((n.toInt64) + (1 : Int64))) r1) (own_o (own_upL (own_upL own_idL pp (n.toInt64)) qq ((n.toInt64) + (1 : Int64))) r2) (own_o (own_upL (own_upL own_idL pp (n.toInt64)) qq ((n.toInt64) + (1 : Int64))) r3) T43.heap n0 Z45 o43_b o43_a) hZ (hw _ (List.mem_of_getElem? (i := 25) rfl)) (hw _ (List.mem_of_getElem? (i := 5) rfl)) (by decide) (by decide)) q46a q46c (g := (mkF m 232 #[.val (.int md), .val (.int pk), .val (.int cd), .val (.int pb), .val (.int (1 : Int32)), .val (.int n), .val (.int pp), .val (.int qq), .val (.ref b22), .val (.ref b32)] [(.int (0 : Int32)), (.ref b32)])) rfl (by rw [hml]; rfl) (Steps.refl _) (argsL := [(.int (0 : Int32))]) (rest := []) (lenOf pd__28I_29J rfl) rfl (by show 2 * 0 + _ ≤ _; exact Nat.le_of_eq rfl) (hb hby at_232) (fun _ _ => ⟨rfl, rfl, (by decide : 4 + 0 ≤ _), (by decide : 15 + 0 ≤ _)⟩)
    dsimp only [Pt.U, Pt.locs, Pt.cells, Pt.slots] at X46 l46 y46 z46 st46 hQ46
    obtain ⟨rfl, N46q, e46⟩ := hQ46
    obtain ⟨lc46, X46, N46⟩ := own_pack X46 l46 y46 z46 N43 N46q (C := 4) (S' := 15) rfl rfl
    refine own_thr (a := T46.setTop (mkF m 235 #[.val (.int md), .val (.int pk), .val (.int cd), .val (.int pb), .val (.int (1 : Int32)), .val (.int n), .val (.int pp), .val (.int qq), .val (.ref b22), .val (.ref b32)] [(.long (own_o (own_upL (own_upL own_idL pp (n.toInt64)) qq ((n.toInt64) + (1 : Int64))) r0))])) (fun t kt => st46.trans kt) ?_
    refine own_thr (a := T46.setTop (mkF m 238 #[.val (.int md), .val (.int pk), .val (.int cd), .val (.int pb), .val (.int (1 : Int32)), .val (.int n), .val (.int pp), .val (.int qq), .val (.ref b22), .val (.ref b32)] [(.int (0 : Int32)), (.ref b22), (.long (own_o (own_upL (own_upL own_idL pp (n.toInt64)) qq ((n.toInt64) + (1 : Int64))) r0))])) (fun t kt => ?_) ?_
    · show Steps p.tables e below (T46.setTop (mkF m 235 #[.val (.int md), .val (.int pk), .val (.int cd), .val (.int pb), .val (.int (1 : Int32)), .val (.int n), .val (.int pp), .val (.int qq), .val (.ref b22), .val (.ref b32)] [(.long (own_o (own_upL (own_upL own_idL pp (n.toInt64)) qq ((n.toInt64) + (1 : Int64))) r0))])) _
      refine XS.aload X46.here hx rfl (hb hby at_235) rfl rfl ?_
      refine XS.iconst X46.here hx rfl (hb hby at_237) ?_
      exact kt
    obtain ⟨cl47, Ar47, -, S47, M47, H47, -⟩ := id (c44.keep K43 (ninS ne_b22_b32 nin0))
    have hin47 : ¬ ((0 : Int32) < 0 ∨ cl47.slots.size ≤ ((0 : Int32)).toNatClampNeg) := inb_of S47 ⟨by decide, by decide⟩
    have hat47 : cl47.slots[((0 : Int32)).toNatClampNeg]? = some (.int r0) := Has.at H47 hin47 rfl
    refine own_thr (a := T46.setTop (mkF m 245 #[.val (.int md), .val (.int pk), .val (.int cd), .val (.int pb), .val (.int (1 : Int32)), .val (.int n), .val (.int pp), .val (.int qq), .val (.ref b22), .val (.ref b32)] [(.int qq), (.int pp), (.int n), (.int r0), (.long (own_o (own_upL (own_upL own_idL pp (n.toInt64)) qq ((n.toInt64) + (1 : Int64))) r0))])) (fun t kt => ?_) ?_
    · show Steps p.tables e below (T46.setTop (mkF m 238 #[.val (.int md), .val (.int pk), .val (.int cd), .val (.int pb), .val (.int (1 : Int32)), .val (.int n), .val (.int pp), .val (.int qq), .val (.ref b22), .val (.ref b32)] [(.int (0 : Int32)), (.ref b22), (.long (own_o (own_upL (own_upL own_idL pp (n.toInt64)) qq ((n.toInt64) + (1 : Int64))) r0))])) _
      refine X46.iaload hx (j := (0 : Int32)) (v := (.int r0)) (by rw [e46]; exact Ar47.1) (State.isArrayOf_alike hZ.alike Ar47.2.1) Ar47.2.2 hin47 hat47 (g := (mkF m 238 #[.val (.int md), .val (.int pk), .val (.int cd), .val (.int pb), .val (.int (1 : Int32)), .val (.int n), .val (.int pp), .val (.int qq), .val (.ref b22), .val (.ref b32)] [(.int (0 : Int32)), (.ref b22), (.long (own_o (own_upL (own_upL own_idL pp (n.toInt64)) qq ((n.toInt64) + (1 : Int64))) r0))])) rfl rfl (hb hby at_238) _ ?_
      refine XS.iload X46.here hx rfl (hb hby at_239) rfl ?_
      refine XS.iload X46.here hx rfl (hb hby at_241) rfl ?_
      refine XS.iload X46.here hx rfl (hb hby at_243) rfl ?_
      exact kt
    obtain ⟨_, _, ⟨T48, L48, k48, n48⟩, -, X48, ⟨Lc48, hQ48, l48, y48, z48⟩, st48⟩ := Jvm.LawKit.callS X46 hx (y := (⟨"dev/chainlatch/bucket/SerialsRemapPinLaw", "expected", "(IIII)J"⟩ : MethodName)) hown (mvT hZ (hw _ (List.mem_of_getElem? (i := 57) rfl))) (mvT hZ (hw _ (List.mem_of_getElem? (i := 58) rfl))) (mvT hZ (hw _ (List.mem_of_getElem? (i := 59) rfl))) (mvT hZ (hw _ (List.mem_of_getElem? (i := 60) rfl))) (by decide) (backOf (W := 2) (rmE l Z a0 hw [] r0 n pp qq T43.heap n0 Z45) hZ (hw _ (List.mem_of_getElem? (i := 60) rfl)) (hw _ (List.mem_of_getElem? (i := 59) rfl)) (by decide) (by decide)) (g := (mkF m 245 #[.val (.int md), .val (.int pk), .val (.int cd), .val (.int pb), .val (.int (1 : Int32)), .val (.int n), .val (.int pp), .val (.int qq), .val (.ref b22), .val (.ref b32)] [(.int qq), (.int pp), (.int n), (.int r0), (.long (own_o (own_upL (own_upL own_idL pp (n.toInt64)) qq ((n.toInt64) + (1 : Int64))) r0))])) rfl (by rw [hml]; rfl) (argsL := [(.int r0), (.int n), (.int pp), (.int qq)]) (rest := [(.long (own_o (own_upL (own_upL own_idL pp (n.toInt64)) qq ((n.toInt64) + (1 : Int64))) r0))]) (lenOf pd__28IIII_29J rfl) rfl (by show 2 * 0 + _ ≤ _; exact Nat.le_of_eq rfl) (hb hby at_245) (fun _ _ => ⟨rfl, e46, (by decide : 4 + 0 ≤ _), (by decide : 15 + 0 ≤ _)⟩)
    dsimp only [Pt.U, Pt.locs, Pt.cells, Pt.slots] at X48 l48 y48 z48 st48 hQ48
    obtain ⟨rfl, N48q, e48⟩ := hQ48
    obtain ⟨lc48, X48, N48⟩ := own_pack X48 l48 y48 z48 N46 N48q (C := 4) (S' := 15) rfl rfl
    refine own_thr (a := T48.setTop (mkF m 248 #[.val (.int md), .val (.int pk), .val (.int cd), .val (.int pb), .val (.int (1 : Int32)), .val (.int n), .val (.int pp), .val (.int qq), .val (.ref b22), .val (.ref b32)] [(.long (f_rmE r0 n pp qq)), (.long (own_o (own_upL (own_upL own_idL pp (n.toInt64)) qq ((n.toInt64) + (1 : Int64))) r0))])) (fun t kt => st48 t kt) ?_
    refine own_thr (a := T48.setTop (mkF m 255 #[.val (.int md), .val (.int pk), .val (.int cd), .val (.int pb), .val (.int (1 : Int32)), .val (.int n), .val (.int pp), .val (.int qq), .val (.ref b22), .val (.ref b32)] [(.int (1 : Int32)), (.ref b32)])) (fun t kt => ?_) ?_
    · show Steps p.tables e below (T48.setTop (mkF m 248 #[.val (.int md), .val (.int pk), .val (.int cd), .val (.int pb), .val (.int (1 : Int32)), .val (.int n), .val (.int pp), .val (.int qq), .val (.ref b22), .val (.ref b32)] [(.long (f_rmE r0 n pp qq)), (.long (own_o (own_upL (own_upL own_idL pp (n.toInt64)) qq ((n.toInt64) + (1 : Int64))) r0))])) _
      refine XS.lcmp X48.here hx rfl (hb hby at_248) rfl ?_
      refine XS.ifNo X48.here hx rfl (hb hby at_249) rfl ((if0 _ _).trans (teq ((lw_eq (own_o (own_upL (own_upL own_idL pp (n.toInt64)) qq ((n.toInt64) + (1 : Int64))) r0) (f_rmE r0 n pp qq)).mpr (own_fin r0 n pp qq))).2) ?_
      refine XS.aload X48.here hx rfl (hb hby at_252) rfl rfl ?_
      refine XS.iconst X48.here hx rfl (hb hby at_254) ?_
      exact kt
    obtain ⟨cq49, kq49, q49a, q49b, q49c⟩ := isOf hZ e48 o43_e
    obtain ⟨_, _, ⟨T49, L49, k49, n49⟩, -, X49, ⟨Lc49, hQ49, l49, y49, z49⟩, st49⟩ := X48.virtualBack hx (y := (⟨"dev/chainlatch/bucket/Serials", "serialAt", "(I)J"⟩ : MethodName)) (z := (⟨"dev/chainlatch/bucket/Serials", "serialAt", "(I)J"⟩ : MethodName)) hown (mvT hZ (hw _ (List.mem_of_getElem? (i := 21) rfl))) (mvT hZ (hw _ (List.mem_of_getElem? (i := 22) rfl))) (notFace_of_selects (args := #[]) (mvT hZ (hw _ (List.mem_of_getElem? (i := 24) rfl)))) (mvT hZ (hw _ (List.mem_of_getElem? (i := 24) rfl))) (mvT hZ (hw _ (List.mem_of_getElem? (i := 23) rfl))) (by decide) (backOf (W := 0) (rmS1 l Z a0 hw [] b32 F43 kF43 (own_o (own_upL (own_upL own_idL pp (n.toInt64)) qq ((n.toInt64) + (1 : Int64))) r0) (own_o (own_upL (own_upL own_idL pp (n.toInt64)) qq ((n.toInt64) + (1 : Int64))) r1) (own_o (own_upL (own_upL own_idL pp (n.toInt64)) qq ((n.toInt64) + (1 : Int64))) r2) (own_o (own_upL (own_upL own_idL pp (n.toInt64)) qq ((n.toInt64) + (1 : Int64))) r3) T43.heap n0 Z45 o43_b o43_a) hZ (hw _ (List.mem_of_getElem? (i := 25) rfl)) (hw _ (List.mem_of_getElem? (i := 5) rfl)) (by decide) (by decide)) q49a q49c (g := (mkF m 255 #[.val (.int md), .val (.int pk), .val (.int cd), .val (.int pb), .val (.int (1 : Int32)), .val (.int n), .val (.int pp), .val (.int qq), .val (.ref b22), .val (.ref b32)] [(.int (1 : Int32)), (.ref b32)])) rfl (by rw [hml]; rfl) (Steps.refl _) (argsL := [(.int (1 : Int32))]) (rest := []) (lenOf pd__28I_29J rfl) rfl (by show 2 * 0 + _ ≤ _; exact Nat.le_of_eq rfl) (hb hby at_255) (fun _ _ => ⟨rfl, e48, (by decide : 4 + 0 ≤ _), (by decide : 15 + 0 ≤ _)⟩)
    dsimp only [Pt.U, Pt.locs, Pt.cells, Pt.slots] at X49 l49 y49 z49 st49 hQ49
    obtain ⟨rfl, N49q, e49⟩ := hQ49
    obtain ⟨lc49, X49, N49⟩ := own_pack X49 l49 y49 z49 N48 N49q (C := 4) (S' := 15) rfl rfl
    refine own_thr (a := T49.setTop (mkF m 258 #[.val (.int md), .val (.int pk), .val (.int cd), .val (.int pb), .val (.int (1 : Int32)), .val (.int n), .val (.int pp), .val (.int qq), .val (.ref b22), .val (.ref b32)] [(.long (own_o (own_upL (own_upL own_idL pp (n.toInt64)) qq ((n.toInt64) + (1 : Int64))) r1))])) (fun t kt => st49.trans kt) ?_
    refine own_thr (a := T49.setTop (mkF m 261 #[.val (.int md), .val (.int pk), .val (.int cd), .val (.int pb), .val (.int (1 : Int32)), .val (.int n), .val (.int pp), .val (.int qq), .val (.ref b22), .val (.ref b32)] [(.int (1 : Int32)), (.ref b22), (.long (own_o (own_upL (own_upL own_idL pp (n.toInt64)) qq ((n.toInt64) + (1 : Int64))) r1))])) (fun t kt => ?_) ?_
    · show Steps p.tables e below (T49.setTop (mkF m 258 #[.val (.int md), .val (.int pk), .val (.int cd), .val (.int pb), .val (.int (1 : Int32)), .val (.int n), .val (.int pp), .val (.int qq), .val (.ref b22), .val (.ref b32)] [(.long (own_o (own_upL (own_upL own_idL pp (n.toInt64)) qq ((n.toInt64) + (1 : Int64))) r1))])) _
      refine XS.aload X49.here hx rfl (hb hby at_258) rfl rfl ?_
      refine XS.iconst X49.here hx rfl (hb hby at_260) ?_
      exact kt
    obtain ⟨cl50, Ar50, -, S50, M50, H50, -⟩ := id (c44.keep K43 (ninS ne_b22_b32 nin0))
    have hin50 : ¬ ((1 : Int32) < 0 ∨ cl50.slots.size ≤ ((1 : Int32)).toNatClampNeg) := inb_of S50 ⟨by decide, by decide⟩
    have hat50 : cl50.slots[((1 : Int32)).toNatClampNeg]? = some (.int r1) := Has.at H50 hin50 rfl
    refine own_thr (a := T49.setTop (mkF m 268 #[.val (.int md), .val (.int pk), .val (.int cd), .val (.int pb), .val (.int (1 : Int32)), .val (.int n), .val (.int pp), .val (.int qq), .val (.ref b22), .val (.ref b32)] [(.int qq), (.int pp), (.int n), (.int r1), (.long (own_o (own_upL (own_upL own_idL pp (n.toInt64)) qq ((n.toInt64) + (1 : Int64))) r1))])) (fun t kt => ?_) ?_
    · show Steps p.tables e below (T49.setTop (mkF m 261 #[.val (.int md), .val (.int pk), .val (.int cd), .val (.int pb), .val (.int (1 : Int32)), .val (.int n), .val (.int pp), .val (.int qq), .val (.ref b22), .val (.ref b32)] [(.int (1 : Int32)), (.ref b22), (.long (own_o (own_upL (own_upL own_idL pp (n.toInt64)) qq ((n.toInt64) + (1 : Int64))) r1))])) _
      refine X49.iaload hx (j := (1 : Int32)) (v := (.int r1)) (by rw [e49]; exact Ar50.1) (State.isArrayOf_alike hZ.alike Ar50.2.1) Ar50.2.2 hin50 hat50 (g := (mkF m 261 #[.val (.int md), .val (.int pk), .val (.int cd), .val (.int pb), .val (.int (1 : Int32)), .val (.int n), .val (.int pp), .val (.int qq), .val (.ref b22), .val (.ref b32)] [(.int (1 : Int32)), (.ref b22), (.long (own_o (own_upL (own_upL own_idL pp (n.toInt64)) qq ((n.toInt64) + (1 : Int64))) r1))])) rfl rfl (hb hby at_261) _ ?_
      refine XS.iload X49.here hx rfl (hb hby at_262) rfl ?_
      refine XS.iload X49.here hx rfl (hb hby at_264) rfl ?_
      refine XS.iload X49.here hx rfl (hb hby at_266) rfl ?_
      exact kt
    obtain ⟨_, _, ⟨T51, L51, k51, n51⟩, -, X51, ⟨Lc51, hQ51, l51, y51, z51⟩, st51⟩ := Jvm.LawKit.callS X49 hx (y := (⟨"dev/chainlatch/bucket/SerialsRemapPinLaw", "expected", "(IIII)J"⟩ : MethodName)) hown (mvT hZ (hw _ (List.mem_of_getElem? (i := 57) rfl))) (mvT hZ (hw _ (List.mem_of_getElem? (i := 58) rfl))) (mvT hZ (hw _ (List.mem_of_getElem? (i := 59) rfl))) (mvT hZ (hw _ (List.mem_of_getElem? (i := 60) rfl))) (by decide) (backOf (W := 2) (rmE l Z a0 hw [] r1 n pp qq T43.heap n0 Z45) hZ (hw _ (List.mem_of_getElem? (i := 60) rfl)) (hw _ (List.mem_of_getElem? (i := 59) rfl)) (by decide) (by decide)) (g := (mkF m 268 #[.val (.int md), .val (.int pk), .val (.int cd), .val (.int pb), .val (.int (1 : Int32)), .val (.int n), .val (.int pp), .val (.int qq), .val (.ref b22), .val (.ref b32)] [(.int qq), (.int pp), (.int n), (.int r1), (.long (own_o (own_upL (own_upL own_idL pp (n.toInt64)) qq ((n.toInt64) + (1 : Int64))) r1))])) rfl (by rw [hml]; rfl) (argsL := [(.int r1), (.int n), (.int pp), (.int qq)]) (rest := [(.long (own_o (own_upL (own_upL own_idL pp (n.toInt64)) qq ((n.toInt64) + (1 : Int64))) r1))]) (lenOf pd__28IIII_29J rfl) rfl (by show 2 * 0 + _ ≤ _; exact Nat.le_of_eq rfl) (hb hby at_268) (fun _ _ => ⟨rfl, e49, (by decide : 4 + 0 ≤ _), (by decide : 15 + 0 ≤ _)⟩)
    dsimp only [Pt.U, Pt.locs, Pt.cells, Pt.slots] at X51 l51 y51 z51 st51 hQ51
    obtain ⟨rfl, N51q, e51⟩ := hQ51
    obtain ⟨lc51, X51, N51⟩ := own_pack X51 l51 y51 z51 N49 N51q (C := 4) (S' := 15) rfl rfl
    refine own_thr (a := T51.setTop (mkF m 271 #[.val (.int md), .val (.int pk), .val (.int cd), .val (.int pb), .val (.int (1 : Int32)), .val (.int n), .val (.int pp), .val (.int qq), .val (.ref b22), .val (.ref b32)] [(.long (f_rmE r1 n pp qq)), (.long (own_o (own_upL (own_upL own_idL pp (n.toInt64)) qq ((n.toInt64) + (1 : Int64))) r1))])) (fun t kt => st51 t kt) ?_
    refine own_thr (a := T51.setTop (mkF m 278 #[.val (.int md), .val (.int pk), .val (.int cd), .val (.int pb), .val (.int (1 : Int32)), .val (.int n), .val (.int pp), .val (.int qq), .val (.ref b22), .val (.ref b32)] [(.int (2 : Int32)), (.ref b32)])) (fun t kt => ?_) ?_
    · show Steps p.tables e below (T51.setTop (mkF m 271 #[.val (.int md), .val (.int pk), .val (.int cd), .val (.int pb), .val (.int (1 : Int32)), .val (.int n), .val (.int pp), .val (.int qq), .val (.ref b22), .val (.ref b32)] [(.long (f_rmE r1 n pp qq)), (.long (own_o (own_upL (own_upL own_idL pp (n.toInt64)) qq ((n.toInt64) + (1 : Int64))) r1))])) _
      refine XS.lcmp X51.here hx rfl (hb hby at_271) rfl ?_
      refine XS.ifNo X51.here hx rfl (hb hby at_272) rfl ((if0 _ _).trans (teq ((lw_eq (own_o (own_upL (own_upL own_idL pp (n.toInt64)) qq ((n.toInt64) + (1 : Int64))) r1) (f_rmE r1 n pp qq)).mpr (own_fin r1 n pp qq))).2) ?_
      refine XS.aload X51.here hx rfl (hb hby at_275) rfl rfl ?_
      refine XS.iconst X51.here hx rfl (hb hby at_277) ?_
      exact kt
    obtain ⟨cq52, kq52, q52a, q52b, q52c⟩ := isOf hZ e51 o43_e
    obtain ⟨_, _, ⟨T52, L52, k52, n52⟩, -, X52, ⟨Lc52, hQ52, l52, y52, z52⟩, st52⟩ := X51.virtualBack hx (y := (⟨"dev/chainlatch/bucket/Serials", "serialAt", "(I)J"⟩ : MethodName)) (z := (⟨"dev/chainlatch/bucket/Serials", "serialAt", "(I)J"⟩ : MethodName)) hown (mvT hZ (hw _ (List.mem_of_getElem? (i := 21) rfl))) (mvT hZ (hw _ (List.mem_of_getElem? (i := 22) rfl))) (notFace_of_selects (args := #[]) (mvT hZ (hw _ (List.mem_of_getElem? (i := 24) rfl)))) (mvT hZ (hw _ (List.mem_of_getElem? (i := 24) rfl))) (mvT hZ (hw _ (List.mem_of_getElem? (i := 23) rfl))) (by decide) (backOf (W := 0) (rmS2 l Z a0 hw [] b32 F43 kF43 (own_o (own_upL (own_upL own_idL pp (n.toInt64)) qq ((n.toInt64) + (1 : Int64))) r0) (own_o (own_upL (own_upL own_idL pp (n.toInt64)) qq ((n.toInt64) + (1 : Int64))) r1) (own_o (own_upL (own_upL own_idL pp (n.toInt64)) qq ((n.toInt64) + (1 : Int64))) r2) (own_o (own_upL (own_upL own_idL pp (n.toInt64)) qq ((n.toInt64) + (1 : Int64))) r3) T43.heap n0 Z45 o43_b o43_a) hZ (hw _ (List.mem_of_getElem? (i := 25) rfl)) (hw _ (List.mem_of_getElem? (i := 5) rfl)) (by decide) (by decide)) q52a q52c (g := (mkF m 278 #[.val (.int md), .val (.int pk), .val (.int cd), .val (.int pb), .val (.int (1 : Int32)), .val (.int n), .val (.int pp), .val (.int qq), .val (.ref b22), .val (.ref b32)] [(.int (2 : Int32)), (.ref b32)])) rfl (by rw [hml]; rfl) (Steps.refl _) (argsL := [(.int (2 : Int32))]) (rest := []) (lenOf pd__28I_29J rfl) rfl (by show 2 * 0 + _ ≤ _; exact Nat.le_of_eq rfl) (hb hby at_278) (fun _ _ => ⟨rfl, e51, (by decide : 4 + 0 ≤ _), (by decide : 15 + 0 ≤ _)⟩)
    dsimp only [Pt.U, Pt.locs, Pt.cells, Pt.slots] at X52 l52 y52 z52 st52 hQ52
    obtain ⟨rfl, N52q, e52⟩ := hQ52
    obtain ⟨lc52, X52, N52⟩ := own_pack X52 l52 y52 z52 N51 N52q (C := 4) (S' := 15) rfl rfl
    refine own_thr (a := T52.setTop (mkF m 281 #[.val (.int md), .val (.int pk), .val (.int cd), .val (.int pb), .val (.int (1 : Int32)), .val (.int n), .val (.int pp), .val (.int qq), .val (.ref b22), .val (.ref b32)] [(.long (own_o (own_upL (own_upL own_idL pp (n.toInt64)) qq ((n.toInt64) + (1 : Int64))) r2))])) (fun t kt => st52.trans kt) ?_
    refine own_thr (a := T52.setTop (mkF m 284 #[.val (.int md), .val (.int pk), .val (.int cd), .val (.int pb), .val (.int (1 : Int32)), .val (.int n), .val (.int pp), .val (.int qq), .val (.ref b22), .val (.ref b32)] [(.int (2 : Int32)), (.ref b22), (.long (own_o (own_upL (own_upL own_idL pp (n.toInt64)) qq ((n.toInt64) + (1 : Int64))) r2))])) (fun t kt => ?_) ?_
    · show Steps p.tables e below (T52.setTop (mkF m 281 #[.val (.int md), .val (.int pk), .val (.int cd), .val (.int pb), .val (.int (1 : Int32)), .val (.int n), .val (.int pp), .val (.int qq), .val (.ref b22), .val (.ref b32)] [(.long (own_o (own_upL (own_upL own_idL pp (n.toInt64)) qq ((n.toInt64) + (1 : Int64))) r2))])) _
      refine XS.aload X52.here hx rfl (hb hby at_281) rfl rfl ?_
      refine XS.iconst X52.here hx rfl (hb hby at_283) ?_
      exact kt
    obtain ⟨cl53, Ar53, -, S53, M53, H53, -⟩ := id (c44.keep K43 (ninS ne_b22_b32 nin0))
    have hin53 : ¬ ((2 : Int32) < 0 ∨ cl53.slots.size ≤ ((2 : Int32)).toNatClampNeg) := inb_of S53 ⟨by decide, by decide⟩
    have hat53 : cl53.slots[((2 : Int32)).toNatClampNeg]? = some (.int r2) := Has.at H53 hin53 rfl
    refine own_thr (a := T52.setTop (mkF m 291 #[.val (.int md), .val (.int pk), .val (.int cd), .val (.int pb), .val (.int (1 : Int32)), .val (.int n), .val (.int pp), .val (.int qq), .val (.ref b22), .val (.ref b32)] [(.int qq), (.int pp), (.int n), (.int r2), (.long (own_o (own_upL (own_upL own_idL pp (n.toInt64)) qq ((n.toInt64) + (1 : Int64))) r2))])) (fun t kt => ?_) ?_
    · show Steps p.tables e below (T52.setTop (mkF m 284 #[.val (.int md), .val (.int pk), .val (.int cd), .val (.int pb), .val (.int (1 : Int32)), .val (.int n), .val (.int pp), .val (.int qq), .val (.ref b22), .val (.ref b32)] [(.int (2 : Int32)), (.ref b22), (.long (own_o (own_upL (own_upL own_idL pp (n.toInt64)) qq ((n.toInt64) + (1 : Int64))) r2))])) _
      refine X52.iaload hx (j := (2 : Int32)) (v := (.int r2)) (by rw [e52]; exact Ar53.1) (State.isArrayOf_alike hZ.alike Ar53.2.1) Ar53.2.2 hin53 hat53 (g := (mkF m 284 #[.val (.int md), .val (.int pk), .val (.int cd), .val (.int pb), .val (.int (1 : Int32)), .val (.int n), .val (.int pp), .val (.int qq), .val (.ref b22), .val (.ref b32)] [(.int (2 : Int32)), (.ref b22), (.long (own_o (own_upL (own_upL own_idL pp (n.toInt64)) qq ((n.toInt64) + (1 : Int64))) r2))])) rfl rfl (hb hby at_284) _ ?_
      refine XS.iload X52.here hx rfl (hb hby at_285) rfl ?_
      refine XS.iload X52.here hx rfl (hb hby at_287) rfl ?_
      refine XS.iload X52.here hx rfl (hb hby at_289) rfl ?_
      exact kt
    obtain ⟨_, _, ⟨T54, L54, k54, n54⟩, -, X54, ⟨Lc54, hQ54, l54, y54, z54⟩, st54⟩ := Jvm.LawKit.callS X52 hx (y := (⟨"dev/chainlatch/bucket/SerialsRemapPinLaw", "expected", "(IIII)J"⟩ : MethodName)) hown (mvT hZ (hw _ (List.mem_of_getElem? (i := 57) rfl))) (mvT hZ (hw _ (List.mem_of_getElem? (i := 58) rfl))) (mvT hZ (hw _ (List.mem_of_getElem? (i := 59) rfl))) (mvT hZ (hw _ (List.mem_of_getElem? (i := 60) rfl))) (by decide) (backOf (W := 2) (rmE l Z a0 hw [] r2 n pp qq T43.heap n0 Z45) hZ (hw _ (List.mem_of_getElem? (i := 60) rfl)) (hw _ (List.mem_of_getElem? (i := 59) rfl)) (by decide) (by decide)) (g := (mkF m 291 #[.val (.int md), .val (.int pk), .val (.int cd), .val (.int pb), .val (.int (1 : Int32)), .val (.int n), .val (.int pp), .val (.int qq), .val (.ref b22), .val (.ref b32)] [(.int qq), (.int pp), (.int n), (.int r2), (.long (own_o (own_upL (own_upL own_idL pp (n.toInt64)) qq ((n.toInt64) + (1 : Int64))) r2))])) rfl (by rw [hml]; rfl) (argsL := [(.int r2), (.int n), (.int pp), (.int qq)]) (rest := [(.long (own_o (own_upL (own_upL own_idL pp (n.toInt64)) qq ((n.toInt64) + (1 : Int64))) r2))]) (lenOf pd__28IIII_29J rfl) rfl (by show 2 * 0 + _ ≤ _; exact Nat.le_of_eq rfl) (hb hby at_291) (fun _ _ => ⟨rfl, e52, (by decide : 4 + 0 ≤ _), (by decide : 15 + 0 ≤ _)⟩)
    dsimp only [Pt.U, Pt.locs, Pt.cells, Pt.slots] at X54 l54 y54 z54 st54 hQ54
    obtain ⟨rfl, N54q, e54⟩ := hQ54
    obtain ⟨lc54, X54, N54⟩ := own_pack X54 l54 y54 z54 N52 N54q (C := 4) (S' := 15) rfl rfl
    refine own_thr (a := T54.setTop (mkF m 294 #[.val (.int md), .val (.int pk), .val (.int cd), .val (.int pb), .val (.int (1 : Int32)), .val (.int n), .val (.int pp), .val (.int qq), .val (.ref b22), .val (.ref b32)] [(.long (f_rmE r2 n pp qq)), (.long (own_o (own_upL (own_upL own_idL pp (n.toInt64)) qq ((n.toInt64) + (1 : Int64))) r2))])) (fun t kt => st54 t kt) ?_
    refine own_thr (a := T54.setTop (mkF m 301 #[.val (.int md), .val (.int pk), .val (.int cd), .val (.int pb), .val (.int (1 : Int32)), .val (.int n), .val (.int pp), .val (.int qq), .val (.ref b22), .val (.ref b32)] [(.int (3 : Int32)), (.ref b32)])) (fun t kt => ?_) ?_
    · show Steps p.tables e below (T54.setTop (mkF m 294 #[.val (.int md), .val (.int pk), .val (.int cd), .val (.int pb), .val (.int (1 : Int32)), .val (.int n), .val (.int pp), .val (.int qq), .val (.ref b22), .val (.ref b32)] [(.long (f_rmE r2 n pp qq)), (.long (own_o (own_upL (own_upL own_idL pp (n.toInt64)) qq ((n.toInt64) + (1 : Int64))) r2))])) _
      refine XS.lcmp X54.here hx rfl (hb hby at_294) rfl ?_
      refine XS.ifNo X54.here hx rfl (hb hby at_295) rfl ((if0 _ _).trans (teq ((lw_eq (own_o (own_upL (own_upL own_idL pp (n.toInt64)) qq ((n.toInt64) + (1 : Int64))) r2) (f_rmE r2 n pp qq)).mpr (own_fin r2 n pp qq))).2) ?_
      refine XS.aload X54.here hx rfl (hb hby at_298) rfl rfl ?_
      refine XS.iconst X54.here hx rfl (hb hby at_300) ?_
      exact kt
    obtain ⟨cq55, kq55, q55a, q55b, q55c⟩ := isOf hZ e54 o43_e
    obtain ⟨_, _, ⟨T55, L55, k55, n55⟩, -, X55, ⟨Lc55, hQ55, l55, y55, z55⟩, st55⟩ := X54.virtualBack hx (y := (⟨"dev/chainlatch/bucket/Serials", "serialAt", "(I)J"⟩ : MethodName)) (z := (⟨"dev/chainlatch/bucket/Serials", "serialAt", "(I)J"⟩ : MethodName)) hown (mvT hZ (hw _ (List.mem_of_getElem? (i := 21) rfl))) (mvT hZ (hw _ (List.mem_of_getElem? (i := 22) rfl))) (notFace_of_selects (args := #[]) (mvT hZ (hw _ (List.mem_of_getElem? (i := 24) rfl)))) (mvT hZ (hw _ (List.mem_of_getElem? (i := 24) rfl))) (mvT hZ (hw _ (List.mem_of_getElem? (i := 23) rfl))) (by decide) (backOf (W := 0) (rmS3 l Z a0 hw [] b32 F43 kF43 (own_o (own_upL (own_upL own_idL pp (n.toInt64)) qq ((n.toInt64) + (1 : Int64))) r0) (own_o (own_upL (own_upL own_idL pp (n.toInt64)) qq ((n.toInt64) + (1 : Int64))) r1) (own_o (own_upL (own_upL own_idL pp (n.toInt64)) qq ((n.toInt64) + (1 : Int64))) r2) (own_o (own_upL (own_upL own_idL pp (n.toInt64)) qq ((n.toInt64) + (1 : Int64))) r3) T43.heap n0 Z45 o43_b o43_a) hZ (hw _ (List.mem_of_getElem? (i := 25) rfl)) (hw _ (List.mem_of_getElem? (i := 5) rfl)) (by decide) (by decide)) q55a q55c (g := (mkF m 301 #[.val (.int md), .val (.int pk), .val (.int cd), .val (.int pb), .val (.int (1 : Int32)), .val (.int n), .val (.int pp), .val (.int qq), .val (.ref b22), .val (.ref b32)] [(.int (3 : Int32)), (.ref b32)])) rfl (by rw [hml]; rfl) (Steps.refl _) (argsL := [(.int (3 : Int32))]) (rest := []) (lenOf pd__28I_29J rfl) rfl (by show 2 * 0 + _ ≤ _; exact Nat.le_of_eq rfl) (hb hby at_301) (fun _ _ => ⟨rfl, e54, (by decide : 4 + 0 ≤ _), (by decide : 15 + 0 ≤ _)⟩)
    dsimp only [Pt.U, Pt.locs, Pt.cells, Pt.slots] at X55 l55 y55 z55 st55 hQ55
    obtain ⟨rfl, N55q, e55⟩ := hQ55
    obtain ⟨lc55, X55, N55⟩ := own_pack X55 l55 y55 z55 N54 N55q (C := 4) (S' := 15) rfl rfl
    refine own_thr (a := T55.setTop (mkF m 304 #[.val (.int md), .val (.int pk), .val (.int cd), .val (.int pb), .val (.int (1 : Int32)), .val (.int n), .val (.int pp), .val (.int qq), .val (.ref b22), .val (.ref b32)] [(.long (own_o (own_upL (own_upL own_idL pp (n.toInt64)) qq ((n.toInt64) + (1 : Int64))) r3))])) (fun t kt => st55.trans kt) ?_
    refine own_thr (a := T55.setTop (mkF m 307 #[.val (.int md), .val (.int pk), .val (.int cd), .val (.int pb), .val (.int (1 : Int32)), .val (.int n), .val (.int pp), .val (.int qq), .val (.ref b22), .val (.ref b32)] [(.int (3 : Int32)), (.ref b22), (.long (own_o (own_upL (own_upL own_idL pp (n.toInt64)) qq ((n.toInt64) + (1 : Int64))) r3))])) (fun t kt => ?_) ?_
    · show Steps p.tables e below (T55.setTop (mkF m 304 #[.val (.int md), .val (.int pk), .val (.int cd), .val (.int pb), .val (.int (1 : Int32)), .val (.int n), .val (.int pp), .val (.int qq), .val (.ref b22), .val (.ref b32)] [(.long (own_o (own_upL (own_upL own_idL pp (n.toInt64)) qq ((n.toInt64) + (1 : Int64))) r3))])) _
      refine XS.aload X55.here hx rfl (hb hby at_304) rfl rfl ?_
      refine XS.iconst X55.here hx rfl (hb hby at_306) ?_
      exact kt
    obtain ⟨cl56, Ar56, -, S56, M56, H56, -⟩ := id (c44.keep K43 (ninS ne_b22_b32 nin0))
    have hin56 : ¬ ((3 : Int32) < 0 ∨ cl56.slots.size ≤ ((3 : Int32)).toNatClampNeg) := inb_of S56 ⟨by decide, by decide⟩
    have hat56 : cl56.slots[((3 : Int32)).toNatClampNeg]? = some (.int r3) := Has.at H56 hin56 rfl
    refine own_thr (a := T55.setTop (mkF m 314 #[.val (.int md), .val (.int pk), .val (.int cd), .val (.int pb), .val (.int (1 : Int32)), .val (.int n), .val (.int pp), .val (.int qq), .val (.ref b22), .val (.ref b32)] [(.int qq), (.int pp), (.int n), (.int r3), (.long (own_o (own_upL (own_upL own_idL pp (n.toInt64)) qq ((n.toInt64) + (1 : Int64))) r3))])) (fun t kt => ?_) ?_
    · show Steps p.tables e below (T55.setTop (mkF m 307 #[.val (.int md), .val (.int pk), .val (.int cd), .val (.int pb), .val (.int (1 : Int32)), .val (.int n), .val (.int pp), .val (.int qq), .val (.ref b22), .val (.ref b32)] [(.int (3 : Int32)), (.ref b22), (.long (own_o (own_upL (own_upL own_idL pp (n.toInt64)) qq ((n.toInt64) + (1 : Int64))) r3))])) _
      refine X55.iaload hx (j := (3 : Int32)) (v := (.int r3)) (by rw [e55]; exact Ar56.1) (State.isArrayOf_alike hZ.alike Ar56.2.1) Ar56.2.2 hin56 hat56 (g := (mkF m 307 #[.val (.int md), .val (.int pk), .val (.int cd), .val (.int pb), .val (.int (1 : Int32)), .val (.int n), .val (.int pp), .val (.int qq), .val (.ref b22), .val (.ref b32)] [(.int (3 : Int32)), (.ref b22), (.long (own_o (own_upL (own_upL own_idL pp (n.toInt64)) qq ((n.toInt64) + (1 : Int64))) r3))])) rfl rfl (hb hby at_307) _ ?_
      refine XS.iload X55.here hx rfl (hb hby at_308) rfl ?_
      refine XS.iload X55.here hx rfl (hb hby at_310) rfl ?_
      refine XS.iload X55.here hx rfl (hb hby at_312) rfl ?_
      exact kt
    obtain ⟨_, _, ⟨T57, L57, k57, n57⟩, -, X57, ⟨Lc57, hQ57, l57, y57, z57⟩, st57⟩ := Jvm.LawKit.callS X55 hx (y := (⟨"dev/chainlatch/bucket/SerialsRemapPinLaw", "expected", "(IIII)J"⟩ : MethodName)) hown (mvT hZ (hw _ (List.mem_of_getElem? (i := 57) rfl))) (mvT hZ (hw _ (List.mem_of_getElem? (i := 58) rfl))) (mvT hZ (hw _ (List.mem_of_getElem? (i := 59) rfl))) (mvT hZ (hw _ (List.mem_of_getElem? (i := 60) rfl))) (by decide) (backOf (W := 2) (rmE l Z a0 hw [] r3 n pp qq T43.heap n0 Z45) hZ (hw _ (List.mem_of_getElem? (i := 60) rfl)) (hw _ (List.mem_of_getElem? (i := 59) rfl)) (by decide) (by decide)) (g := (mkF m 314 #[.val (.int md), .val (.int pk), .val (.int cd), .val (.int pb), .val (.int (1 : Int32)), .val (.int n), .val (.int pp), .val (.int qq), .val (.ref b22), .val (.ref b32)] [(.int qq), (.int pp), (.int n), (.int r3), (.long (own_o (own_upL (own_upL own_idL pp (n.toInt64)) qq ((n.toInt64) + (1 : Int64))) r3))])) rfl (by rw [hml]; rfl) (argsL := [(.int r3), (.int n), (.int pp), (.int qq)]) (rest := [(.long (own_o (own_upL (own_upL own_idL pp (n.toInt64)) qq ((n.toInt64) + (1 : Int64))) r3))]) (lenOf pd__28IIII_29J rfl) rfl (by show 2 * 0 + _ ≤ _; exact Nat.le_of_eq rfl) (hb hby at_314) (fun _ _ => ⟨rfl, e55, (by decide : 4 + 0 ≤ _), (by decide : 15 + 0 ≤ _)⟩)
    dsimp only [Pt.U, Pt.locs, Pt.cells, Pt.slots] at X57 l57 y57 z57 st57 hQ57
    obtain ⟨rfl, N57q, e57⟩ := hQ57
    obtain ⟨lc57, X57, N57⟩ := own_pack X57 l57 y57 z57 N55 N57q (C := 4) (S' := 15) rfl rfl
    refine own_thr (a := T57.setTop (mkF m 317 #[.val (.int md), .val (.int pk), .val (.int cd), .val (.int pb), .val (.int (1 : Int32)), .val (.int n), .val (.int pp), .val (.int qq), .val (.ref b22), .val (.ref b32)] [(.long (f_rmE r3 n pp qq)), (.long (own_o (own_upL (own_upL own_idL pp (n.toInt64)) qq ((n.toInt64) + (1 : Int64))) r3))])) (fun t kt => st57 t kt) ?_
    refine own_thr (a := T57.setTop (mkF m 326 #[.val (.int md), .val (.int pk), .val (.int cd), .val (.int pb), .val (.int (1 : Int32)), .val (.int n), .val (.int pp), .val (.int qq), .val (.ref b22), .val (.ref b32)] [(.int (1 : Int32))])) (fun t kt => ?_) ?_
    · show Steps p.tables e below (T57.setTop (mkF m 317 #[.val (.int md), .val (.int pk), .val (.int cd), .val (.int pb), .val (.int (1 : Int32)), .val (.int n), .val (.int pp), .val (.int qq), .val (.ref b22), .val (.ref b32)] [(.long (f_rmE r3 n pp qq)), (.long (own_o (own_upL (own_upL own_idL pp (n.toInt64)) qq ((n.toInt64) + (1 : Int64))) r3))])) _
      refine XS.lcmp X57.here hx rfl (hb hby at_317) rfl ?_
      refine XS.ifNo X57.here hx rfl (hb hby at_318) rfl ((if0 _ _).trans (teq ((lw_eq (own_o (own_upL (own_upL own_idL pp (n.toInt64)) qq ((n.toInt64) + (1 : Int64))) r3) (f_rmE r3 n pp qq)).mpr (own_fin r3 n pp qq))).2) ?_
      refine XS.iconst X57.here hx rfl (hb hby at_321) ?_
      refine XS.goto X57.here hx rfl (pc0 := 322) (pc' := 326) rfl (hb hby at_322) (by decide) (by decide) ?_
      exact kt
    exact own_end X57 hlk (v := some (.int (1 : Int32))) (fun h => by rw [Bd.returns] at h; cases h) (fun fs hr => retN X57 hx (t := .boolean) Bd.returns (by simp) (hb hby at_326) hr) ⟨rfl, N57⟩ (by decide : 4 ≤ _) (by decide : 15 ≤ _)
set_option maxRecDepth 65536 in
set_option maxHeartbeats 40000000 in
theorem comes_1 {Post : Tables → Env → Array Value → State → Outcome → State → Prop} (hpost : ∀ tb e args s v u, (limb_1_1.after args s (.returned v) u = true ∧ limb_1_2.after args s (.returned v) u = true ∧ True) → FrameEnd s (.returned v) u (Jvm.fieldLocs frame_1_writes args s ++ Jvm.arrayLocs frame_1_arrays args s ++ Jvm.staticLocs frame_1_statics s) 16 128 → Post tb e args s (.returned v) u) :
    ArmFor flags0 classFile x code maxLocals ret World_1 tables_1 room_1 Calls_1 rest_1 Pre_1 Post := by
  intro l hfl _ _ p e ha hc hk s m args below hf hA hF happ hP
  obtain ⟨hcalls, hrest, hpre⟩ := hP
  obtain ⟨-, -, -, hnamed, -, -, -, hat⟩ := (Spec.applies_iff hf).mp happ
  obtain ⟨hg, hn⟩ := and_e (Cond.before_iff.mp (show (Jvm.Cond.and given_1 narrow_1).before args s = true from hpre))
  obtain ⟨g1, g2⟩ := and_e hg
  obtain ⟨g3, g4⟩ := and_e g2
  obtain ⟨g5, g6⟩ := and_e g4
  obtain ⟨g7, g8⟩ := and_e g6
  obtain ⟨w0, w1, w2, w3, rfl⟩ : ∃ w0 w1 w2 w3 : Value, args = #[w0, w1, w2, w3] := by
    have hs : args.size = 4 := by simpa [Cond.value, given_1] using g1
    obtain ⟨L⟩ := args
    match L, hs with
    | [w0, w1, w2, w3], _ => exact ⟨w0, w1, w2, w3, rfl⟩
  have hw := fun d (hd : d ∈ tables_1) => atoms_spec (ws := Jvm.Cond.code x code maxLocals ret :: tables_1) hat d (List.mem_cons_of_mem _ hd)
  have hfit : Fit s := fun {y c} hc i hi => by
    obtain ⟨ha, rfl⟩ := Array.getElem?_eq_some_iff.mp hc
    have q := List.all_eq_true.mp ((Array.all_eq_true_iff_forall_mem.mp hF) _ (Array.getElem_mem ha)) i (List.mem_range.mpr hi)
    simpa [Array.getElem?_eq_getElem hi] using q
  obtain ⟨i0, ei0⟩ := is_v g3
  obtain rfl : w0 = (.int i0) := Option.some.inj ei0
  obtain ⟨i1, ei1⟩ := is_v g5
  obtain rfl : w1 = (.int i1) := Option.some.inj ei1
  obtain ⟨i2, ei2⟩ := is_v g7
  obtain rfl : w2 = (.int i2) := Option.some.inj ei2
  obtain ⟨i3, ei3⟩ := is_v g8
  obtain rfl : w3 = (.int i3) := Option.some.inj ei3
  obtain ⟨n, o, h1, h2, h3, _, L, rfl, ⟨rfl, N⟩, hq⟩ := rm0 l s _ hw tables_1 i0 i1 i2 i3 s.heap s.heap.size (Nat.le_refl _) (Old.start s) p e ha hc hk s m _ below hf ((Spec.applies_iff_loose hf).mp happ).1 ⟨rfl, State.Warmed39.refl s, rfl⟩ trivial
  refine ⟨n, _, h1, h2, h3, hpost _ _ _ _ _ _ ⟨Cond.after_iff.mpr rfl, Cond.after_iff.mpr (eq_i res_at (Term.int_eval (1)) rfl), trivial⟩ ⟨hq.1, hq.2.1, (hq.2.2.sift fun y hy => Or.inr (N y hy)).mono (by decide) (by decide)⟩⟩
theorem main_1_1 : Claimed_1_1 := comes_1 fun _ _ _ _ _ _ h hF => ⟨h.1, Jvm.LamKit.wideOf hF⟩
theorem main_1_2 : Claimed_1_2 := comes_1 fun _ _ _ _ _ _ h hF => ⟨h.2.1, Jvm.LamKit.wideOf hF⟩
end Jvm.Pilot.@@N@@
namespace Jvm.Pilot.@@N@@
open Jvm Jvm.ClassFile Sem Op Lib Jvm.Free Jvm.Stand Jvm.Pilot.@@N@@.Jvm.D
/-! MADE BY PROGRAM (witnessworld.py) out of the Statement's table words and the real class files: 15 classes; the members and pool entries that the words name. The judged class is class 1, her method 1. -/
namespace start1
open Jvm.ClassFile
def u (s : String) : CpInfo := .utf8 (stringToUtf16 s)
/-- a pool by its gaps: so many unusable entries, then the entry; so many at the end -/
def gap : Nat → List CpInfo → List CpInfo
  | 0, r => r
  | n + 1, r => .unusable :: gap n r
def poolList (es : List (Nat × CpInfo)) (last : Nat) : List CpInfo := es.foldr (fun e r => gap e.1 (e.2 :: r)) (gap last [])
def pool (es : List (Nat × CpInfo)) (last : Nat) : Array CpInfo := ⟨poolList es last⟩
def fileOf (pool : Array CpInfo) (this : Nat) (attrs : Array Attribute := #[]) (ms : Array MethodInfo := #[]) (fl : Nat := 33) (sup : Nat := 0) (ifs : Array Nat := #[]) (fds : Array FieldInfo := #[]) : ClassFile where
  minorVersion := 0
  majorVersion := 65
  constantPool := pool
  accessFlags := fl
  thisClass := this
  superClass := sup
  interfaces := ifs
  fields := fds
  methods := ms
  attributes := attrs
def plain (name : String) (sup : Option ClassId) : Class where
  name := name
  kind := .ordinary
  loader := none
  accessFlags := 33
  super := sup
  interfaces := #[]
  cf := none
  fields := #[]
  methods := #[]
  instanceTypes := #[]
  staticTypes := #[]
  resolved := #[]
  callSites := []
  init := .initialized
  statics := none
  mirror := none

def pool0 : Array CpInfo := pool [(5, u "<init>"), (0, u "()V"), (1, .class_ 10), (1, u "java/lang/Object")] 113

def k0c0 : Code := { maxStack := 0, maxLocals := 1, code := object_method_1_code, exceptionTable := #[], attributes := #[] }
def k0m0 : Method := { name := "<init>", desc := "()V", sig := { parameters := [], returnType := none }, accessFlags := 1, code := some k0c0 }
/-- java/lang/Object -/
def k0 : Class := { plain "java/lang/Object" none with
  accessFlags := 33
  interfaces := #[]
  cf := some (fileOf pool0 8 #[] #[{ accessFlags := 1, nameIndex := 5, descriptorIndex := 6, attributes := #[] }] 33 0 #[] #[])
  fields := #[]
  methods := #[k0m0]
  instanceTypes := #[]
  staticTypes := #[]
  resolved := Array.replicate 124 none
  statics := none }

def pool1 : Array CpInfo := pool [(2, .class_ 4), (1, u "java/lang/Object"), (0, u "<init>"), (0, u "()V"), (0, .integer 2147483647), (0, .integer 8388607), (0, .class_ 10), (0, u "dev/chainlatch/bucket/Serials"), (0, .methodref 9 12), (0, .nameAndType 5 13), (0, u "(Ldev/chainlatch/bucket/ChainTable;)V"), (0, .methodref 9 15), (0, .nameAndType 16 17), (0, u "remap"), (0, u "([I)V"), (0, .methodref 9 19), (0, .nameAndType 20 21), (0, u "serialAt"), (0, u "(I)J"), (0, .long 2), (1, .long 3), (1, .methodref 9 27), (0, .nameAndType 28 29), (0, u "writeOut"), (0, u "(I)V"), (0, .methodref 9 31), (0, .nameAndType 32 29), (0, u "number"), (0, .methodref 34 35), (0, .class_ 36), (0, .nameAndType 37 38), (0, u "dev/chainlatch/bucket/SerialsRemapPinLaw"), (0, u "expected"), (0, u "(IIII)J"), (0, .methodref 34 40), (0, .nameAndType 41 38), (0, u "old"), (2, u "law"), (0, u "(IIII)Z")] 5

def k1m0 : Method := { name := "<init>", desc := "()V", sig := { parameters := [], returnType := none }, accessFlags := 1, code := none }
def k1c1 : Code := { maxStack := 6, maxLocals := 10, code := code, exceptionTable := #[], attributes := #[] }
def k1m1 : Method := { name := "law", desc := "(IIII)Z", sig := { parameters := [.int, .int, .int, .int], returnType := some .boolean }, accessFlags := 9, code := some k1c1 }
def k1c2 : Code := { maxStack := 4, maxLocals := 4, code := method_3_code, exceptionTable := #[], attributes := #[] }
def k1m2 : Method := { name := "old", desc := "(IIII)J", sig := { parameters := [.int, .int, .int, .int], returnType := some .long }, accessFlags := 10, code := some k1c2 }
def k1c3 : Code := { maxStack := 4, maxLocals := 4, code := method_4_code, exceptionTable := #[], attributes := #[] }
def k1m3 : Method := { name := "expected", desc := "(IIII)J", sig := { parameters := [.int, .int, .int, .int], returnType := some .long }, accessFlags := 10, code := some k1c3 }
/-- dev/chainlatch/bucket/SerialsRemapPinLaw -/
def k1 : Class := { plain "dev/chainlatch/bucket/SerialsRemapPinLaw" (some 0) with
  accessFlags := 49
  interfaces := #[]
  cf := some (fileOf pool1 34 #[] #[{ accessFlags := 1, nameIndex := 5, descriptorIndex := 6, attributes := #[] }, { accessFlags := 9, nameIndex := 44, descriptorIndex := 45, attributes := #[] }, { accessFlags := 10, nameIndex := 41, descriptorIndex := 38, attributes := #[] }, { accessFlags := 10, nameIndex := 37, descriptorIndex := 38, attributes := #[] }] 49 2 #[] #[])
  fields := #[]
  methods := #[k1m0, k1m1, k1m2, k1m3]
  instanceTypes := #[]
  staticTypes := #[]
  resolved := Array.replicate 51 none
  statics := none }

def pool2 : Array CpInfo := pool [(1, .methodref 2 3), (0, .class_ 4), (0, .nameAndType 5 6), (0, u "java/lang/Object"), (0, u "<init>"), (0, u "()V"), (0, .fieldref 8 9), (0, .class_ 10), (0, .nameAndType 11 12), (0, u "dev/chainlatch/bucket/Serials"), (0, u "table"), (0, u "Ldev/chainlatch/bucket/ChainTable;"), (0, .fieldref 8 14), (0, .nameAndType 15 16), (0, u "bySlot"), (0, u "[J"), (14, .invokeDynamic 0 32), (0, .nameAndType 33 34), (0, u "applyAsLong"), (0, u "()Ljava/util/function/IntToLongFunction;"), (0, .methodref 36 37), (0, .class_ 38), (0, .nameAndType 39 40), (0, u "java/util/Arrays"), (0, u "setAll"), (0, u "([JLjava/util/function/IntToLongFunction;)V"), (0, .fieldref 8 42), (0, .nameAndType 43 44), (0, u "next"), (0, u "J"), (2, u "(Ldev/chainlatch/bucket/ChainTable;)V"), (3, u "serialAt"), (0, u "(I)J"), (1, u "writeOut"), (0, u "(I)V"), (0, u "number"), (2, u "remap"), (0, u "([I)V"), (1, u "lambda$writeOut$0"), (3, .methodType 52), (0, .methodHandle 6 68), (0, .methodref 8 69), (0, .nameAndType 62 52), (0, .methodHandle 6 71), (0, .methodref 72 73), (0, .class_ 74), (0, .nameAndType 75 76), (0, u "java/lang/invoke/LambdaMetafactory"), (0, u "metafactory"), (0, u "(Ljava/lang/invoke/MethodHandles$Lookup;Ljava/lang/String;Ljava/lang/invoke/MethodType;Ljava/lang/invoke/MethodType;Ljava/lang/invoke/MethodHandle;Ljava/lang/invoke/MethodType;)Ljava/lang/invoke/CallSite;")] 6

def k2c0 : Code := { maxStack := 2, maxLocals := 2, code := prog_12_method_1_code, exceptionTable := #[], attributes := #[] }
def k2m0 : Method := { name := "<init>", desc := "(Ldev/chainlatch/bucket/ChainTable;)V", sig := { parameters := [(.object "dev/chainlatch/bucket/ChainTable")], returnType := none }, accessFlags := 0, code := some k2c0 }
def k2c1 : Code := { maxStack := 2, maxLocals := 2, code := prog_12_method_2_code, exceptionTable := #[], attributes := #[] }
def k2m1 : Method := { name := "serialAt", desc := "(I)J", sig := { parameters := [.int], returnType := some .long }, accessFlags := 1, code := some k2c1 }
def k2c2 : Code := { maxStack := 3, maxLocals := 2, code := prog_12_method_5_code, exceptionTable := #[], attributes := #[] }
def k2m2 : Method := { name := "writeOut", desc := "(I)V", sig := { parameters := [.int], returnType := none }, accessFlags := 0, code := some k2c2 }
def k2c3 : Code := { maxStack := 9, maxLocals := 2, code := prog_12_method_6_code, exceptionTable := #[], attributes := #[] }
def k2m3 : Method := { name := "number", desc := "(I)V", sig := { parameters := [.int], returnType := none }, accessFlags := 0, code := some k2c3 }
def k2c4 : Code := { maxStack := 5, maxLocals := 4, code := prog_12_method_8_code, exceptionTable := #[], attributes := #[] }
def k2m4 : Method := { name := "remap", desc := "([I)V", sig := { parameters := [(.array .int)], returnType := none }, accessFlags := 0, code := some k2c4 }
def k2c5 : Code := { maxStack := 2, maxLocals := 1, code := prog_12_method_9_code, exceptionTable := #[], attributes := #[] }
def k2m5 : Method := { name := "lambda$writeOut$0", desc := "(I)J", sig := { parameters := [.int], returnType := some .long }, accessFlags := 4106, code := some k2c5 }
/-- dev/chainlatch/bucket/Serials -/
def k2 : Class := { plain "dev/chainlatch/bucket/Serials" (some 0) with
  accessFlags := 49
  interfaces := #[]
  cf := some (fileOf pool2 8 #[.bootstrapMethods #[⟨70, #[66, 67, 66]⟩]] #[{ accessFlags := 0, nameIndex := 5, descriptorIndex := 47, attributes := #[] }, { accessFlags := 1, nameIndex := 51, descriptorIndex := 52, attributes := #[] }, { accessFlags := 0, nameIndex := 54, descriptorIndex := 55, attributes := #[] }, { accessFlags := 0, nameIndex := 56, descriptorIndex := 55, attributes := #[] }, { accessFlags := 0, nameIndex := 59, descriptorIndex := 60, attributes := #[] }, { accessFlags := 4106, nameIndex := 62, descriptorIndex := 52, attributes := #[] }] 49 2 #[] #[{ accessFlags := 18, nameIndex := 11, descriptorIndex := 12, attributes := #[] }, { accessFlags := 2, nameIndex := 15, descriptorIndex := 16, attributes := #[] }, { accessFlags := 2, nameIndex := 43, descriptorIndex := 44, attributes := #[] }])
  fields := #[{ name := "table", type := (.object "dev/chainlatch/bucket/ChainTable"), accessFlags := 18, slot := 0, constantValue := 0 }, { name := "bySlot", type := (.array .long), accessFlags := 2, slot := 1, constantValue := 0 }, { name := "next", type := .long, accessFlags := 2, slot := 2, constantValue := 0 }]
  methods := #[k2m0, k2m1, k2m2, k2m3, k2m4, k2m5]
  instanceTypes := #[(.object "dev/chainlatch/bucket/ChainTable"), (.array .long), .long]
  staticTypes := #[]
  resolved := Array.replicate 83 none
  callSites := [(2, 18, .constant 0)]
  statics := none }

def pool3 : Array CpInfo := pool [(1, .class_ 2), (0, u "java/util/function/IntToLongFunction"), (0, .class_ 4), (0, u "java/lang/Object"), (0, u "applyAsLong"), (0, u "(I)J")] 4

def k3m0 : Method := { name := "applyAsLong", desc := "(I)J", sig := { parameters := [.int], returnType := some .long }, accessFlags := 1025, code := none }
/-- java/util/function/IntToLongFunction -/
def k3 : Class := { plain "java/util/function/IntToLongFunction" (some 0) with
  accessFlags := 1537
  interfaces := #[]
  cf := some (fileOf pool3 1 #[] #[{ accessFlags := 1025, nameIndex := 5, descriptorIndex := 6, attributes := #[] }] 1537 3 #[] #[])
  fields := #[]
  methods := #[k3m0]
  instanceTypes := #[]
  staticTypes := #[]
  resolved := Array.replicate 11 none
  statics := none }

def pool4 : Array CpInfo := pool [(2, .class_ 4), (1, u "java/lang/Object"), (0, u "<init>"), (0, u "()V"), (7, .class_ 16), (1, u "java/util/Arrays"), (57, .class_ 76), (1, u "java/util/Arrays$NaturalOrder"), (36, .class_ 115), (1, u "java/util/Arrays$LegacyMergeSort"), (1, u "Z"), (57, .methodref 176 177), (0, .class_ 178), (0, .nameAndType 179 180), (0, u "java/util/Objects"), (0, u "requireNonNull"), (0, u "(Ljava/lang/Object;)Ljava/lang/Object;"), (194, .class_ 376), (0, u "java/util/Arrays$ArrayList"), (68, u "$assertionsDisabled"), (145, .interfaceMethodref 592 593), (0, .class_ 594), (0, .nameAndType 595 596), (0, u "java/util/function/IntToLongFunction"), (0, u "applyAsLong"), (0, u "(I)J"), (118, u "MIN_ARRAY_SORT_GRAN"), (0, u "I"), (2, u "INSERTIONSORT_THRESHOLD"), (187, u "setAll"), (8, u "([JLjava/util/function/IntToLongFunction;)V"), (58, .class_ 976), (0, u "java/util/Arrays$ArrayItr")] 52

def k4m0 : Method := { name := "<init>", desc := "()V", sig := { parameters := [], returnType := none }, accessFlags := 2, code := none }
def k4c1 : Code := { maxStack := 4, maxLocals := 3, code := jdk_65_method_177_code, exceptionTable := #[], attributes := #[] }
def k4m1 : Method := { name := "setAll", desc := "([JLjava/util/function/IntToLongFunction;)V", sig := { parameters := [(.array .long), (.object "java/util/function/IntToLongFunction")], returnType := none }, accessFlags := 9, code := some k4c1 }
/-- java/util/Arrays -/
def k4 : Class := { plain "java/util/Arrays" (some 0) with
  accessFlags := 49
  interfaces := #[]
  cf := some (fileOf pool4 14 #[.nestMembers #[975, 375, 113, 74]] #[{ accessFlags := 2, nameIndex := 5, descriptorIndex := 6, attributes := #[] }, { accessFlags := 9, nameIndex := 907, descriptorIndex := 916, attributes := #[] }] 49 2 #[] #[{ accessFlags := 26, nameIndex := 715, descriptorIndex := 716, attributes := #[] }, { accessFlags := 26, nameIndex := 719, descriptorIndex := 716, attributes := #[] }, { accessFlags := 4120, nameIndex := 445, descriptorIndex := 117, attributes := #[] }])
  fields := #[{ name := "MIN_ARRAY_SORT_GRAN", type := .int, accessFlags := 26, slot := 0, constantValue := 0 }, { name := "INSERTIONSORT_THRESHOLD", type := .int, accessFlags := 26, slot := 1, constantValue := 0 }, { name := "$assertionsDisabled", type := .boolean, accessFlags := 4120, slot := 2, constantValue := 0 }]
  methods := #[k4m0, k4m1]
  instanceTypes := #[]
  staticTypes := #[.int, .int, .boolean]
  resolved := Array.replicate 1029 none
  statics := none }

def pool5 : Array CpInfo := pool [(2, .class_ 4), (1, u "java/lang/Object"), (0, u "<init>"), (0, u "()V"), (35, .class_ 44), (1, u "java/util/Objects"), (0, u "requireNonNull"), (0, u "(Ljava/lang/Object;)Ljava/lang/Object;")] 137

def k5m0 : Method := { name := "<init>", desc := "()V", sig := { parameters := [], returnType := none }, accessFlags := 2, code := none }
def k5c1 : Code := { maxStack := 2, maxLocals := 1, code := jdk_31_method_10_code, exceptionTable := #[], attributes := #[] }
def k5m1 : Method := { name := "requireNonNull", desc := "(Ljava/lang/Object;)Ljava/lang/Object;", sig := { parameters := [(.object "java/lang/Object")], returnType := some (.object "java/lang/Object") }, accessFlags := 9, code := some k5c1 }
/-- java/util/Objects -/
def k5 : Class := { plain "java/util/Objects" (some 0) with
  accessFlags := 49
  interfaces := #[]
  cf := some (fileOf pool5 42 #[] #[{ accessFlags := 2, nameIndex := 5, descriptorIndex := 6, attributes := #[] }, { accessFlags := 9, nameIndex := 45, descriptorIndex := 46, attributes := #[] }] 49 2 #[] #[])
  fields := #[]
  methods := #[k5m0, k5m1]
  instanceTypes := #[]
  staticTypes := #[]
  resolved := Array.replicate 184 none
  statics := none }

def pool6 : Array CpInfo := pool [(1, u "java/lang/Cloneable"), (0, .class_ 1), (0, u "java/lang/Object"), (0, .class_ 3)] 3

/-- java/lang/Cloneable -/
def k6 : Class := { plain "java/lang/Cloneable" (some 0) with
  accessFlags := 1537
  interfaces := #[]
  cf := some (fileOf pool6 2 #[] #[] 1537 4 #[] #[])
  fields := #[]
  methods := #[]
  instanceTypes := #[]
  staticTypes := #[]
  resolved := Array.replicate 8 none
  statics := none }

def pool7 : Array CpInfo := pool [(1, u "java/io/Serializable"), (0, .class_ 1), (0, u "java/lang/Object"), (0, .class_ 3)] 3

/-- java/io/Serializable -/
def k7 : Class := { plain "java/io/Serializable" (some 0) with
  accessFlags := 1537
  interfaces := #[]
  cf := some (fileOf pool7 2 #[] #[] 1537 4 #[] #[])
  fields := #[]
  methods := #[]
  instanceTypes := #[]
  staticTypes := #[]
  resolved := Array.replicate 8 none
  statics := none }

/-- the primitive byte -/
def k8 : Class := { plain "byte" none with kind := .primitive 'B', accessFlags := 0x411 }
/-- [B -/
def k9 : Class := { plain "[B" (some 0) with kind := .array 8 .byte, interfaces := #[6, 7], accessFlags := 1041 }

/-- the primitive int -/
def k10 : Class := { plain "int" none with kind := .primitive 'I', accessFlags := 0x411 }
/-- [I -/
def k11 : Class := { plain "[I" (some 0) with kind := .array 10 .int, interfaces := #[6, 7], accessFlags := 1041 }

/-- the primitive long -/
def k12 : Class := { plain "long" none with kind := .primitive 'J', accessFlags := 0x411 }
/-- [J -/
def k13 : Class := { plain "[J" (some 0) with kind := .array 12 .long, interfaces := #[6, 7], accessFlags := 1041 }

def classes0 : Array Class := #[k0, k1, k2, k3, k4, k5, k6, k7, k8, k9, k10, k11, k12, k13]
/-- the class that the rule has made for the site at 18 of dev/chainlatch/bucket/Serials.writeOut -/
def k14 : Class := Jvm.LamKit.madeRec { classes := classes0 } "dev/chainlatch/bucket/Serials" (Jvm.Lambda.Shape.mk "java/util/function/IntToLongFunction" "applyAsLong" (Jvm.ClassFile.MethodDescriptor.mk ([Jvm.ClassFile.FieldType.int] : List Jvm.ClassFile.FieldType) (Option.some Jvm.ClassFile.FieldType.long)) ([] : List Jvm.ClassFile.FieldType) (6 : Nat) "dev/chainlatch/bucket/Serials" "lambda$writeOut$0" (Jvm.ClassFile.MethodDescriptor.mk ([Jvm.ClassFile.FieldType.int] : List Jvm.ClassFile.FieldType) (Option.some Jvm.ClassFile.FieldType.long)) false (Jvm.ClassFile.MethodDescriptor.mk ([Jvm.ClassFile.FieldType.int] : List Jvm.ClassFile.FieldType) (Option.some Jvm.ClassFile.FieldType.long))) 14

def heap : Heap := #[{ cls := 14, slots := #[], vm := .none }]
def classes : Array Class := #[k0, k1, k2, k3, k4, k5, k6, k7, k8, k9, k10, k11, k12, k13, k14]
def interned : List (Array UInt16 × Addr) := []
def slotsUsed : Nat := 0
def theMethod : MethodId := ⟨1, 1⟩
def args0 : Array Value := #[.int 5, .int 6, .int 7, .int 8]
def aboutOver (below : List Frame) : State where
  vm := { classes := classes, interned := interned.toArray }
  heap := heap
  slotsUsed := slotsUsed
  threads := #[{ frames := .invoking theMethod args0 :: below }]
def below0 : List Frame := [.native { method := ⟨0, 0⟩, args := #[] }]
def about1 : State := aboutOver below0
def p0 : Program := .bare "" "" ""
def e0 : Env := launch0.env 0 0 0
theorem w_frames : about1.frames = Frame.invoking theMethod args0 :: below0 := rfl
set_option maxRecDepth 65536 in
theorem w_args : argsFit about1.vm theMethod args0 = true := by decide +kernel
set_option maxRecDepth 65536 in
theorem w_heap : heapFits about1 = true := by decide +kernel
set_option maxRecDepth 65536 in
theorem w_runnable : about1.curStatus? = some .runnable := by decide +kernel
set_option maxRecDepth 65536 in
theorem w_alone : about1.alone = true := by decide +kernel
set_option maxRecDepth 65536 in
theorem w_named : about1.methodNamed? x = some theMethod := by decide +kernel
set_option maxRecDepth 65536 in
theorem w_hears : about1.hears theMethod below0 = true := by decide +kernel
set_option maxRecDepth 65536 in
theorem w_ripe : about1.ripe theMethod args0 below0 = true := by decide +kernel
theorem w_running : about1.status = .running := rfl
set_option maxRecDepth 65536 in
theorem w_room : about1.hasRoom e0.platform room_1 = true :=
  launch0.hasRoom_least _ room_1 (by decide +kernel) (by decide +kernel) (by decide +kernel) (by decide +kernel) (by decide +kernel) (by decide +kernel)
theorem allAtoms_all (ts : List Jvm.Cond) (a : Array Jvm.Value) (st : Jvm.State) : (allAtoms ts).before a st = ts.all (fun c => c.before a st) := by
  induction ts with
  | nil => rfl
  | cons c t ih =>
    show (Jvm.Cond.and c (allAtoms t)).before a st = _
    rw [Jvm.Cond.before_and, ih, List.all_cons]
def words1 : List Jvm.Cond := Jvm.Cond.code x code maxLocals ret :: tables_1
/-- a 'code' word, met by the world's own term for the bytes: nothing is compared byte by byte -/
theorem code_word {y : MethodName} {bytes : ByteArray} {mx : Nat} {rt : Option FieldType} {a : Array Value} {s : State} {m : MethodId} {meth : Method} {c : Code} (h1 : s.methodNamed? y = some m) (h2 : s.vm.method? m = some meth) (h3 : meth.code = some c) (h4 : c.code = bytes)
    (h5 : (c.maxLocals == mx && c.exceptionTable.isEmpty && decide (c.maxStack ≤ mostOperands) && decide (meth.sig.returnType = rt) && !meth.locks && decide (parseMethodDescriptor y.desc = some meth.sig)) = true) : (Jvm.Cond.code y bytes mx rt).before a s = true := by
  simp only [Bool.and_eq_true, beq_iff_eq, Bool.not_eq_true', decide_eq_true_eq] at h5
  obtain ⟨⟨⟨⟨⟨g1, g2⟩, g3⟩, g4⟩, g5⟩, g6⟩ := h5
  simp [Cond.before, Cond.holds, Cond.value, h1, h2, h3, h4, g1, g2, g3, g4, g5, g6]
def isCode : Jvm.Cond → Bool
  | .code _ _ _ _ => true
  | _ => false
theorem all_split {L : List Jvm.Cond} {P : Jvm.Cond → Bool} (h1 : L.all (fun c => isCode c || P c) = true) (h2 : ∀ c ∈ L.filter isCode, P c = true) : L.all P = true := by
  refine List.all_eq_true.mpr fun c hc => ?_
  have h := List.all_eq_true.mp h1 c hc
  rcases Bool.eq_false_or_eq_true (isCode c) with hi | hi
  · exact h2 c (List.mem_filter.mpr ⟨hc, hi⟩)
  · simpa [hi] using h
set_option maxRecDepth 65536 in
theorem w_c0 : (Jvm.Cond.code x code maxLocals ret).before args0 about1 = true := code_word (m := ⟨1, 1⟩) (meth := k1m1) (c := k1c1) (by decide +kernel) rfl rfl rfl (by decide +kernel)
set_option maxRecDepth 65536 in
theorem w_c1 : (Jvm.Cond.code ({ cls := "dev/chainlatch/bucket/Serials", name := "<init>", desc := "(Ldev/chainlatch/bucket/ChainTable;)V" } : Jvm.MethodName) prog_12_method_1_code (2 : Nat) (Option.none : Option Jvm.ClassFile.FieldType)).before args0 about1 = true := code_word (m := ⟨2, 0⟩) (meth := k2m0) (c := k2c0) (by decide +kernel) rfl rfl rfl (by decide +kernel)
set_option maxRecDepth 65536 in
theorem w_c2 : (Jvm.Cond.code ({ cls := "java/lang/Object", name := "<init>", desc := "()V" } : Jvm.MethodName) object_method_1_code (1 : Nat) (Option.none : Option Jvm.ClassFile.FieldType)).before args0 about1 = true := code_word (m := ⟨0, 0⟩) (meth := k0m0) (c := k0c0) (by decide +kernel) rfl rfl rfl (by decide +kernel)
set_option maxRecDepth 65536 in
theorem w_c3 : (Jvm.Cond.code ({ cls := "dev/chainlatch/bucket/Serials", name := "remap", desc := "([I)V" } : Jvm.MethodName) prog_12_method_8_code (4 : Nat) (Option.none : Option Jvm.ClassFile.FieldType)).before args0 about1 = true := code_word (m := ⟨2, 4⟩) (meth := k2m4) (c := k2c4) (by decide +kernel) rfl rfl rfl (by decide +kernel)
set_option maxRecDepth 65536 in
theorem w_c4 : (Jvm.Cond.code ({ cls := "dev/chainlatch/bucket/Serials", name := "serialAt", desc := "(I)J" } : Jvm.MethodName) prog_12_method_2_code (2 : Nat) (Option.some Jvm.ClassFile.FieldType.long)).before args0 about1 = true := code_word (m := ⟨2, 1⟩) (meth := k2m1) (c := k2c1) (by decide +kernel) rfl rfl rfl (by decide +kernel)
set_option maxRecDepth 65536 in
theorem w_c5 : (Jvm.Cond.code ({ cls := "dev/chainlatch/bucket/Serials", name := "writeOut", desc := "(I)V" } : Jvm.MethodName) prog_12_method_5_code (2 : Nat) (Option.none : Option Jvm.ClassFile.FieldType)).before args0 about1 = true := code_word (m := ⟨2, 2⟩) (meth := k2m2) (c := k2c2) (by decide +kernel) rfl rfl rfl (by decide +kernel)
set_option maxRecDepth 65536 in
theorem w_c6 : (Jvm.Cond.code ({ cls := "java/util/Arrays", name := "setAll", desc := "([JLjava/util/function/IntToLongFunction;)V" } : Jvm.MethodName) jdk_65_method_177_code (3 : Nat) (Option.none : Option Jvm.ClassFile.FieldType)).before args0 about1 = true := code_word (m := ⟨4, 1⟩) (meth := k4m1) (c := k4c1) (by decide +kernel) rfl rfl rfl (by decide +kernel)
set_option maxRecDepth 65536 in
theorem w_c7 : (Jvm.Cond.code ({ cls := "java/util/Objects", name := "requireNonNull", desc := "(Ljava/lang/Object;)Ljava/lang/Object;" } : Jvm.MethodName) jdk_31_method_10_code (1 : Nat) (Option.some (Jvm.ClassFile.FieldType.object "java/lang/Object"))).before args0 about1 = true := code_word (m := ⟨5, 1⟩) (meth := k5m1) (c := k5c1) (by decide +kernel) rfl rfl rfl (by decide +kernel)
set_option maxRecDepth 65536 in
theorem w_c8 : (Jvm.Cond.code ({ cls := "dev/chainlatch/bucket/Serials", name := "lambda$writeOut$0", desc := "(I)J" } : Jvm.MethodName) prog_12_method_9_code (1 : Nat) (Option.some Jvm.ClassFile.FieldType.long)).before args0 about1 = true := code_word (m := ⟨2, 5⟩) (meth := k2m5) (c := k2c5) (by decide +kernel) rfl rfl rfl (by decide +kernel)
set_option maxRecDepth 65536 in
theorem w_c9 : (Jvm.Cond.code ({ cls := "dev/chainlatch/bucket/Serials", name := "number", desc := "(I)V" } : Jvm.MethodName) prog_12_method_6_code (2 : Nat) (Option.none : Option Jvm.ClassFile.FieldType)).before args0 about1 = true := code_word (m := ⟨2, 3⟩) (meth := k2m3) (c := k2c3) (by decide +kernel) rfl rfl rfl (by decide +kernel)
set_option maxRecDepth 65536 in
theorem w_c10 : (Jvm.Cond.code ({ cls := "dev/chainlatch/bucket/SerialsRemapPinLaw", name := "expected", desc := "(IIII)J" } : Jvm.MethodName) method_4_code (4 : Nat) (Option.some Jvm.ClassFile.FieldType.long)).before args0 about1 = true := code_word (m := ⟨1, 3⟩) (meth := k1m3) (c := k1c3) (by decide +kernel) rfl rfl rfl (by decide +kernel)
set_option maxRecDepth 65536 in
theorem w_c11 : (Jvm.Cond.code ({ cls := "dev/chainlatch/bucket/SerialsRemapPinLaw", name := "old", desc := "(IIII)J" } : Jvm.MethodName) method_3_code (4 : Nat) (Option.some Jvm.ClassFile.FieldType.long)).before args0 about1 = true := code_word (m := ⟨1, 2⟩) (meth := k1m2) (c := k1c2) (by decide +kernel) rfl rfl rfl (by decide +kernel)
def codes1 : List Jvm.Cond := [Jvm.Cond.code x code maxLocals ret, Jvm.Cond.code ({ cls := "dev/chainlatch/bucket/Serials", name := "<init>", desc := "(Ldev/chainlatch/bucket/ChainTable;)V" } : Jvm.MethodName) prog_12_method_1_code (2 : Nat) (Option.none : Option Jvm.ClassFile.FieldType), Jvm.Cond.code ({ cls := "java/lang/Object", name := "<init>", desc := "()V" } : Jvm.MethodName) object_method_1_code (1 : Nat) (Option.none : Option Jvm.ClassFile.FieldType), Jvm.Cond.code ({ cls := "dev/chainlatch/bucket/Serials", name := "remap", desc := "([I)V" } : Jvm.MethodName) prog_12_method_8_code (4 : Nat) (Option.none : Option Jvm.ClassFile.FieldType), Jvm.Cond.code ({ cls := "dev/chainlatch/bucket/Serials", name := "serialAt", desc := "(I)J" } : Jvm.MethodName) prog_12_method_2_code (2 : Nat) (Option.some Jvm.ClassFile.FieldType.long), Jvm.Cond.code ({ cls := "dev/chainlatch/bucket/Serials", name := "writeOut", desc := "(I)V" } : Jvm.MethodName) prog_12_method_5_code (2 : Nat) (Option.none : Option Jvm.ClassFile.FieldType), Jvm.Cond.code ({ cls := "java/util/Arrays", name := "setAll", desc := "([JLjava/util/function/IntToLongFunction;)V" } : Jvm.MethodName) jdk_65_method_177_code (3 : Nat) (Option.none : Option Jvm.ClassFile.FieldType), Jvm.Cond.code ({ cls := "java/util/Objects", name := "requireNonNull", desc := "(Ljava/lang/Object;)Ljava/lang/Object;" } : Jvm.MethodName) jdk_31_method_10_code (1 : Nat) (Option.some (Jvm.ClassFile.FieldType.object "java/lang/Object")), Jvm.Cond.code ({ cls := "dev/chainlatch/bucket/Serials", name := "lambda$writeOut$0", desc := "(I)J" } : Jvm.MethodName) prog_12_method_9_code (1 : Nat) (Option.some Jvm.ClassFile.FieldType.long), Jvm.Cond.code ({ cls := "dev/chainlatch/bucket/Serials", name := "number", desc := "(I)V" } : Jvm.MethodName) prog_12_method_6_code (2 : Nat) (Option.none : Option Jvm.ClassFile.FieldType), Jvm.Cond.code ({ cls := "dev/chainlatch/bucket/SerialsRemapPinLaw", name := "expected", desc := "(IIII)J" } : Jvm.MethodName) method_4_code (4 : Nat) (Option.some Jvm.ClassFile.FieldType.long), Jvm.Cond.code ({ cls := "dev/chainlatch/bucket/SerialsRemapPinLaw", name := "old", desc := "(IIII)J" } : Jvm.MethodName) method_3_code (4 : Nat) (Option.some Jvm.ClassFile.FieldType.long)]
set_option maxRecDepth 65536 in
theorem codes_eq : words1.filter isCode = codes1 := rfl
theorem w_codes : ∀ c ∈ words1.filter isCode, c.before args0 about1 = true := by
  rw [codes_eq]
  intro c hc
  simp only [codes1, List.mem_cons, List.not_mem_nil, or_false] at hc
  rcases hc with rfl | rfl | rfl | rfl | rfl | rfl | rfl | rfl | rfl | rfl | rfl | rfl
  · exact w_c0
  · exact w_c1
  · exact w_c2
  · exact w_c3
  · exact w_c4
  · exact w_c5
  · exact w_c6
  · exact w_c7
  · exact w_c8
  · exact w_c9
  · exact w_c10
  · exact w_c11
set_option maxRecDepth 65536 in
theorem w_t1 : (words1.take 24).all (fun c => isCode c || c.before args0 about1) = true := by decide +kernel
set_option maxRecDepth 65536 in
theorem w_t2 : ((words1.drop 24).take 24).all (fun c => isCode c || c.before args0 about1) = true := by decide +kernel
set_option maxRecDepth 65536 in
theorem w_t3 : ((words1.drop 24).drop 24).all (fun c => isCode c || c.before args0 about1) = true := by decide +kernel
theorem w_tables : (allAtoms (Jvm.Cond.code x code maxLocals ret :: tables_1)).before args0 about1 = true := by
  rw [allAtoms_all]
  show words1.all (fun c => c.before args0 about1) = true
  refine all_split ?_ w_codes
  rw [← List.take_append_drop 24 words1, List.all_append, w_t1, ← List.take_append_drop 24 (words1.drop 24), List.all_append, w_t2, w_t3]
  rfl
set_option maxRecDepth 65536 in
theorem w_case : (Jvm.Cond.and given_1 narrow_1).before args0 about1 = true := by decide +kernel
theorem w_applies : (headSpec (Jvm.Cond.code x code maxLocals ret :: tables_1) room_1).applies x e0.platform about1 = true :=
  (Spec.applies_iff w_frames).mpr ⟨w_running, w_runnable, w_alone, w_named, w_hears, w_ripe, w_room, w_tables⟩
theorem atStart : AtStart classFile x code maxLocals ret World_1 tables_1 room_1 Calls_1 rest_1 Pre_1 launch0 p0 e0 about1 theMethod args0 below0 :=
  ⟨lists_1, trivial, launch0.admits_env _ _ _, launch0.least_env, fairChoices_fair.cas, fairChoices_fair.clock, w_frames, w_args, w_heap, w_applies, trivial, trivial, w_case⟩
end start1
theorem witness_1 : WitnessClaimed_1 := ⟨start1.p0, start1.e0, start1.about1, start1.theMethod, start1.args0, start1.below0, start1.atStart⟩
end Jvm.Pilot.@@N@@
