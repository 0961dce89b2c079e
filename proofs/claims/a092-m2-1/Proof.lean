import JvmDerived
import JvmDerived.Pilot.@@N@@Statement
import JvmDerived.Pilot.@@N@@Code
set_option linter.unusedVariables false
set_option linter.unusedSimpArgs false
namespace Jvm.RoadKit
open Sem ClassFile Op Lib Jvm.Stand Jvm.Free Jvm.LawKit
section New
variable {p : Program} {l : Launch} {e : Env} {R : Room} {s : State} {m : MethodId} {args : Array Value} {below : List Frame} {meth : Method} {c : Code} {T : State} {locs : List Loc} {cells slots : Nat}
theorem retI (X : Stand p l e R s m args below meth c T locs cells slots) (hx : p.tables.exec = Jvm.exec) {pc : Nat} {Ls : Array Slot} {z : Int32} {rest : List Value} (hret : meth.sig.returnType = some .int) (hd : decode c.code pc = .ok (.ireturn, 1)) {fs : List Frame}
    (hl : ∀ (f : JFrame) (acts : List Action), f.method = m → f.locked = none → f.entered = [] → (doReturn e (T.setTop f) acts (some (.int z))).1 = T.setFrames fs) : Steps p.tables e below (T.setTop (mkF m pc Ls (.int z :: rest))) (T.setFrames fs) :=
  retOut X hx hret rfl (Or.inl ⟨rfl, Or.inl rfl, z, rfl⟩) hd hl
theorem retJ (X : Stand p l e R s m args below meth c T locs cells slots) (hx : p.tables.exec = Jvm.exec) {pc : Nat} {Ls : Array Slot} {z : Int64} {rest : List Value} (hret : meth.sig.returnType = some .long) (hd : decode c.code pc = .ok (.lreturn, 1)) {fs : List Frame}
    (hl : ∀ (f : JFrame) (acts : List Action), f.method = m → f.locked = none → f.entered = [] → (doReturn e (T.setTop f) acts (some (.long z))).1 = T.setFrames fs) : Steps p.tables e below (T.setTop (mkF m pc Ls (.long z :: rest))) (T.setFrames fs) :=
  retOut X hx hret rfl (Or.inr (Or.inl ⟨rfl, rfl, z, rfl⟩)) hd hl
theorem narA {t : FieldType} {w : Value} (ht : t.isReference = true) (hw : w.isRef = true) : narrow t w = w := by
  rcases ref_cases hw with rfl | ⟨z, rfl⟩ <;> cases t <;> first | rfl | (simp [FieldType.isReference] at ht)
theorem retA (X : Stand p l e R s m args below meth c T locs cells slots) (hx : p.tables.exec = Jvm.exec) {pc : Nat} {Ls : Array Slot} {t : FieldType} {w : Value} {rest : List Value} (hret : meth.sig.returnType = some t) (ht : t.isReference = true) (hw : w.isRef = true) (hd : decode c.code pc = .ok (.areturn, 1)) {fs : List Frame}
    (hl : ∀ (f : JFrame) (acts : List Action), f.method = m → f.locked = none → f.entered = [] → (doReturn e (T.setTop f) acts (some w)).1 = T.setFrames fs) : Steps p.tables e below (T.setTop (mkF m pc Ls (w :: rest))) (T.setFrames fs) :=
  retOut X hx hret (narA ht hw) (Or.inr (Or.inr (Or.inr (Or.inr ⟨rfl, ht, hw⟩)))) hd hl
theorem own_pack {n0 : Nat} {L Lc : List Loc} {k n rc rs C S' : Nat} (X : Stand p l e R s m args below meth c T L k n) (hl : L = locs ++ Lc) (hk : k = cells + rc) (hn : n = slots + rs) (N : Fr n0 locs) (Nq : Fr n0 Lc) (hC : cells + rc = C) (hS : slots + rs = S') : ∃ lc, Stand p l e R s m args below meth c T lc C S' ∧ Fr n0 lc := by
  subst hl hk hn hC hS; exact ⟨_, X, N.app Nq⟩
theorem own_pack1 {n0 : Nat} {a : Addr} {sl : Nat} (X : Stand p l e R s m args below meth c T (locs ++ [⟨a, sl⟩]) cells slots) (N : Fr n0 locs) (q : n0 ≤ a) : ∃ lc, Stand p l e R s m args below meth c T lc cells slots ∧ Fr n0 lc := ⟨_, X, Fr.snoc X N q⟩
/-- the run from a comes to an end that Q allows -/
def own_G (tb : Tables) (e : Env) (below : List Frame) (s : State) (Q : Option Value → Heap → List Loc → Prop) (C S : Nat) (a : State) : Prop :=
  ∃ (t : State) (o : Outcome), Steps tb e below a t ∧ t.status = .running ∧ Ended t below o ∧ ∃ v L, o = .returned v ∧ Q v t.heap L ∧ FrameEnd s o t L C S
theorem own_thr {tb : Tables} {Q : Option Value → Heap → List Loc → Prop} {C S : Nat} {a b : State} (h : ∀ t, Steps tb e below a t → Steps tb e below b t) (g : own_G tb e below s Q C S a) : own_G tb e below s Q C S b := by
  obtain ⟨t, o, h1, h2⟩ := g; exact ⟨t, o, h t h1, h2⟩
theorem own_end (X : Stand p l e R s m args below meth c T locs cells slots) (hlk : meth.locks = false) {v : Option Value} (hv : meth.sig.returnType = none → v = none) {g : JFrame} {Q : Option Value → Heap → List Loc → Prop} {C S : Nat}
    (hr : ∀ fs, (∀ (f : JFrame) (acts : List Action), f.method = m → f.locked = none → f.entered = [] → (doReturn e (T.setTop f) acts v).1 = T.setFrames fs) → Steps p.tables e below (T.setTop g) (T.setFrames fs))
    (hQ : Q v T.heap locs) (hC : cells ≤ C) (hS : slots ≤ S) : own_G p.tables e below s Q C S (T.setTop g) := by
  obtain ⟨fs, hr', hrun, hended, hW, hsame⟩ := X.leave (v := v) hv hlk
  exact ⟨_, _, hr fs hr', hrun, hended, _, _, rfl, hQ, ⟨_, rfl⟩, hW, hsame.mono hC hS⟩
def own_GW (tb : Tables) (e : Env) (below : List Frame) (s : State) (Q : Option Value → Heap → List Loc → Prop) (C S : Nat) (a : State) : Prop :=
  ∃ (t : State) (o : Outcome), Steps tb e below a t ∧ t.status = .running ∧ Ended t below o ∧ ∃ v L, o = .returned v ∧ Q v t.heap L ∧ ReturnedEndW s o t L C S
theorem own_thrW {tb : Tables} {Q : Option Value → Heap → List Loc → Prop} {C S : Nat} {a b : State} (h : ∀ t, Steps tb e below a t → Steps tb e below b t) (g : own_GW tb e below s Q C S a) : own_GW tb e below s Q C S b := by
  obtain ⟨t, o, h1, h2⟩ := g; exact ⟨t, o, h t h1, h2⟩
theorem own_endW {vm₁ : Vm} {k : Nat} (X : Stand p l e R (s.setVm vm₁) m args below meth c T locs cells slots) (hS : s.Since vm₁ k) (hk : k ≤ T.heap.size) (hlk : meth.locks = false) {v : Option Value} (hv : meth.sig.returnType = none → v = none) {g : JFrame} {Q : Option Value → Heap → List Loc → Prop} {C S : Nat}
    (hr : ∀ fs, (∀ (f : JFrame) (acts : List Action), f.method = m → f.locked = none → f.entered = [] → (doReturn e (T.setTop f) acts v).1 = T.setFrames fs) → Steps p.tables e below (T.setTop g) (T.setFrames fs))
    (hQ : Q v T.heap locs) (hC : cells ≤ C) (hSl : slots ≤ S) : own_GW p.tables e below s Q C S (T.setTop g) := by
  obtain ⟨fs, hr', hrun, hended, hret, hW, hint, hsame⟩ := X.leaveW hS hk (v := v) hv hlk
  exact ⟨_, _, hr fs hr', hrun, hended, _, _, rfl, hQ, ⟨_, rfl⟩, hW, hint, hsame.mono hC hSl⟩
end New
end Jvm.RoadKit
@@BLOCK:LamKit.lean.txt@@
namespace Jvm.LamKit
open ClassFile Sem Op Lib Jvm.Stand Jvm.Free Jvm.LawKit Jvm.Lambda Jvm.RoadKit
theorem own_rec {vm vm' : Vm} (hA : vm.Alike vm') {d : ClassId} {k : Class} (h : vm.classes[d]? = some k) : ∃ r n x, vm'.classes[d]? = some { k with resolved := r, nestHost := n, nestHostError := x } := by
  obtain ⟨k', h1, h2⟩ := hA.2.2 d k h
  exact ⟨k'.resolved, k'.nestHost, k'.nestHostError, by rw [h1]; exact congrArg some h2⟩
/-- a made class stays made where strings may have been interned too -/
theorem own_isMade {Z : State} {vm' : Vm} (hW : Z.Warmed39 vm') {d c : ClassId} {σ : Lambda.Shape} (h : isMade { classPath := fun _ => none } Z.vm d σ c = true) : isMade { classPath := fun _ => none } vm' d σ c = true := by
  have hA := hW.alike
  obtain ⟨dk, k, ok, tk, file, cf, object, iface, t, lay, methods, target, found, hd, hk, hf, hs, ho, hi, hok, hl, hm, ht, htk, hg, hfo, -⟩ := isMade_spec h
  obtain ⟨r1, n1, x1, hd'⟩ := own_rec hA hd
  obtain ⟨r3, n3, x3, hok'⟩ := own_rec hA hok
  obtain ⟨r4, n4, x4, htk'⟩ := own_rec hA htk
  obtain ⟨k', hk', e2, -, hres, -⟩ := hW.2.2.2 _ _ hk
  obtain ⟨r2, n2, x2, rfl⟩ : ∃ r n x, k' = { k with resolved := r, nestHost := n, nestHostError := x } := ⟨_, _, _, e2⟩
  have ho' := (hA.findClass "java/lang/Object" none).trans ho
  have hi' := (hA.findClass σ.iface none).trans hi
  have ht' := (hA.findClass σ.implClass none).trans ht
  have hg' := (methodIn_ask_alike hA t σ.implName σ.implDesc.toString tk.isInterface).trans hg
  have hfo' := (methodIn_ask_alike hA iface σ.name σ.sam.toString true).trans hfo
  have hi4 : ({ tk with resolved := r4, nestHost := n4, nestHostError := x4 } : Class).isInterface = tk.isInterface := rfl
  have key : ∀ (vm : Vm) (r : Array (Option Resolved)) (D K O TK : Class), vm.classes[d]? = some D → vm.classes[c]? = some K → vm.classes[object]? = some O → vm.classes[t]? = some TK → vm.findClass "java/lang/Object" = some object → vm.findClass σ.iface = some iface → vm.findClass σ.implClass = some t →
      K.cf = some file → D.name = dk.name → O.instanceTypes = ok.instanceTypes → ((methodIn t σ.implName σ.implDesc.toString TK.isInterface none).ask { classPath := fun _ => none } vm).1 = .ok target → ((methodIn iface σ.name σ.sam.toString true none).ask { classPath := fun _ => none } vm).1 = .ok found →
      isMade { classPath := fun _ => none } vm d σ c = (decide (K.name = dk.name ++ "$$Lambda" ∧ K.kind = Kind.ordinary ∧ K.accessFlags = cf.accessFlags ∧ K.super = some object ∧ K.interfaces = #[iface] ∧ K.init = InitState.initialized) &&
        K.loader.isNone && K.hidden.isSome && K.linked && K.callSites.isEmpty && K.invokers.isEmpty && TK.isInterface == σ.implItf &&
        decide (file.majorVersion = cf.majorVersion ∧ file.constantPool = cf.constantPool ∧ file.thisClass = cf.thisClass) &&
        methods.size == K.methods.size && (methods.zip K.methods).all (fun p => sameMethod p.1 p.2) && lay.1.size == K.fields.size && (lay.1.zip K.fields).all (fun p => sameField p.1 p.2) &&
        decide (K.instanceTypes = ok.instanceTypes ++ lay.2.1 ∧ K.staticTypes = lay.2.2) &&
        (resolvedOf { classPath := fun _ => none } vm cf lay.1 c).toList.zipIdx.all (fun (x, i) => x.isNone || decide (K.resolved[i]? = some x)) &&
        (match selectMethod {} vm c found with | .method m => decide (m = (⟨c, 1⟩ : MethodId)) | _ => false)) := by
    intro vm r D K O TK a1 a2 a3 a4 a5 a6 a7 a8 a9 a10 a11 a12
    simp only [isMade, a1, a2, a3, a4, a5, a6, a7, a8, a9, a10, a11, a12, hs, hl, hm, Option.bind_eq_bind, Option.bind_some, Option.pure_def, Option.getD_some]
    rfl
  rw [key Z.vm k.resolved dk k ok tk hd hk hok htk ho hi ht hf rfl rfl hg hfo] at h
  rw [key vm' r2 _ _ _ _ hd' hk' hok' htk' ho' hi' ht' hf rfl rfl hg' hfo', resolvedOf_alike hA, hA.selectMethod]
  simp only [Bool.and_eq_true] at h ⊢
  refine ⟨⟨h.1.1, ?_⟩, h.2⟩
  have hz := h.1.2
  rw [List.all_eq_true] at hz ⊢
  intro y hy
  have q := hz y hy
  obtain ⟨x, i⟩ := y
  cases x with
  | none => rfl
  | some r =>
    simp only [Option.isNone_some, Bool.false_or, decide_eq_true_eq] at q ⊢
    rcases hres i with h1 | ⟨h1, -⟩
    · exact h1.trans q
    · rw [q] at h1; cases h1
theorem own_callable {Z s : State} (hA : Z.vm.Alike s.vm) {σ : Lambda.Shape} {c : ClassId} (h : Z.lambdaCallable σ c = true) : s.lambdaCallable σ c = true := by
  unfold State.lambdaCallable at h ⊢
  simp only [hA.findClass, hA.assignable, hA.superclasses, hA.declaredIn]
  exact h
theorem own_made {Z s : State} {host : String} {σ : Lambda.Shape} {cK : ClassId} (hZ : Z.Warmed39 s.vm) (h : Made Z host σ cK) : Made s host σ cK := by
  obtain ⟨d, dk, h1, h2, h3, h4⟩ := h
  obtain ⟨r, n, x, q⟩ := own_rec hZ.alike h1
  exact ⟨d, _, q, h2, own_isMade hZ h3, own_callable hZ.alike h4⟩
/-- the function object at a, made for σ in 'host': said of the start -/
def own_Fn (Z : State) (host : String) (σ : Lambda.Shape) (a : Addr) (cK : ClassId) : Prop := Made Z host σ cK ∧ FnAt Z.heap a cK
section Own
variable {p : Program} {l : Launch} {e : Env} {R : Room} {s Z : State} {m : MethodId} {args a0 : Array Value} {below : List Frame} {meth : Method} {c : Code} {T : State} {locs : List Loc} {cells slots : Nat}
theorem own_site (X : Stand p l e R s m args below meth c T locs cells slots) (hexec : p.tables.exec = Jvm.exec) (hZ : Z.Warmed39 s.vm) {x : MethodName} {pc index : Nat} {σ : Lambda.Shape} (hnamed : s.methodNamed? x = some m)
    (hsite : (Cond.lambdaSite x pc index σ).before a0 Z = true) (hcap : σ.captured = []) {g : JFrame} (hg : g.method = m) (hpc : g.pc = pc) (hsize : g.locals.size = c.maxLocals)
    (hdg : decode c.code g.pc = .ok (.invokedynamic index, 5)) (hwords : 2 * g.monitorRoom + (g.stack.map fun v => v.category).sum + 3072 ≤ R.locals) :
    ∃ (a : Addr) (cK : ClassId), own_Fn Z x.cls σ a cK ∧ ∀ target, Steps p.tables e below (T.setTop { g with pc := g.pc + 5, stack := .ref a :: g.stack }) target → Steps p.tables e below (T.setTop g) target := by
  obtain ⟨cK, one, hat⟩ := Cond.lambdaSite_spec hsite
  obtain ⟨mD, kD, cfD, i0, p0, lk, hmD, hkD, -, -, -, hfind, hmade, hcan, hl⟩ := State.lambdaAt?_spec hat
  have hm0 : (Z.setVm s.vm).methodNamed? x = some mD := by rw [State.methodNamed?_setVm hZ.alike]; exact hmD
  have hm1 : s.methodNamed? x = some mD := hm0
  cases hnamed.symm.trans hm1
  obtain ⟨kD', hkD', hnameD⟩ := className_of_methodNamed hmD
  cases hkD.symm.trans hkD'
  obtain ⟨r, n, z, hk1⟩ := own_rec hZ.alike hkD
  rcases hl with ⟨a, cell, rfl, -, -, hcell, hcls, hvm, -⟩ | ⟨-, -, hne⟩
  · have hw : e.platform.lambdaLinkWords = 3072 := by rw [X.admits.platform]
    refine ⟨a, cK, ⟨⟨_, kD, hkD, hnameD, hmade, hcan⟩, ⟨cell, hcell, hcls, hvm⟩⟩, fun target h => ?_⟩
    exact X.lambdaConstant hexec hg hsize hdg hk1 (by rw [hpc]; exact hfind) (by rw [hw]; exact hwords) h
  · exact absurd hcap hne
/-- one invokeinterface on the function object, whose static target has a theorem that keeps the heap -/
theorem own_lam (X : Stand p l e R s m args below meth c T locs cells slots) (hexec : p.tables.exec = Jvm.exec) (hZ : Z.Warmed39 s.vm) {own host : String} {index count : Nat} {xi y : MethodName} {σ : Lambda.Shape}
    {bytes : ByteArray} {maxL : Nat} {ret : Option FieldType} {rm : Room} {h : Heap} {n0 : Nat} {argsL argsT rest : List Value} {val : Value} {Q : Option Value → Heap → List Loc → Prop}
    (hM : MetFree l y (head1 [Cond.code y bytes maxL ret] rm) (fun a U => a = argsT.toArray ∧ Z.Warmed39 U.vm ∧ U.heap = h) (fun _ _ _ _ _ => True) (fun _ U o U' => ∃ v L, o = .returned v ∧ Q v U'.heap L ∧ FrameEnd U o U' L rm.cells rm.slots))
    (hQ : ∀ v h' L, Q v h' L → v = some val ∧ Fr n0 L ∧ h' = h)
    (hown : s.vm.findClass own = some m.cls) (hlink : (Cond.methodLink own index xi).before args s = true) (hdecl : (Cond.declares xi).before args s = true) (hface : (Cond.interfaceMethod xi.cls xi.cls xi.name xi.desc).before args s = true)
    (hcode : (Cond.code y bytes maxL ret).before args s = true) (hstat : (Cond.static y).before args s = true) (hini : (Cond.initialized y.cls).before args s = true)
    (hxi : xi.cls = σ.iface ∧ xi.name = σ.name ∧ xi.desc = σ.sam.toString) (hy : y.cls = σ.implClass ∧ y.name = σ.implName ∧ y.desc = σ.implDesc.toString)
    (hpoly : (xi.cls ≠ "java/lang/invoke/MethodHandle" ∧ xi.cls ≠ "java/lang/invoke/VarHandle") ∧ y.cls ≠ "java/lang/invoke/MethodHandle" ∧ y.cls ≠ "java/lang/invoke/VarHandle")
    {a : Addr} {cK : ClassId} (hFn : own_Fn Z host σ a cK) (O : Old Z n0 h) (eT : T.heap = h)
    {fcode : ByteArray} {fml idx ci pcI : Nat} {fret : Option FieldType} {op : Instr} (hok : fwdOK σ host fcode fml fret idx ci = true)
    (hdI : decode fcode pcI = .ok (.invokestatic idx, 3)) (hdR : decode fcode (pcI + 3) = .ok (op, 1))
    {g : JFrame} (hg : g.method = m) (hsize : g.locals.size = c.maxLocals) {L0 : Array Slot}
    (hlen : ∀ sig, parseMethodDescriptor xi.desc = some sig → argsL.length = sig.parameters.length) (hlenT : ∀ sig, parseMethodDescriptor y.desc = some sig → argsT.length = sig.parameters.length)
    (hstack : g.stack = argsL.reverse ++ .ref a :: rest) (hdg : decode c.code g.pc = .ok (.invokeinterface index count, 5))
    (hL0 : ∀ mk, entryFrame mk (Value.ref a :: argsL).toArray fml = { method := mk, pc := 0, locals := L0, stack := [], locked := none }) (hsz : L0.size = fml)
    (hload : ∀ (U : State) (ck : Code) (bl : List Frame) (target : State), At U ⟨cK, 1⟩ ck bl → ck.code = fcode → U.heap = T.heap → s.WarmedH U.vm →
      Steps p.tables e bl (U.setTop { method := ⟨cK, 1⟩, pc := pcI, locals := L0, stack := argsT.reverse, locked := none }) target → Steps p.tables e bl (U.setTop { method := ⟨cK, 1⟩, pc := 0, locals := L0, stack := [], locked := none }) target)
    (hret : RetOK fret op (some val))
    (hfr : rm.frames + 2 ≤ R.frames) (hlo : 2 * g.monitorRoom + (rest.map fun v => v.category).sum + (fml + 11) + ((maxL + 11) + rm.locals) ≤ R.locals)
    (hcells : cells + rm.cells ≤ R.cells) (hslots : slots + rm.slots ≤ R.slots) :
    ∃ (T' : State) (L : List Loc), Stand p l e R s m args below meth c T' (locs ++ L) (cells + rm.cells) (slots + rm.slots) ∧ Fr n0 L ∧ T'.heap = h ∧
      ∀ target, Steps p.tables e below (T'.setTop { g with pc := g.pc + 5, stack := val :: rest }) target → Steps p.tables e below (T.setTop g) target := by
  have hMet : Met l y [Cond.code y bytes maxL ret] rm (fun a U => a = argsT.toArray ∧ Z.Warmed39 U.vm ∧ U.heap = h) (fun _ _ o t => o = .returned (some val) ∧ t.heap = h) rm.cells rm.slots (fun a => n0 ≤ a) := by
    intro p e h1 h2 h3 s m args below hf ha hP hK
    obtain ⟨n, o, q1, q2, q3, v, L, rfl, hq, hF⟩ := hM p e h1 h2 h3 s m args below hf ha hP hK
    obtain ⟨rfl, N, e1⟩ := hQ _ _ _ hq
    exact ⟨n, _, q1, q2, q3, ⟨rfl, e1⟩, L, hF, N⟩
  have hfn : FnAt T.heap a cK := by
    obtain ⟨cell, h1, h2, h3⟩ := hFn.2
    exact ⟨cell, by rw [eT]; exact O.2.2 _ _ h1, h2, h3⟩
  obtain ⟨v, st, t, T', L, X', hL, e1, -, ⟨hv, ht⟩, hst⟩ := callLamS X hexec hMet (fun _ _ _ _ q => q) rfl rfl
    (fun w hw' a' U hU => by rw [List.mem_singleton.mp hw']; exact word_at hU (Or.inl (by first | rfl | simp [Cond.onTables, Cond.keeps, Cond.steady])) hcode) (List.mem_singleton.mpr rfl)
    hown hlink hdecl hface hcode hstat hini hxi hy hpoly (own_made hZ hFn.1) hfn hok hdI hdR hg hsize hlen hlenT hstack hdg hL0 hsz hload
    (fun st v t q => by cases q.1; exact hret) hfr hlo hcells hslots (fun U hU hh => ⟨rfl, wtrans hZ hU, hh.trans eT⟩)
  cases hv
  exact ⟨T', L, X', hL, e1.trans ht, hst⟩
end Own
end Jvm.LamKit
/- laws to paste: Road.backV (cut by pick.py; bodies as the Statement names them) -/
namespace Jvm.Pilot.@@N@@
namespace StrChars
open Jvm Sem ClassFile Op Lib Jvm.Stand Jvm.Free.XT Jvm.Free.ALB Jvm.Free.JM Jvm.Free
open Jvm.Lib.Cold (StaticIs)
/-- a char array whose places are chars -/
def Ch (a : Addr) (A : Cell) (U : State) : Prop := Arr .char a A U ∧ Typed .char A
theorem Ch.mv {a : Addr} {A : Cell} {U U' : State} (h : Ch a A U) (hal : U.vm.Alike U'.vm) (hh : U'.heap = U.heap) : Ch a A U' := ⟨h.1.mv hal hh, h.2⟩
theorem Ch.keep {a : Addr} {A : Cell} {U U' : State} (h : Ch a A U) (hal : U.vm.Alike U'.vm) (hk : U'.heap[a]? = some A) : Ch a A U' := ⟨h.1.keep hal hk, h.2⟩
/-- what place i of a char[]'s cell holds -/
def cv (A : Cell) (i : Nat) : Int32 := match A.slots[i]? with | some (.int x) => x | _ => 0
theorem Ch.get {a : Addr} {A : Cell} {U : State} (h : Ch a A U) {i : Nat} (hi : i < A.slots.size) : A.slots[i]? = some (.int (cv A i)) := by
  have e := Array.getElem?_eq_getElem hi
  have f := h.2 i _ e
  unfold cv; rw [e]
  generalize A.slots[i] = v at f
  cases v <;> simp [fits] at f ⊢
/-- the byte that i2b leaves of a char -/
def lo8 (x : Int32) : Int32 := x.toInt8.toInt32
theorem fits_lo8 (y : Int32) : fits .byte (.int (lo8 y)) = true := by
  have h1 := y.toInt8.le_toInt
  have h2 := y.toInt8.toInt_lt
  simp only [lo8, fits, Bool.and_eq_true, decide_eq_true_eq, Int32.le_iff_toInt_le, Int8.toInt_toInt32, show (-128 : Int32).toInt = -128 from by decide, show (127 : Int32).toInt = 127 from by decide]
  omega
/-- A' is A but that each place j of lo .. hi - 1 holds f j -/
def Laid (A A' : Cell) (lo hi : Nat) (f : Nat → Value) : Prop := A'.cls = A.cls ∧ A'.vm = A.vm ∧ A'.slots.size = A.slots.size ∧ ∀ i, A'.slots[i]? = if lo ≤ i ∧ i < hi then some (f i) else A.slots[i]?
theorem Laid.zero (A : Cell) (lo : Nat) (f : Nat → Value) : Laid A A lo (lo + 0) f := ⟨rfl, rfl, rfl, fun i => by rw [if_neg (by omega)]⟩
theorem Laid.step {A Ak : Cell} {lo k : Nat} {f : Nat → Value} {v : Value} (h : Laid A Ak lo k f) (hlo : lo ≤ k) (hk : k < Ak.slots.size) (hv : v = f k) : Laid A (Ak.setSlot k v) lo (k + 1) f := by
  refine ⟨h.1, h.2.1, by simpa [Cell.setSlot] using h.2.2.1, fun i => ?_⟩
  by_cases e : k = i
  · subst e; rw [Cell.slots_setSlot_self v hk, if_pos (by omega), hv]
  · rw [Cell.slots_setSlot_ne v e, h.2.2.2 i]
    by_cases q : lo ≤ i ∧ i < k
    · rw [if_pos q, if_pos (by omega)]
    · rw [if_neg q, if_neg (by omega)]
def U16 : String := "java/lang/StringUTF16"
namespace Cmp5
def yN : MethodName := ⟨"java/lang/StringUTF16", "compress", "([CI[BII)I"⟩
abbrev yB : ByteArray := jdk_52_method_21_code
theorem d0 : decode yB 0 = .ok (.iconst 0, 1) := by decide +kernel
theorem d1 : decode yB 1 = .ok (.istore 5, 2) := by decide +kernel
theorem d3 : decode yB 3 = .ok (.iload 5, 2) := by decide +kernel
theorem d5 : decode yB 5 = .ok (.iload 4, 2) := by decide +kernel
theorem d7 : decode yB 7 = .ok (.if_icmp (.ge) 37, 3) := by decide +kernel
theorem d10 : decode yB 10 = .ok (.aload_n 0, 1) := by decide +kernel
theorem d11 : decode yB 11 = .ok (.iload_n 1, 1) := by decide +kernel
theorem d12 : decode yB 12 = .ok (.caload, 1) := by decide +kernel
theorem d13 : decode yB 13 = .ok (.istore 6, 2) := by decide +kernel
theorem d15 : decode yB 15 = .ok (.iload 6, 2) := by decide +kernel
theorem d17 : decode yB 17 = .ok (.sipush 255, 3) := by decide +kernel
theorem d20 : decode yB 20 = .ok (.if_icmp (.le) 6, 3) := by decide +kernel
theorem d26 : decode yB 26 = .ok (.aload_n 2, 1) := by decide +kernel
theorem d27 : decode yB 27 = .ok (.iload_n 3, 1) := by decide +kernel
theorem d28 : decode yB 28 = .ok (.iload 6, 2) := by decide +kernel
theorem d30 : decode yB 30 = .ok (.i2b, 1) := by decide +kernel
theorem d31 : decode yB 31 = .ok (.bastore, 1) := by decide +kernel
theorem d32 : decode yB 32 = .ok (.iinc 1 1, 3) := by decide +kernel
theorem d35 : decode yB 35 = .ok (.iinc 3 1, 3) := by decide +kernel
theorem d38 : decode yB 38 = .ok (.iinc 5 1, 3) := by decide +kernel
theorem d41 : decode yB 41 = .ok (.goto (-38), 3) := by decide +kernel
theorem d44 : decode yB 44 = .ok (.iload 4, 2) := by decide +kernel
theorem d46 : decode yB 46 = .ok (.ireturn, 1) := by decide +kernel
def site : List Cond := []
def tab : Cond := tabOf yN yB 7 (some .int) site
def P (b : Addr) (A : Cell) (d : Addr) (B : Cell) (o q len : Nat) (args : Array Value) (s : State) : Prop := args = #[.ref b, .int (Int32.ofNat o), .ref d, .int (Int32.ofNat q), .int (Int32.ofNat len)] ∧ Ch b A s ∧ Arr .byte d B s ∧ b ≠ d ∧ o + len ≤ A.slots.size ∧ q + len ≤ B.slots.size ∧ ∀ i, i < len → ¬ 255 < cv A (o + i)
def E (b : Addr) (A : Cell) (d : Addr) (B : Cell) (o q len : Nat) (r : Option Value) (s u : State) : Prop := r = some (.int (Int32.ofNat len)) ∧ ∃ B', Put d B' s u ∧ Laid B B' q (q + len) (fun j => Value.int (lo8 (cv A (o + (j - q)))))
/-- no char of the range above 255: len; the places written hold each char's low byte -/
theorem law (l : Launch) (b : Addr) (A : Cell) (d : Addr) (B : Cell) (o q len : Nat) : Law l yN 5 5 0 0 yB 7 (some .int) site (P b A d B o q len) (E b A d B o q len) (copyLocs d q len) 0 0 := by
  refine Law.of_walk (plainFor_of_name (by decide +kernel)) (by decide +kernel) (by decide +kernel) (by decide) (fun _ _ h => by rw [h.1]; rfl) (fun _ U U' hal hh h => ⟨h.1, h.2.1.mv hal hh, h.2.2.1.mv hal hh, h.2.2.2⟩) (fun r U U' V V' h1 hal h2 h => ⟨h.1, h.2.elim fun B' q => ⟨B', q.1.mv h1 h2, q.2⟩⟩) ?_
  intro p e s m args below meth c s₁ X0 hexec hbytes hml hret hlk hnm hown hh0 W hP
  obtain ⟨rfl, hA, hB, hne, l1, l2, hp⟩ := hP
  have c1 : Steps p.tables e below (s₁.setTop (entryFrame m #[.ref b, .int (Int32.ofNat o), .ref d, .int (Int32.ofNat q), .int (Int32.ofNat len)] 7)) (s₁.setTop (mkF m 0 #[.val (.ref b), .val (.int (Int32.ofNat o)), .val (.ref d), .val (.int (Int32.ofNat q)), .val (.int (Int32.ofNat len)), .unset, .unset] [])) := entry rfl
  have hA0 := hA.1.mv X0.warmed.alike hh0
  have hB0 := hB.mv X0.warmed.alike hh0
  have a31 := hA.1.2.2.2
  have c2 : Steps p.tables e below (s₁.setTop (entryFrame m #[.ref b, .int (Int32.ofNat o), .ref d, .int (Int32.ofNat q), .int (Int32.ofNat len)] 7)) (s₁.setTop (mkF m 3 #[.val (.ref b), .val (.int (Int32.ofNat o)), .val (.ref d), .val (.int (Int32.ofNat q)), .val (.int (Int32.ofNat len)), .val (.int 0), .unset] [])) := c1.trans (by
    refine iconstV X0.here hexec rfl 0 (hb hbytes d0) (by decide) ?_
    refine XS.istore X0.here hexec rfl (hb hbytes d1) rfl rfl ?_
    exact Steps.refl _)
  have loop : ∀ (r i : Nat), i + r = len → ∀ (z : Slot), (z = .unset ∨ ∃ w, z = .val w ∧ w.category = 1) → ∀ (Tl : State) (Bk : Cell), Stand p l e { frames := 0, locals := 0, cells := 0, slots := 0 } s m #[.ref b, .int (Int32.ofNat o), .ref d, .int (Int32.ofNat q), .int (Int32.ofNat len)] below meth c Tl ([] ++ copyLocs d q i) 0 0 → Put d Bk s₁ Tl → Laid B Bk q (q + i) (fun j => Value.int (lo8 (cv A (o + (j - q))))) →
      Steps p.tables e below (s₁.setTop (entryFrame m #[.ref b, .int (Int32.ofNat o), .ref d, .int (Int32.ofNat q), .int (Int32.ofNat len)] 7)) (Tl.setTop (mkF m 3 #[.val (.ref b), .val (.int (Int32.ofNat (o + i))), .val (.ref d), .val (.int (Int32.ofNat (q + i))), .val (.int (Int32.ofNat len)), .val (.int (Int32.ofNat i)), z] [])) → ∃ (T' : State) (B' : Cell) (z' : Slot), Stand p l e { frames := 0, locals := 0, cells := 0, slots := 0 } s m #[.ref b, .int (Int32.ofNat o), .ref d, .int (Int32.ofNat q), .int (Int32.ofNat len)] below meth c T' ([] ++ copyLocs d q len) 0 0 ∧ Put d B' s₁ T' ∧ Laid B B' q (q + len) (fun j => Value.int (lo8 (cv A (o + (j - q))))) ∧
      Steps p.tables e below (s₁.setTop (entryFrame m #[.ref b, .int (Int32.ofNat o), .ref d, .int (Int32.ofNat q), .int (Int32.ofNat len)] 7)) (T'.setTop (mkF m 3 #[.val (.ref b), .val (.int (Int32.ofNat (o + len))), .val (.ref d), .val (.int (Int32.ofNat (q + len))), .val (.int (Int32.ofNat len)), .val (.int (Int32.ofNat len)), z'] [])) := by
    intro r
    induction r with
    | zero =>
      intro i hi z hz Tl Bk Xl pl fl cl
      have hil : i = len := by omega
      rw [hil] at Xl fl cl
      exact ⟨Tl, Bk, z, Xl, pl, fl, cl⟩
    | succ r ih =>
      intro i hi z hz Tl Bk Xl pl fl cl
      have all := X0.warmed.alike.symm.trans Xl.warmed.alike
      have hAl := hA0.keep all (pl.other hne hA0.1)
      have hBk := hB0.like all pl.1 fl.1 fl.2.1 fl.2.2.1
      have hlt : q + i < Bk.slots.size := by rw [fl.2.2.1]; omega
      have c3 : Steps p.tables e below (s₁.setTop (entryFrame m #[.ref b, .int (Int32.ofNat o), .ref d, .int (Int32.ofNat q), .int (Int32.ofNat len)] 7)) (Tl.setTop (mkF m 12 #[.val (.ref b), .val (.int (Int32.ofNat (o + i))), .val (.ref d), .val (.int (Int32.ofNat (q + i))), .val (.int (Int32.ofNat len)), .val (.int (Int32.ofNat i)), z] [.int (Int32.ofNat (o + i)), .ref b])) := cl.trans (by
        refine XS.iload Xl.here hexec rfl (hb hbytes d3) rfl ?_
        refine XS.iload Xl.here hexec rfl (hb hbytes d5) rfl ?_
        refine XS.icmpNo Xl.here hexec rfl (hb hbytes d7) rfl (ii_ge_f (lt32 (by omega) (by omega))) ?_
        refine XS.aloadN Xl.here hexec rfl (hb hbytes d10) rfl rfl ?_
        refine XS.iloadN Xl.here hexec rfl (hb hbytes d11) rfl ?_
        exact Steps.refl _)
      have c4 : Steps p.tables e below (s₁.setTop (entryFrame m #[.ref b, .int (Int32.ofNat o), .ref d, .int (Int32.ofNat q), .int (Int32.ofNat len)] 7)) (Tl.setTop (mkF m 13 #[.val (.ref b), .val (.int (Int32.ofNat (o + i))), .val (.ref d), .val (.int (Int32.ofNat (q + i))), .val (.int (Int32.ofNat len)), .val (.int (Int32.ofNat i)), z] [.int (cv A (o + i))])) := c3.trans (by
        refine Xl.aget hexec hAl rfl (hA.get (i := o + i) (by omega)) rfl rfl (hb hbytes d12) ?_
        exact Steps.refl _)
      have c5 : Steps p.tables e below (s₁.setTop (entryFrame m #[.ref b, .int (Int32.ofNat o), .ref d, .int (Int32.ofNat q), .int (Int32.ofNat len)] 7)) (Tl.setTop (mkF m 15 #[.val (.ref b), .val (.int (Int32.ofNat (o + i))), .val (.ref d), .val (.int (Int32.ofNat (q + i))), .val (.int (Int32.ofNat len)), .val (.int (Int32.ofNat i)), .val (.int (cv A (o + i)))] [])) := c4.trans (by
        refine XS.istoreS Xl.here hexec rfl (hb hbytes d13) rfl rfl hz ?_
        exact Steps.refl _)
      have c6 : Steps p.tables e below (s₁.setTop (entryFrame m #[.ref b, .int (Int32.ofNat o), .ref d, .int (Int32.ofNat q), .int (Int32.ofNat len)] 7)) (Tl.setTop (mkF m 31 #[.val (.ref b), .val (.int (Int32.ofNat (o + i))), .val (.ref d), .val (.int (Int32.ofNat (q + i))), .val (.int (Int32.ofNat len)), .val (.int (Int32.ofNat i)), .val (.int (cv A (o + i)))] [.int (lo8 (cv A (o + i))), .int (Int32.ofNat (q + i)), .ref d])) := c5.trans (by
        refine XS.iload Xl.here hexec rfl (hb hbytes d15) rfl ?_
        refine sipushV Xl.here hexec rfl 255 (hb hbytes d17) (by decide) ?_
        refine XS.icmpYes Xl.here hexec rfl (pc0 := 20) rfl (hb hbytes d20) rfl (ii_le_t (hp i (by omega))) (by decide) rfl ?_
        refine XS.aloadN Xl.here hexec rfl (hb hbytes d26) rfl rfl ?_
        refine XS.iloadN Xl.here hexec rfl (hb hbytes d27) rfl ?_
        refine XS.iload Xl.here hexec rfl (hb hbytes d28) rfl ?_
        refine i2b Xl.here hexec rfl (hb hbytes d30) rfl ?_
        exact Steps.refl _)
      obtain ⟨T7, X7, p7, st7⟩ := Xl.aput hexec hBk rfl hlt rfl (fits_lo8 (cv A (o + i))) (g := (mkF m 31 #[.val (.ref b), .val (.int (Int32.ofNat (o + i))), .val (.ref d), .val (.int (Int32.ofNat (q + i))), .val (.int (Int32.ofNat len)), .val (.int (Int32.ofNat i)), .val (.int (cv A (o + i)))] [.int (lo8 (cv A (o + i))), .int (Int32.ofNat (q + i)), .ref d])) rfl (rest := []) rfl (hb hbytes d31)
      have c8 : Steps p.tables e below (s₁.setTop (entryFrame m #[.ref b, .int (Int32.ofNat o), .ref d, .int (Int32.ofNat q), .int (Int32.ofNat len)] 7)) (T7.setTop (mkF m 32 #[.val (.ref b), .val (.int (Int32.ofNat (o + i))), .val (.ref d), .val (.int (Int32.ofNat (q + i))), .val (.int (Int32.ofNat len)), .val (.int (Int32.ofNat i)), .val (.int (cv A (o + i)))] [])) := c6.trans (st7 _ (Steps.refl _))
      have c9 : Steps p.tables e below (s₁.setTop (entryFrame m #[.ref b, .int (Int32.ofNat o), .ref d, .int (Int32.ofNat q), .int (Int32.ofNat len)] 7)) (T7.setTop (mkF m 3 #[.val (.ref b), .val (.int (Int32.ofNat (o + i) + 1)), .val (.ref d), .val (.int (Int32.ofNat (q + i) + 1)), .val (.int (Int32.ofNat len)), .val (.int (Int32.ofNat i + 1)), .val (.int (cv A (o + i)))] [])) := c8.trans (by
        refine iincV X7.here hexec rfl 1 (hb hbytes d32) (by decide) rfl rfl ?_
        refine iincV X7.here hexec rfl 1 (hb hbytes d35) (by decide) rfl rfl ?_
        refine iincV X7.here hexec rfl 1 (hb hbytes d38) (by decide) rfl rfl ?_
        refine XS.goto X7.here hexec rfl (pc0 := 41) rfl (hb hbytes d41) (by decide) rfl ?_
        exact Steps.refl _)
      have c10 : Steps p.tables e below (s₁.setTop (entryFrame m #[.ref b, .int (Int32.ofNat o), .ref d, .int (Int32.ofNat q), .int (Int32.ofNat len)] 7)) (T7.setTop (mkF m 3 #[.val (.ref b), .val (.int (Int32.ofNat (o + (i + 1)))), .val (.ref d), .val (.int (Int32.ofNat (q + (i + 1)))), .val (.int (Int32.ofNat len)), .val (.int (Int32.ofNat (i + 1))), .val (.int (cv A (o + i)))] [])) := by
        have := c9
        rw [succ32, succ32, succ32] at this
        exact this
      exact ih (i + 1) (by omega) _ (Or.inr ⟨_, rfl, rfl⟩) T7 _ (by rw [copyLocs_step, ← List.append_assoc]; exact X7) (pl.trans p7) (fl.step (by omega) hlt (by simp)) c10
  obtain ⟨T9, B9, z9, X9, p9, f9, g9⟩ := loop len 0 (by omega) .unset (Or.inl rfl) s₁ B (by simpa [copyLocs] using X0) ⟨hB0.1, fun _ _ => rfl, rfl⟩ (Laid.zero _ _ _) c2
  have c11 : Steps p.tables e below (s₁.setTop (entryFrame m #[.ref b, .int (Int32.ofNat o), .ref d, .int (Int32.ofNat q), .int (Int32.ofNat len)] 7)) (T9.setTop (mkF m 46 #[.val (.ref b), .val (.int (Int32.ofNat (o + len))), .val (.ref d), .val (.int (Int32.ofNat (q + len))), .val (.int (Int32.ofNat len)), .val (.int (Int32.ofNat len)), z9] [.int (Int32.ofNat len)])) := g9.trans (by
    refine XS.iload X9.here hexec rfl (hb hbytes d3) rfl ?_
    refine XS.iload X9.here hexec rfl (hb hbytes d5) rfl ?_
    refine XS.icmpYes X9.here hexec rfl (pc0 := 7) rfl (hb hbytes d7) rfl (ii_ge_t (nlt32 (by omega) (Nat.le_refl _))) (by decide) rfl ?_
    refine XS.iload X9.here hexec rfl (hb hbytes d44) rfl ?_
    exact Steps.refl _)
  exact ⟨T9, some (.int (Int32.ofNat len)), _, _, _, X9, by simp, rfl, rfl, (fun h => by cases h), ⟨rfl, B9, p9.from hh0, f9⟩, fun fs hl => c11.trans (X9.ireturnOut hexec hret rfl (Or.inl rfl) (hb hbytes d46) hl)⟩
end Cmp5
namespace Cmp3
def yN : MethodName := ⟨"java/lang/StringUTF16", "compress", "([CII)[B"⟩
abbrev yB : ByteArray := jdk_52_method_16_code
theorem d0 : decode yB 0 = .ok (.iload_n 2, 1) := by decide +kernel
theorem d1 : decode yB 1 = .ok (.newarray .byte, 2) := by decide +kernel
theorem d3 : decode yB 3 = .ok (.astore_n 3, 1) := by decide +kernel
theorem d4 : decode yB 4 = .ok (.aload_n 0, 1) := by decide +kernel
theorem d5 : decode yB 5 = .ok (.iload_n 1, 1) := by decide +kernel
theorem d6 : decode yB 6 = .ok (.aload_n 3, 1) := by decide +kernel
theorem d7 : decode yB 7 = .ok (.iconst 0, 1) := by decide +kernel
theorem d8 : decode yB 8 = .ok (.iload_n 2, 1) := by decide +kernel
theorem d9 : decode yB 9 = .ok (.invokestatic 115, 3) := by decide +kernel
theorem d12 : decode yB 12 = .ok (.istore 4, 2) := by decide +kernel
theorem d14 : decode yB 14 = .ok (.iload 4, 2) := by decide +kernel
theorem d16 : decode yB 16 = .ok (.iload_n 2, 1) := by decide +kernel
theorem d17 : decode yB 17 = .ok (.if_icmp (.eq) 40, 3) := by decide +kernel
theorem d57 : decode yB 57 = .ok (.aload_n 3, 1) := by decide +kernel
theorem d58 : decode yB 58 = .ok (.areturn, 1) := by decide +kernel
def site : List Cond := [.arrayClass .byte, Cmp5.tab] ++ staticW U16 115 Cmp5.yN
def tab : Cond := tabOf yN yB 6 (some (.array .byte)) site
def P (b : Addr) (A : Cell) (o len : Nat) (args : Array Value) (s : State) : Prop := args = #[.ref b, .int (Int32.ofNat o), .int (Int32.ofNat len)] ∧ Ch b A s ∧ o + len ≤ A.slots.size ∧ len ≤ 536870912 ∧ ∀ i, i < len → ¬ 255 < cv A (o + i)
def E (b : Addr) (A : Cell) (o len : Nat) (r : Option Value) (s u : State) : Prop := NewArr .byte "[B" len (fun j => .int (lo8 (cv A (o + j)))) r s u ∧ u.heap.size = s.heap.size + 1
/-- no char of the range above 255: a new byte[] of their low bytes -/
theorem law (l : Launch) (b : Addr) (A : Cell) (o len : Nat) : Law l yN 3 3 1 18 yB 6 (some (.array .byte)) site (P b A o len) (E b A o len) [] 1 len := by
  refine Law.of_walk (plainFor_of_name (by decide +kernel)) (by decide +kernel) (by decide +kernel) (by decide) (fun _ _ h => by rw [h.1]; rfl) (fun _ U U' hal hh h => ⟨h.1, h.2.1.mv hal hh, h.2.2⟩) (fun r U U' V V' h1 hal h2 h => ⟨NewArr.mv r U U' V V' h1 hal h2 h.1, by rw [h1, h2]; exact h.2⟩) ?_
  intro p e s m args below meth c s₁ X0 hexec hbytes hml hret hlk hnm hown hh0 W hP
  obtain ⟨rfl, hA, l1, l2, hp⟩ := hP
  have a31 := hA.1.2.2.2
  have c1 : Steps p.tables e below (s₁.setTop (entryFrame m #[.ref b, .int (Int32.ofNat o), .int (Int32.ofNat len)] 6)) (s₁.setTop (mkF m 0 #[.val (.ref b), .val (.int (Int32.ofNat o)), .val (.int (Int32.ofNat len)), .unset, .unset, .unset] [])) := entry rfl
  have c2 : Steps p.tables e below (s₁.setTop (entryFrame m #[.ref b, .int (Int32.ofNat o), .int (Int32.ofNat len)] 6)) (s₁.setTop (mkF m 1 #[.val (.ref b), .val (.int (Int32.ofNat o)), .val (.int (Int32.ofNat len)), .unset, .unset, .unset] [.int (Int32.ofNat len)])) := c1.trans (by
    refine XS.iloadN X0.here hexec rfl (hb hbytes d0) rfl ?_
    exact Steps.refl _)
  obtain ⟨T3, B3, X3, ba3, bs3, bv3, bh3, bf3, st3⟩ := X0.anew hexec (atype := .byte) (wk W (.arrayClass .byte)) rfl (by show len * 1 ≤ _; omega) (by omega) (g := (mkF m 1 #[.val (.ref b), .val (.int (Int32.ofNat o)), .val (.int (Int32.ofNat len)), .unset, .unset, .unset] [.int (Int32.ofNat len)])) rfl (hb hbytes d1) (rest := []) rfl (Nat.le_refl _) (by show 0 + len ≤ len; omega)
  rw [hh0] at ba3 st3
  have kp3 : XT.Kept s T3 := (XT.Kept.of_eq hh0).push bh3
  have hA3 := hA.keep X3.warmed.alike (kp3 _ _ hA.1.1)
  have hne : b ≠ s.heap.size := hA.1.ne
  have c4 : Steps p.tables e below (s₁.setTop (entryFrame m #[.ref b, .int (Int32.ofNat o), .int (Int32.ofNat len)] 6)) (T3.setTop (mkF m 3 #[.val (.ref b), .val (.int (Int32.ofNat o)), .val (.int (Int32.ofNat len)), .unset, .unset, .unset] [.ref s.heap.size])) := c2.trans (st3 _ (Steps.refl _))
  have c5 : Steps p.tables e below (s₁.setTop (entryFrame m #[.ref b, .int (Int32.ofNat o), .int (Int32.ofNat len)] 6)) (T3.setTop (mkF m 9 #[.val (.ref b), .val (.int (Int32.ofNat o)), .val (.int (Int32.ofNat len)), .val (.ref s.heap.size), .unset, .unset] [.int (Int32.ofNat len), .int 0, .ref s.heap.size, .int (Int32.ofNat o), .ref b])) := c4.trans (by
    refine XS.astoreN X3.here hexec rfl (hb hbytes d3) rfl rfl rfl ?_
    refine XS.aloadN X3.here hexec rfl (hb hbytes d4) rfl rfl ?_
    refine XS.iloadN X3.here hexec rfl (hb hbytes d5) rfl ?_
    refine XS.aloadN X3.here hexec rfl (hb hbytes d6) rfl rfl ?_
    refine iconstV X3.here hexec rfl 0 (hb hbytes d7) (by decide) ?_
    refine XS.iloadN X3.here hexec rfl (hb hbytes d8) rfl ?_
    exact Steps.refl _)
  obtain ⟨v6, T6, X6, E6, g6⟩ := X3.callS hexec (Cmp5.law l b A s.heap.size B3 o 0 len) hown (wks W (staticW U16 115 Cmp5.yN)) (wk W Cmp5.tab) (W := 0) (Nat.le_of_ble_eq_true rfl) (Nat.le_of_ble_eq_true rfl) (Nat.le_refl _) (by show 0 + len + 0 ≤ len; omega) (g := (mkF m 9 #[.val (.ref b), .val (.int (Int32.ofNat o)), .val (.int (Int32.ofNat len)), .val (.ref s.heap.size), .unset, .unset] [.int (Int32.ofNat len), .int (Int32.ofNat 0), .ref s.heap.size, .int (Int32.ofNat o), .ref b])) rfl (by rw [hml]; rfl) c5 (argsL := [.ref b, .int (Int32.ofNat o), .ref s.heap.size, .int (Int32.ofNat 0), .int (Int32.ofNat len)]) (rest := []) rfl rfl (by show 2 * 0 + 0 ≤ _; decide) (hb hbytes d9) (⟨rfl, hA3, ba3, hne, l1, by rw [bs3]; simp, hp⟩)
  obtain ⟨rfl, B6, p6, f6⟩ := E6
  have c7 : Steps p.tables e below (s₁.setTop (entryFrame m #[.ref b, .int (Int32.ofNat o), .int (Int32.ofNat len)] 6)) (T6.setTop (mkF m 12 #[.val (.ref b), .val (.int (Int32.ofNat o)), .val (.int (Int32.ofNat len)), .val (.ref s.heap.size), .unset, .unset] [.int (Int32.ofNat len)])) := g6
  have c8 : Steps p.tables e below (s₁.setTop (entryFrame m #[.ref b, .int (Int32.ofNat o), .int (Int32.ofNat len)] 6)) (T6.setTop (mkF m 58 #[.val (.ref b), .val (.int (Int32.ofNat o)), .val (.int (Int32.ofNat len)), .val (.ref s.heap.size), .val (.int (Int32.ofNat len)), .unset] [.ref s.heap.size])) := c7.trans (by
    refine XS.istore X6.here hexec rfl (hb hbytes d12) rfl rfl ?_
    refine XS.iload X6.here hexec rfl (hb hbytes d14) rfl ?_
    refine XS.iloadN X6.here hexec rfl (hb hbytes d16) rfl ?_
    refine XS.icmpYes X6.here hexec rfl (pc0 := 17) rfl (hb hbytes d17) rfl (ii_eq_t rfl) (by decide) rfl ?_
    refine XS.aloadN X6.here hexec rfl (hb hbytes d57) rfl rfl ?_
    exact Steps.refl _)
  have X8 := X6.wide (L' := []) (cells' := 1) (slots' := len) (fun x hx hlt => by
    simp only [List.nil_append, copyLocs, List.mem_map, List.mem_range] at hx
    obtain ⟨i, -, rfl⟩ := hx
    exact absurd hlt (Nat.lt_irrefl _)) (Nat.le_refl _) (by omega)
  exact ⟨T6, some (.ref s.heap.size), _, _, _, X8, rfl, rfl, rfl, (fun h => by cases h), ⟨⟨rfl, B6, ba3.like (X3.warmed.alike.symm.trans X6.warmed.alike) p6.1 f6.1 f6.2.1 f6.2.2.1, f6.2.1.trans bv3, by rw [X6.warmed.alike.findClass, f6.1]; exact bf3, by rw [f6.2.2.1, bs3]; simp, fun j hj => by rw [f6.2.2.2 j, if_pos (by omega)]; rfl, kp3.put p6 (Nat.le_refl _)⟩, by rw [p6.2.2, bh3, hh0]; simp⟩, fun fs hl => c8.trans (X8.areturnOut hexec rfl hret rfl (hb hbytes d58) hl)⟩
end Cmp3
namespace CodL
def yN : MethodName := ⟨"java/lang/StringUTF16", "coderFromArrayLen", "([BI)B"⟩
abbrev yB : ByteArray := jdk_52_method_15_code
theorem d0 : decode yB 0 = .ok (.iload_n 1, 1) := by decide +kernel
theorem d1 : decode yB 1 = .ok (.aload_n 0, 1) := by decide +kernel
theorem d2 : decode yB 2 = .ok (.arraylength, 1) := by decide +kernel
theorem d3 : decode yB 3 = .ok (.isub, 1) := by decide +kernel
theorem d4 : decode yB 4 = .ok (.bipush 31, 2) := by decide +kernel
theorem d6 : decode yB 6 = .ok (.iushr, 1) := by decide +kernel
theorem d7 : decode yB 7 = .ok (.i2b, 1) := by decide +kernel
theorem d8 : decode yB 8 = .ok (.ireturn, 1) := by decide +kernel
def site : List Cond := []
def tab : Cond := tabOf yN yB 2 (some .byte) site
def P (d : Addr) (B : Cell) (args : Array Value) (s : State) : Prop := args = #[.ref d, .int (Int32.ofNat B.slots.size)] ∧ Arr .byte d B s
def E (r : Option Value) (s u : State) : Prop := XT.PureE (some (.int 0)) r s u
/-- an array as long as the number of chars: LATIN1 -/
theorem law (l : Launch) (d : Addr) (B : Cell) : Law l yN 2 2 0 0 yB 2 (some .byte) site (P d B) E [] 0 0 := by
  refine Law.of_walk (plainFor_of_name (by decide +kernel)) (by decide +kernel) (by decide +kernel) (by decide) (fun _ _ h => by rw [h.1]; rfl) (fun _ U U' hal hh h => ⟨h.1, h.2.mv hal hh⟩) (fun r U U' V V' h1 hal h2 h => XT.PureE.mv r U U' V V' h1 hal h2 h) ?_
  intro p e s m args below meth c s₁ X0 hexec hbytes hml hret hlk hnm hown hh0 W hP
  obtain ⟨rfl, hB⟩ := hP
  have hB0 := hB.mv X0.warmed.alike hh0
  have c1 : Steps p.tables e below (s₁.setTop (entryFrame m #[.ref d, .int (Int32.ofNat B.slots.size)] 2)) (s₁.setTop (mkF m 0 #[.val (.ref d), .val (.int (Int32.ofNat B.slots.size))] [])) := entry rfl
  have c2 : Steps p.tables e below (s₁.setTop (entryFrame m #[.ref d, .int (Int32.ofNat B.slots.size)] 2)) (s₁.setTop (mkF m 2 #[.val (.ref d), .val (.int (Int32.ofNat B.slots.size))] [.ref d, .int (Int32.ofNat B.slots.size)])) := c1.trans (by
    refine XS.iloadN X0.here hexec rfl (hb hbytes d0) rfl ?_
    refine XS.aloadN X0.here hexec rfl (hb hbytes d1) rfl rfl ?_
    exact Steps.refl _)
  have c3 : Steps p.tables e below (s₁.setTop (entryFrame m #[.ref d, .int (Int32.ofNat B.slots.size)] 2)) (s₁.setTop (mkF m 8 #[.val (.ref d), .val (.int (Int32.ofNat B.slots.size))] [.int (lo8 (ushr (Int32.ofNat B.slots.size - Int32.ofNat B.slots.size) 31))])) := c2.trans (by
    refine X0.alen hexec hB0 rfl rfl (hb hbytes d2) ?_
    refine XS.isub X0.here hexec rfl (hb hbytes d3) rfl ?_
    refine bipushV X0.here hexec rfl 31 (hb hbytes d4) (by decide) ?_
    refine iushr X0.here hexec rfl (hb hbytes d6) rfl ?_
    refine i2b X0.here hexec rfl (hb hbytes d7) rfl ?_
    exact Steps.refl _)
  have e0 : lo8 (ushr (Int32.ofNat B.slots.size - Int32.ofNat B.slots.size) 31) = 0 := by rw [Int32.sub_self]; decide
  rw [e0] at c3
  exact ⟨s₁, some (.int 0), _, _, _, X0, rfl, rfl, rfl, (fun h => by cases h), ⟨rfl, hh0⟩, fun fs hl => c3.trans (X0.ireturnOut hexec hret rfl (Or.inr (Or.inr (Or.inl rfl))) (hb hbytes d8) hl)⟩
end CodL
/-- the String at a is Latin-1 over a new byte[] (the heap's one new cell): the low bytes of the len chars of A from o on; every cell but a is kept -/
def Got (a : Addr) (D : Cell) (fV fC : Field) (A : Cell) (o len : Nat) (r : Option Value) (s u : State) : Prop := r = none ∧ ∃ D' V : Cell, Blank "java/lang/String" a D' u ∧ Same D D' [fV.slot, fC.slot] ∧ D'.slots[fV.slot]? = some (.ref s.heap.size) ∧ D'.slots[fC.slot]? = some (.int 0) ∧ Arr .byte s.heap.size V u ∧ V.vm = .none ∧ u.vm.findClass "[B" = some V.cls ∧ V.slots.size = len ∧ (∀ j, j < len → V.slots[j]? = some (.int (lo8 (cv A (o + j))))) ∧ (∀ (y : Addr) (c : Cell), y ≠ a → s.heap[y]? = some c → u.heap[y]? = some c) ∧ u.heap.size = s.heap.size + 1
theorem Got.mv {a : Addr} {D A : Cell} {fV fC : Field} {o len : Nat} : ∀ r (U U' V V' : State), U'.heap = U.heap → V.vm.Alike V'.vm → V'.heap = V.heap → Got a D fV fC A o len r U V → Got a D fV fC A o len r U' V' :=
  fun r U U' V V' h1 hal h2 ⟨e0, D', X, a1, a2, a3, a4, a5, a6, a7, a8, a9, a10, a11⟩ => ⟨e0, D', X, a1.mv hal h2, a2, by rw [h1]; exact a3, a4, by rw [h1]; exact a5.mv hal h2, a6, by rw [hal.findClass]; exact a7, a8, a9, by rw [h1, h2]; exact a10, by rw [h1, h2]; exact a11⟩
namespace New4
def yN : MethodName := ⟨"java/lang/String", "<init>", "([CIILjava/lang/Void;)V"⟩
abbrev yB : ByteArray := jdk_42_method_149_code
theorem d0 : decode yB 0 = .ok (.aload_n 0, 1) := by decide +kernel
theorem d1 : decode yB 1 = .ok (.invokespecial 1, 3) := by decide +kernel
theorem d4 : decode yB 4 = .ok (.iload_n 3, 1) := by decide +kernel
theorem d5 : decode yB 5 = .ok (.ifCond (.ne) 22, 3) := by decide +kernel
theorem d27 : decode yB 27 = .ok (.getstatic 38, 3) := by decide +kernel
theorem d30 : decode yB 30 = .ok (.ifCond (.eq) 28, 3) := by decide +kernel
theorem d33 : decode yB 33 = .ok (.aload_n 1, 1) := by decide +kernel
theorem d34 : decode yB 34 = .ok (.iload_n 2, 1) := by decide +kernel
theorem d35 : decode yB 35 = .ok (.iload_n 3, 1) := by decide +kernel
theorem d36 : decode yB 36 = .ok (.invokestatic 177, 3) := by decide +kernel
theorem d39 : decode yB 39 = .ok (.astore 5, 2) := by decide +kernel
theorem d41 : decode yB 41 = .ok (.aload_n 0, 1) := by decide +kernel
theorem d42 : decode yB 42 = .ok (.aload 5, 2) := by decide +kernel
theorem d44 : decode yB 44 = .ok (.iload_n 3, 1) := by decide +kernel
theorem d45 : decode yB 45 = .ok (.invokestatic 47, 3) := by decide +kernel
theorem d48 : decode yB 48 = .ok (.putfield 15, 3) := by decide +kernel
theorem d51 : decode yB 51 = .ok (.aload_n 0, 1) := by decide +kernel
theorem d52 : decode yB 52 = .ok (.aload 5, 2) := by decide +kernel
theorem d54 : decode yB 54 = .ok (.putfield 9, 3) := by decide +kernel
theorem d57 : decode yB 57 = .ok (.return_, 1) := by decide +kernel
def site : List Cond := [.fieldLink "java/lang/String" 38 "java/lang/String" "COMPACT_STRINGS" "Z", Cmp3.tab, CodL.tab, .laysFinal "java/lang/String" "java/lang/String" "value" "[B", .fieldLink "java/lang/String" 9 "java/lang/String" "value" "[B", .laysFinal "java/lang/String" "java/lang/String" "coder" "B", .fieldLink "java/lang/String" 15 "java/lang/String" "coder" "B"] ++ objW "java/lang/String" 1 ++ staticW "java/lang/String" 177 Cmp3.yN ++ staticW "java/lang/String" 47 CodL.yN
def tab : Cond := tabOf yN yB 6 none site
def P (a : Addr) (D : Cell) (fV fC : Field) (b : Addr) (A : Cell) (z : Int32) (o len : Nat) (args : Array Value) (s : State) : Prop := args = #[.ref a, .ref b, .int (Int32.ofNat o), .int (Int32.ofNat len), .null] ∧ Blank "java/lang/String" a D s ∧ Found "java/lang/String" "value" "[B" fV s ∧ Found "java/lang/String" "coder" "B" fC s ∧ Ch b A s ∧ StaticIs s "java/lang/String" "COMPACT_STRINGS" "Z" (.int z) ∧ ¬ z = 0 ∧ 0 < len ∧ o + len ≤ A.slots.size ∧ len ≤ 536870912 ∧ ∀ i, i < len → ¬ 255 < cv A (o + i)
def E (a : Addr) (D : Cell) (fV fC : Field) (A : Cell) (o len : Nat) (r : Option Value) (s u : State) : Prop := Got a D fV fC A o len r s u
/-- len > 0, no char of the range above 255: a Latin-1 String of their low bytes -/
theorem law (l : Launch) (a : Addr) (D : Cell) (fV fC : Field) (b : Addr) (A : Cell) (z : Int32) (o len : Nat) : Law l yN 5 4 2 35 yB 6 none site (P a D fV fC b A z o len) (E a D fV fC A o len) [⟨a, fC.slot⟩, ⟨a, fV.slot⟩] 1 len := by
  refine Law.of_walk (plainFor_of_name (by decide +kernel)) (by decide +kernel) (by decide +kernel) (by decide) (fun _ _ h => by rw [h.1]; rfl) (fun _ U U' hal hh h => ⟨h.1, h.2.1.mv hal hh, h.2.2.1.al hal, h.2.2.2.1.al hal, h.2.2.2.2.1.mv hal hh, h.2.2.2.2.2.1.there hal hh, h.2.2.2.2.2.2⟩) (fun r U U' V V' h1 hal h2 h => Got.mv r U U' V V' h1 hal h2 h) ?_
  intro p e s m args below meth c s₁ X0 hexec hbytes hml hret hlk hnm hown hh0 W hP
  obtain ⟨rfl, hB, f1, f2, hA, s1, hz, l0, l1, l2, hp⟩ := hP
  have a31 := hA.1.2.2.2
  have c1 : Steps p.tables e below (s₁.setTop (entryFrame m #[.ref a, .ref b, .int (Int32.ofNat o), .int (Int32.ofNat len), .null] 6)) (s₁.setTop (mkF m 0 #[.val (.ref a), .val (.ref b), .val (.int (Int32.ofNat o)), .val (.int (Int32.ofNat len)), .val .null, .unset] [])) := entry rfl
  have c2 : Steps p.tables e below (s₁.setTop (entryFrame m #[.ref a, .ref b, .int (Int32.ofNat o), .int (Int32.ofNat len), .null] 6)) (s₁.setTop (mkF m 1 #[.val (.ref a), .val (.ref b), .val (.int (Int32.ofNat o)), .val (.int (Int32.ofNat len)), .val .null, .unset] [.ref a])) := c1.trans (by
    refine XS.aloadN X0.here hexec rfl (hb hbytes d0) rfl rfl ?_
    exact Steps.refl _)
  obtain ⟨T3, X3, q3, st3⟩ := X0.oinit hexec hown (wks W (objW "java/lang/String" 1)) (g := (mkF m 1 #[.val (.ref a), .val (.ref b), .val (.int (Int32.ofNat o)), .val (.int (Int32.ofNat len)), .val .null, .unset] [.ref a])) rfl (by rw [hml]; rfl) (rest := []) rfl (hb hbytes d1) (W := 0) (by show 2 * 0 + 0 ≤ _; decide) (Nat.le_of_ble_eq_true rfl) (Nat.le_of_ble_eq_true rfl)
  have hh3 := q3.trans hh0
  have c4 : Steps p.tables e below (s₁.setTop (entryFrame m #[.ref a, .ref b, .int (Int32.ofNat o), .int (Int32.ofNat len), .null] 6)) (T3.setTop (mkF m 27 #[.val (.ref a), .val (.ref b), .val (.int (Int32.ofNat o)), .val (.int (Int32.ofNat len)), .val .null, .unset] [])) := (c2.trans (st3 _ (Steps.refl _))).trans (by
    refine XS.iloadN X3.here hexec rfl (hb hbytes d4) rfl ?_
    refine XS.ifYes X3.here hexec rfl (pc0 := 5) rfl (hb hbytes d5) rfl (i0_ne_t (nz32 (by omega) l0)) (by decide) rfl ?_
    exact Steps.refl _)
  obtain ⟨T5, X5, q5, st5⟩ := X3.sget hexec hown (wk W (.fieldLink "java/lang/String" 38 "java/lang/String" "COMPACT_STRINGS" "Z")) s1 (fun _ _ h => by rw [hh3]; exact h) (g := (mkF m 27 #[.val (.ref a), .val (.ref b), .val (.int (Int32.ofNat o)), .val (.int (Int32.ofNat len)), .val .null, .unset] [])) rfl (hb hbytes d27)
  have hh5 := q5.trans hh3
  have c6 : Steps p.tables e below (s₁.setTop (entryFrame m #[.ref a, .ref b, .int (Int32.ofNat o), .int (Int32.ofNat len), .null] 6)) (T5.setTop (mkF m 30 #[.val (.ref a), .val (.ref b), .val (.int (Int32.ofNat o)), .val (.int (Int32.ofNat len)), .val .null, .unset] [.int z])) := c4.trans (st5 _ (Steps.refl _))
  have c7 : Steps p.tables e below (s₁.setTop (entryFrame m #[.ref a, .ref b, .int (Int32.ofNat o), .int (Int32.ofNat len), .null] 6)) (T5.setTop (mkF m 36 #[.val (.ref a), .val (.ref b), .val (.int (Int32.ofNat o)), .val (.int (Int32.ofNat len)), .val .null, .unset] [.int (Int32.ofNat len), .int (Int32.ofNat o), .ref b])) := c6.trans (by
    refine XS.ifNo X5.here hexec rfl (hb hbytes d30) rfl (i0_eq_f hz) ?_
    refine XS.aloadN X5.here hexec rfl (hb hbytes d33) rfl rfl ?_
    refine XS.iloadN X5.here hexec rfl (hb hbytes d34) rfl ?_
    refine XS.iloadN X5.here hexec rfl (hb hbytes d35) rfl ?_
    exact Steps.refl _)
  obtain ⟨v8, T8, X8, E8, g8⟩ := X5.callS hexec (Cmp3.law l b A o len) hown (wks W (staticW "java/lang/String" 177 Cmp3.yN)) (wk W Cmp3.tab) (W := 0) (Nat.le_of_ble_eq_true rfl) (Nat.le_of_ble_eq_true rfl) (Nat.le_refl _) (by show 0 + len ≤ len; omega) (g := (mkF m 36 #[.val (.ref a), .val (.ref b), .val (.int (Int32.ofNat o)), .val (.int (Int32.ofNat len)), .val .null, .unset] [.int (Int32.ofNat len), .int (Int32.ofNat o), .ref b])) rfl (by rw [hml]; rfl) c7 (argsL := [.ref b, .int (Int32.ofNat o), .int (Int32.ofNat len)]) (rest := []) rfl rfl (by show 2 * 0 + 0 ≤ _; decide) (hb hbytes d36) (⟨rfl, hA.mv X5.warmed.alike hh5, l1, l2, hp⟩)
  obtain ⟨e8, z8⟩ := E8
  obtain ⟨rfl, N, n1, n2, n3, n4, n5, n6⟩ := NewArr.mv _ T5 s _ _ hh5.symm (Vm.Alike.refl _) rfl e8
  rw [hh5] at z8
  have hB1 := hB.keep X8.warmed.alike (n6 _ _ hB.1)
  have hne : s.heap.size ≠ a := (Nat.ne_of_lt (Array.getElem?_eq_some_iff.mp hB.1).1).symm
  have c9 : Steps p.tables e below (s₁.setTop (entryFrame m #[.ref a, .ref b, .int (Int32.ofNat o), .int (Int32.ofNat len), .null] 6)) (T8.setTop (mkF m 39 #[.val (.ref a), .val (.ref b), .val (.int (Int32.ofNat o)), .val (.int (Int32.ofNat len)), .val .null, .unset] [.ref s.heap.size])) := g8
  have c10 : Steps p.tables e below (s₁.setTop (entryFrame m #[.ref a, .ref b, .int (Int32.ofNat o), .int (Int32.ofNat len), .null] 6)) (T8.setTop (mkF m 45 #[.val (.ref a), .val (.ref b), .val (.int (Int32.ofNat o)), .val (.int (Int32.ofNat len)), .val .null, .val (.ref s.heap.size)] [.int (Int32.ofNat N.slots.size), .ref s.heap.size, .ref a])) := by
    have hc : Steps p.tables e below (s₁.setTop (entryFrame m #[.ref a, .ref b, .int (Int32.ofNat o), .int (Int32.ofNat len), .null] 6)) (T8.setTop (mkF m 45 #[.val (.ref a), .val (.ref b), .val (.int (Int32.ofNat o)), .val (.int (Int32.ofNat len)), .val .null, .val (.ref s.heap.size)] [.int (Int32.ofNat len), .ref s.heap.size, .ref a])) := c9.trans (by
      refine XS.astore X8.here hexec rfl (hb hbytes d39) rfl rfl rfl ?_
      refine XS.aloadN X8.here hexec rfl (hb hbytes d41) rfl rfl ?_
      refine XS.aload X8.here hexec rfl (hb hbytes d42) rfl rfl ?_
      refine XS.iloadN X8.here hexec rfl (hb hbytes d44) rfl ?_
      exact Steps.refl _)
    rw [n4]; exact hc
  obtain ⟨v11, T11, X11, E11, g11⟩ := X8.callS hexec (CodL.law l s.heap.size N) hown (wks W (staticW "java/lang/String" 47 CodL.yN)) (wk W CodL.tab) (W := 1) (Nat.le_of_ble_eq_true rfl) (Nat.le_of_ble_eq_true rfl) (Nat.le_refl _) (by show 0 + len + 0 ≤ len; omega) (g := (mkF m 45 #[.val (.ref a), .val (.ref b), .val (.int (Int32.ofNat o)), .val (.int (Int32.ofNat len)), .val .null, .val (.ref s.heap.size)] [.int (Int32.ofNat N.slots.size), .ref s.heap.size, .ref a])) rfl (by rw [hml]; rfl) c10 (argsL := [.ref s.heap.size, .int (Int32.ofNat N.slots.size)]) (rest := [.ref a]) rfl rfl (by show 2 * 0 + (1 + 0) ≤ _; decide) (hb hbytes d45) (⟨rfl, n1⟩)
  obtain ⟨rfl, q11⟩ := E11
  have hB11 := hB1.mv (X8.warmed.alike.symm.trans X11.warmed.alike) q11
  have c12 : Steps p.tables e below (s₁.setTop (entryFrame m #[.ref a, .ref b, .int (Int32.ofNat o), .int (Int32.ofNat len), .null] 6)) (T11.setTop (mkF m 48 #[.val (.ref a), .val (.ref b), .val (.int (Int32.ofNat o)), .val (.int (Int32.ofNat len)), .val .null, .val (.ref s.heap.size)] [.int 0, .ref a])) := g11
  obtain ⟨T13, X13, p13, bl13, sl13, st13⟩ := X11.finit hexec hown (wk W (.fieldLink "java/lang/String" 15 "java/lang/String" "coder" "B")) (Or.inr ⟨_, (wk W (.laysFinal "java/lang/String" "java/lang/String" "coder" "B"))⟩) (Or.inl ⟨rfl, hnm⟩) f2 (Or.inl rfl) hB11 (t := .byte) (by decide +kernel) rfl (g := (mkF m 48 #[.val (.ref a), .val (.ref b), .val (.int (Int32.ofNat o)), .val (.int (Int32.ofNat len)), .val .null, .val (.ref s.heap.size)] [.int 0, .ref a])) rfl (rest := []) rfl (hb hbytes d48)
  have c14 : Steps p.tables e below (s₁.setTop (entryFrame m #[.ref a, .ref b, .int (Int32.ofNat o), .int (Int32.ofNat len), .null] 6)) (T13.setTop (mkF m 54 #[.val (.ref a), .val (.ref b), .val (.int (Int32.ofNat o)), .val (.int (Int32.ofNat len)), .val .null, .val (.ref s.heap.size)] [.ref s.heap.size, .ref a])) := (c12.trans (st13 _ (Steps.refl _))).trans (by
    refine XS.aloadN X13.here hexec rfl (hb hbytes d51) rfl rfl ?_
    refine XS.aload X13.here hexec rfl (hb hbytes d52) rfl rfl ?_
    exact Steps.refl _)
  obtain ⟨T15, X15, p15, bl15, sl15, st15⟩ := X13.finit hexec hown (wk W (.fieldLink "java/lang/String" 9 "java/lang/String" "value" "[B")) (Or.inr ⟨_, (wk W (.laysFinal "java/lang/String" "java/lang/String" "value" "[B"))⟩) (Or.inl ⟨rfl, hnm⟩) f1 (Or.inl rfl) bl13 (t := (.array .byte)) (by decide +kernel) rfl (g := (mkF m 54 #[.val (.ref a), .val (.ref b), .val (.int (Int32.ofNat o)), .val (.int (Int32.ofNat len)), .val .null, .val (.ref s.heap.size)] [.ref s.heap.size, .ref a])) rfl (rest := []) rfl (hb hbytes d54)
  have c16 : Steps p.tables e below (s₁.setTop (entryFrame m #[.ref a, .ref b, .int (Int32.ofNat o), .int (Int32.ofNat len), .null] 6)) (T15.setTop (mkF m 57 #[.val (.ref a), .val (.ref b), .val (.int (Int32.ofNat o)), .val (.int (Int32.ofNat len)), .val .null, .val (.ref s.heap.size)] [])) := c14.trans (st15 _ (Steps.refl _))
  have ap := apart (Or.inr ⟨_, (wk W (.laysFinal "java/lang/String" "java/lang/String" "value" "[B"))⟩) (Or.inr ⟨_, (wk W (.laysFinal "java/lang/String" "java/lang/String" "coder" "B"))⟩) f1 f2 (t₁ := .array .byte) (t₂ := .byte) (by decide +kernel) (by decide +kernel) (by decide)
  have al := X8.warmed.alike.symm.trans X15.warmed.alike
  have n7 : T11.heap[s.heap.size]? = some N := by rw [q11]; exact n1.1
  exact ⟨T15, none, _, _, _, X15, by simp, rfl, by omega, (fun _ => rfl), ⟨rfl, _, N, bl15, ((Same.refl D _).set _ (by simp)).set _ (by simp), sl15, (Cell.slots_setSlot_ne _ ap).trans sl13, n1.keep al (p15.other hne (p13.other hne n7)), n2, by rw [al.findClass]; exact n3, n4, n5, fun y c h1 h2 => p15.other h1 (p13.other h1 (by rw [q11]; exact n6 y c h2)), by rw [p15.2.2, p13.2.2, q11]; exact z8⟩, fun fs hl => c16.trans (X15.returnOut hexec hret (hb hbytes d57) hl)⟩
end New4
namespace New1
def yN : MethodName := ⟨"java/lang/String", "<init>", "([C)V"⟩
abbrev yB : ByteArray := jdk_42_method_3_code
theorem d0 : decode yB 0 = .ok (.aload_n 0, 1) := by decide +kernel
theorem d1 : decode yB 1 = .ok (.aload_n 1, 1) := by decide +kernel
theorem d2 : decode yB 2 = .ok (.iconst 0, 1) := by decide +kernel
theorem d3 : decode yB 3 = .ok (.aload_n 1, 1) := by decide +kernel
theorem d4 : decode yB 4 = .ok (.arraylength, 1) := by decide +kernel
theorem d5 : decode yB 5 = .ok (.aconst_null, 1) := by decide +kernel
theorem d6 : decode yB 6 = .ok (.invokespecial 27, 3) := by decide +kernel
theorem d9 : decode yB 9 = .ok (.return_, 1) := by decide +kernel
def site : List Cond := [New4.tab] ++ initW "java/lang/String" 27 New4.yN
def tab : Cond := tabOf yN yB 2 none site
def P (a : Addr) (D : Cell) (fV fC : Field) (b : Addr) (A : Cell) (z : Int32) (args : Array Value) (s : State) : Prop := args = #[.ref a, .ref b] ∧ Blank "java/lang/String" a D s ∧ Found "java/lang/String" "value" "[B" fV s ∧ Found "java/lang/String" "coder" "B" fC s ∧ Ch b A s ∧ StaticIs s "java/lang/String" "COMPACT_STRINGS" "Z" (.int z) ∧ ¬ z = 0 ∧ 0 < A.slots.size ∧ A.slots.size ≤ 536870912 ∧ ∀ i, i < A.slots.size → ¬ 255 < cv A i
def E (a : Addr) (D : Cell) (fV fC : Field) (A : Cell) (r : Option Value) (s u : State) : Prop := Got a D fV fC A 0 A.slots.size r s u
/-- new String(chars), not empty, no char above 255: a Latin-1 String of their low bytes -/
theorem law (l : Launch) (a : Addr) (D : Cell) (fV fC : Field) (b : Addr) (A : Cell) (z : Int32) : Law l yN 2 1 3 52 yB 2 none site (P a D fV fC b A z) (E a D fV fC A) [⟨a, fC.slot⟩, ⟨a, fV.slot⟩] 1 A.slots.size := by
  refine Law.of_walk (plainFor_of_name (by decide +kernel)) (by decide +kernel) (by decide +kernel) (by decide) (fun _ _ h => by rw [h.1]; rfl) (fun _ U U' hal hh h => ⟨h.1, h.2.1.mv hal hh, h.2.2.1.al hal, h.2.2.2.1.al hal, h.2.2.2.2.1.mv hal hh, h.2.2.2.2.2.1.there hal hh, h.2.2.2.2.2.2⟩) (fun r U U' V V' h1 hal h2 h => Got.mv r U U' V V' h1 hal h2 h) ?_
  intro p e s m args below meth c s₁ X0 hexec hbytes hml hret hlk hnm hown hh0 W hP
  obtain ⟨rfl, hB, f1, f2, hA, s1, hz, l0, l2, hp⟩ := hP
  have c1 : Steps p.tables e below (s₁.setTop (entryFrame m #[.ref a, .ref b] 2)) (s₁.setTop (mkF m 0 #[.val (.ref a), .val (.ref b)] [])) := entry rfl
  have c2 : Steps p.tables e below (s₁.setTop (entryFrame m #[.ref a, .ref b] 2)) (s₁.setTop (mkF m 6 #[.val (.ref a), .val (.ref b)] [.null, .int (Int32.ofNat A.slots.size), .int 0, .ref b, .ref a])) := c1.trans (by
    refine XS.aloadN X0.here hexec rfl (hb hbytes d0) rfl rfl ?_
    refine XS.aloadN X0.here hexec rfl (hb hbytes d1) rfl rfl ?_
    refine iconstV X0.here hexec rfl 0 (hb hbytes d2) (by decide) ?_
    refine XS.aloadN X0.here hexec rfl (hb hbytes d3) rfl rfl ?_
    refine X0.alen hexec (hA.1.mv X0.warmed.alike hh0) rfl rfl (hb hbytes d4) ?_
    refine XS.aconstNull X0.here hexec rfl (hb hbytes d5) ?_
    exact Steps.refl _)
  obtain ⟨v3, T3, X3, E3, g3⟩ := X0.callN hexec (New4.law l a D fV fC b A z 0 A.slots.size) rfl hown (wks W (initW "java/lang/String" 27 New4.yN)) (W New4.tab (by simp only [site, List.mem_cons, List.mem_append, true_or, or_true])) (W := 0) (Nat.le_of_ble_eq_true rfl) (Nat.le_of_ble_eq_true rfl) (Nat.le_refl _) (by show 0 + A.slots.size ≤ A.slots.size; omega) (g := (mkF m 6 #[.val (.ref a), .val (.ref b)] [.null, .int (Int32.ofNat A.slots.size), .int (Int32.ofNat 0), .ref b, .ref a])) rfl (by rw [hml]; rfl) c2 (argsL := [.ref b, .int (Int32.ofNat 0), .int (Int32.ofNat A.slots.size), .null]) (rest := []) rfl rfl (by show 2 * 0 + 0 ≤ _; decide) (hb hbytes d6) (⟨rfl, hB.mv X0.warmed.alike hh0, f1.al X0.warmed.alike, f2.al X0.warmed.alike, hA.mv X0.warmed.alike hh0, s1.there X0.warmed.alike hh0, hz, l0, by omega, l2, fun i hi => by rw [Nat.zero_add]; exact hp i hi⟩)
  have e0 := Got.mv _ s₁ s _ _ hh0.symm (Vm.Alike.refl _) rfl E3
  obtain rfl := e0.1
  have c4 : Steps p.tables e below (s₁.setTop (entryFrame m #[.ref a, .ref b] 2)) (T3.setTop (mkF m 9 #[.val (.ref a), .val (.ref b)] [])) := g3
  exact ⟨T3, none, _, _, _, X3, by simp, rfl, by omega, (fun _ => rfl), e0, fun fs hl => c4.trans (X3.returnOut hexec hret (hb hbytes d9) hl)⟩
theorem pays {l : Launch} {R : Room} {p : Program} {e : Env} {below : List Frame} {s : State} {sargs : Array Value} {len W : Nat} (a : Addr) (D : Cell) (fV fC : Field) (b : Addr) (A : Cell) (z : Int32) (htab : tab.before sargs s = true) (hfr : 4 ≤ R.frames) (hlo : W + 65 ≤ R.locals) :
    Back l R p e below s sargs yN len W (fun A₁ a₁ => A₁.cells + 1 ≤ R.cells ∧ A₁.slots + A.slots.size ≤ R.slots ∧ P a D fV fC b A z a₁ A₁.U) (fun A₁ _ v₁ B₁ => E a D fV fC A v₁ A₁.U B₁.U ∧ B₁.locs = A₁.locs ++ [⟨a, fC.slot⟩, ⟨a, fV.slot⟩] ∧ B₁.cells = A₁.cells + 1 ∧ B₁.slots = A₁.slots + A.slots.size) :=
  (law l a D fV fC b A z).pays htab hfr (by omega)
end New1
end StrChars
namespace StrChars.Road
open Jvm Sem ClassFile Op Lib Jvm.Stand Jvm.Free Jvm.Free.XT
open Jvm.Lib.Cold (StaticIs)
abbrev ST : String := "java/lang/String"
/-- every table word that New1's law asks, flat -/
abbrev words : List Jvm.Cond := [.code New1.yN New1.yB 2 none, .initialized ST, .methodLink ST 27 New4.yN, .instanceMethod New4.yN,
  .code New4.yN New4.yB 6 none, .fieldLink ST 38 ST "COMPACT_STRINGS" "Z", .laysFinal ST ST "value" "[B", .fieldLink ST 9 ST "value" "[B", .laysFinal ST ST "coder" "B", .fieldLink ST 15 ST "coder" "B",
  .methodLink ST 1 Lib.objectInit, .instanceMethod Lib.objectInit, .code Lib.objectInit ⟨#[0xb1]⟩ 1 none, .methodLink ST 177 Cmp3.yN, .static Cmp3.yN, .methodLink ST 47 CodL.yN, .static CodL.yN,
  .code Cmp3.yN Cmp3.yB 6 (some (.array .byte)), .initialized U16, .arrayClass .byte, .methodLink U16 115 Cmp5.yN, .static Cmp5.yN, .code Cmp5.yN Cmp5.yB 7 (some .int), .code CodL.yN CodL.yB 2 (some .byte)]
theorem tab_of {a : Array Value} {s : State} (h : ∀ w ∈ words, w.before a s = true) : New1.tab.before a s = true := by
  have h5 : Cmp5.tab.before a s = true := unparts (wk h (.code Cmp5.yN Cmp5.yB 7 (some .int))) (wks h (.initialized Cmp5.yN.cls :: Cmp5.site))
  have hc : CodL.tab.before a s = true := unparts (wk h (.code CodL.yN CodL.yB 2 (some .byte))) (wks h (.initialized CodL.yN.cls :: CodL.site))
  have q5 : ∀ w ∈ Cmp5.tab :: words, w.before a s = true := fun w hw => (List.mem_cons.mp hw).elim (fun e => e ▸ h5) (h w)
  have h3 : Cmp3.tab.before a s = true := unparts (wk q5 (.code Cmp3.yN Cmp3.yB 6 (some (.array .byte)))) (wks q5 (.initialized Cmp3.yN.cls :: Cmp3.site))
  have q3 : ∀ w ∈ Cmp3.tab :: CodL.tab :: words, w.before a s = true := fun w hw => (List.mem_cons.mp hw).elim (fun e => e ▸ h3) fun hw => (List.mem_cons.mp hw).elim (fun e => e ▸ hc) (h w)
  have h4 : New4.tab.before a s = true := unparts (wk q3 (.code New4.yN New4.yB 6 none)) (wks q3 (.initialized New4.yN.cls :: New4.site))
  have q4 : ∀ w ∈ New4.tab :: words, w.before a s = true := fun w hw => (List.mem_cons.mp hw).elim (fun e => e ▸ h4) (h w)
  exact unparts (wk q4 (.code New1.yN New1.yB 2 none)) (wks q4 (.initialized New1.yN.cls :: New1.site))
/-- the words ride from the start Z to the walk's own state -/
theorem moved {Z s : State} {a0 args : Array Value} (hZ : Z.Warmed39 s.vm) (hw : ∀ d ∈ words, d.before a0 Z = true) : ∀ d ∈ words, d.before args s = true := fun d hd => by
  have q := hw d hd
  have t : ∀ d ∈ words, d = .arrayClass .byte ∨ (d.onTables && d.keepsFace) = true := by decide +kernel
  rcases t d hd with rfl | t
  · exact RoadKit.mvA hZ q
  · exact RoadKit.mv hZ q t
/-- WHAT COMES BACK, over the tables of the start Z: h the heap at the call, h' behind it -/
def Q (Z : State) (x : Addr) (A : Cell) (h : Heap) (v : Option Value) (h' : Heap) (L : List Loc) : Prop := v = none ∧ (∀ y ∈ L, y.base = x) ∧ RoadKit.Keep h h' [x] ∧ h'.size = h.size + 1 ∧ RoadKit.Exa Z h' x ST ∧ RoadKit.Fld Z h' x ST "value" "[B" (.ref h.size) ∧ RoadKit.Fld Z h' x ST "coder" "B" (.int 0) ∧
  (∃ V : Cell, RoadKit.Arr Z h' h.size V .byte ∧ V.vm = .none ∧ Z.vm.findClass "[B" = some V.cls ∧ V.slots.size = A.slots.size ∧ ∀ j, j < A.slots.size → V.slots[j]? = some (.int (lo8 (cv A j)))) ∧
  ∀ (O n d : String) (w : Value), RoadKit.Fld Z h x O n d w → RoadKit.slotOf Z O n d ≠ RoadKit.slotOf Z ST "value" "[B" → RoadKit.slotOf Z O n d ≠ RoadKit.slotOf Z ST "coder" "B" → RoadKit.Fld Z h' x O n d w
/-- **new String(chars) AT A CALL, IN THE ROAD'S FORM**: for specialBack behind newO: x the fresh String, b the char[] with the cell A -/
theorem back {p : Program} {l : Launch} {e : Env} {R : Room} {s : State} {args : Array Value} {below : List Frame} {len W : Nat} {Z : State} {a0 : Array Value} {h : Heap} (hZ : Z.Warmed39 s.vm) (hw : ∀ d ∈ words, d.before a0 Z = true) {kI : Nat} (wi : (Jvm.Cond.instantiable ST kI).before a0 Z = true)
    {x b : Addr} {A : Cell} {z : Int32} {v0 c0 : Value} (E : RoadKit.Exa Z h x ST) (V : RoadKit.Fld Z h x ST "value" "[B" v0) (C : RoadKit.Fld Z h x ST "coder" "B" c0) (K : RoadKit.Arr Z h b A .char) (hty : Typed .char A) (S : RoadKit.Sta Z h ST "COMPACT_STRINGS" "Z" (.int z)) (hz : ¬ z = 0)
    (l0 : 0 < A.slots.size) (l2 : A.slots.size ≤ 536870912) (hp : ∀ i, i < A.slots.size → ¬ 255 < cv A i) (hfr : 4 ≤ R.frames) (hlo : W + 65 ≤ R.locals) :
    Back l R p e below s args New1.yN len W (fun P a => a = #[.ref x, .ref b] ∧ P.U.heap = h ∧ P.cells + 1 ≤ R.cells ∧ P.slots + A.slots.size ≤ R.slots)
      (fun P _ v B => ∃ L, Q Z x A h v B.U.heap L ∧ B.locs = P.locs ++ L ∧ B.cells = P.cells + 1 ∧ B.slots = P.slots + A.slots.size) := by
  intro m meth c P g ig mk a X hg hsize hdg hW hn hp'
  obtain ⟨rfl, rfl, r1, r2⟩ := hp'
  have al : Z.vm.Alike P.U.vm := hZ.alike.trans X.warmed.alike
  obtain ⟨D, cfV, kV, iV, fV, hD, gV, stV, knV, obV, asV, slV⟩ := id V
  obtain ⟨D', cfC, kC, iC, fC, hD', gC, stC, -, -, asC, slC⟩ := id C
  cases hD.symm.trans hD'
  obtain ⟨D2, kD, e1, e2, e3, e4, e5⟩ := id E
  cases hD.symm.trans e1
  obtain ⟨c2, k2, i1, i2, i3, -⟩ := Cond.instantiable_spec wi
  cases e2.symm.trans i1
  cases e3.symm.trans i2
  obtain ⟨kU, u1, u2⟩ := al.2.2 _ _ e3
  have hB : Blank ST x D P.U := ⟨hD, ⟨knV, fun q hq => by rw [hq] at obV; cases obV⟩, by rw [al.findClass]; exact e2, kU, u1, by rw [u2]; exact i3, by rw [u2]; exact e5 i3⟩
  have F1 : Found ST "value" "[B" fV P.U := ⟨SBG.found_only al ⟨cfV, kV, iV, gV⟩, stV⟩
  have F2 : Found ST "coder" "B" fC P.U := ⟨SBG.found_only al ⟨cfC, kC, iC, gC⟩, stC⟩
  have hA : Ch b A P.U := ⟨⟨K.1, State.isArrayOf_alike al K.2.1, K.2.2, by omega⟩, hty⟩
  have hS : StaticIs P.U ST "COMPACT_STRINGS" "Z" (.int z) := by
    obtain ⟨cfS, iS, kS, fS, st, cS, t1, t2, t3, t4, t5, t6, t7⟩ := S
    exact StaticIs.there (s := { Z with heap := P.U.heap }) ⟨cfS, iS, kS, fS, st, cS, t1, t2, t3, t4, t5, (fun q => by rw [q] at t6; cases t6), t7⟩ al rfl
  obtain ⟨v, B, X', ⟨⟨hv, E', V', q1, q2, q3, q4, q5, q6, q7, q8, q9, q10, q11⟩, hl, hc, hs⟩, st⟩ := New1.pays x D fV fC b A z (tab_of (moved hZ hw)) hfr hlo m meth c P g ig mk _ X hg hsize hdg hW hn ⟨r1, r2, rfl, hB, F1, F2, hA, hS, hz, l0, l2, hp⟩
  have al' : Z.vm.Alike B.U.vm := hZ.alike.trans X'.warmed.alike
  have hsz : E'.slots.size = D.slots.size := by
    obtain ⟨-, -, -, kB, w1, w2, w3⟩ := q1
    obtain ⟨kB', y1, y2⟩ := al'.2.2 _ _ e3
    rw [q2.2.1] at w1
    cases w1.symm.trans y1
    rw [w3, e5 i3, y2]
  refine ⟨v, B, X', ⟨_, ⟨hv, ?_, ⟨by omega, fun y cy hy hn' => q10 y cy (by simpa using hn') hy, fun y cy hy => ?_⟩, q11, ⟨E', _, q1.1, by rw [q2.2.1]; exact e2, by rw [q2.2.1]; exact e3, by rw [q2.1]; exact obV, fun _ => by rw [hsz]; exact e5 i3⟩,
    ⟨E', cfV, kV, iV, fV, q1.1, gV, stV, by rw [q2.1]; exact knV, by rw [q2.1]; exact obV, by rw [q2.2.1]; exact asV, q3⟩, ⟨E', cfC, kC, iC, fC, q1.1, gC, stC, by rw [q2.1]; exact knV, by rw [q2.1]; exact obV, by rw [q2.2.1]; exact asC, q4⟩,
    ⟨V', ⟨q5.1, State.isArrayOf_alike al'.symm q5.2.1, q5.2.2.1⟩, q6, by rw [← al'.findClass]; exact q7, q8, fun j hj => by have := q9 j hj; rwa [Nat.zero_add] at this⟩, fun O n d w F n1 n2 => ?_⟩, hl, hc, hs⟩, st⟩
  · intro y hy
    simp only [List.mem_cons, List.not_mem_nil, or_false] at hy
    rcases hy with rfl | rfl <;> rfl
  · by_cases q : y = x
    · subst q
      cases hD.symm.trans hy
      exact ⟨E', q1.1, q2.2.1, q2.1, hsz⟩
    · exact ⟨cy, q10 y cy q hy, rfl, rfl, rfl⟩
  · obtain ⟨D3, cf, k, i, f, g1, g2, g3, g4, g5, g6, g7⟩ := F
    cases hD.symm.trans g1
    simp only [RoadKit.slotOf, g2, gV, gC, Option.map_some, Option.getD_some] at n1 n2
    exact ⟨E', cf, k, i, f, q1.1, g2, g3, by rw [q2.1]; exact g4, by rw [q2.1]; exact g5, by rw [q2.2.1]; exact g6, by rw [q2.2.2 f.slot (by simp [n1, n2])]; exact g7⟩
end StrChars.Road
namespace StrChars.Road
open Jvm Sem ClassFile Op Lib Jvm.Stand Jvm.Free Jvm.Free.XT
/-- WHAT COMES BACK, the byte[] as a list of values -/
def QA (Z : State) (x : Addr) (zn : Int32) (cs : List Int32) (h : Heap) (v : Option Value) (h' : Heap) (L : List Loc) : Prop := v = none ∧ (∀ y ∈ L, y.base = x) ∧ RoadKit.Keep h h' [x] ∧ h'.size = h.size + 1 ∧ RoadKit.Exa Z h' x ST ∧ RoadKit.Fld Z h' x ST "value" "[B" (.ref h.size) ∧ RoadKit.Fld Z h' x ST "coder" "B" (.int 0) ∧
  (∃ kb, Z.vm.findClass "[B" = some kb ∧ RoadKit.Arv Z h' h.size kb .byte zn (cs.map fun c => .int (lo8 c)) (.int 0)) ∧
  ∀ (O n d : String) (w : Value), RoadKit.Fld Z h x O n d w → RoadKit.slotOf Z O n d ≠ RoadKit.slotOf Z ST "value" "[B" → RoadKit.slotOf Z O n d ≠ RoadKit.slotOf Z ST "coder" "B" → RoadKit.Fld Z h' x O n d w
/-- **new String(chars) AT A CALL, THE ARRAYS AS LISTS**: the char[] at b holds cs, not empty, no char above 255 -/
theorem backArv {p : Program} {l : Launch} {e : Env} {R : Room} {s : State} {args : Array Value} {below : List Frame} {len W : Nat} {Z : State} {a0 : Array Value} {h : Heap} (hZ : Z.Warmed39 s.vm) (hw : ∀ d ∈ words, d.before a0 Z = true) {kI : Nat} (wi : (Jvm.Cond.instantiable ST kI).before a0 Z = true)
    {x b : Addr} {k : ClassId} {zn z : Int32} {cs : List Int32} {dv v0 c0 : Value} (E : RoadKit.Exa Z h x ST) (V : RoadKit.Fld Z h x ST "value" "[B" v0) (C : RoadKit.Fld Z h x ST "coder" "B" c0) (K : RoadKit.Arv Z h b k .char zn (cs.map Value.int) dv) (S : RoadKit.Sta Z h ST "COMPACT_STRINGS" "Z" (.int z)) (hz : ¬ z = 0)
    (hlen : zn.toNatClampNeg = cs.length) (h0 : 0 < cs.length) (hbig : cs.length ≤ 536870912) (hall : ∀ c ∈ cs, ¬ 255 < c) (hfr : 4 ≤ R.frames) (hlo : W + 65 ≤ R.locals) :
    Back l R p e below s args New1.yN len W (fun P a => a = #[.ref x, .ref b] ∧ P.U.heap = h ∧ P.cells + 1 ≤ R.cells ∧ P.slots + cs.length ≤ R.slots)
      (fun P _ v B => ∃ L, QA Z x zn cs h v B.U.heap L ∧ B.locs = P.locs ++ L ∧ B.cells = P.cells + 1 ∧ B.slots = P.slots + cs.length) := by
  obtain ⟨A, K1, K2, K3, K4, K5, K6⟩ := K
  have e : A.slots.size = cs.length := K3.trans hlen
  have hat : ∀ (i : Nat) (hi : i < cs.length), A.slots[i]? = some (.int cs[i]) := fun i hi => by rw [K5 i (by omega)]; simp [List.getD_eq_getElem?_getD, hi]
  have hcv : ∀ (i : Nat) (hi : i < cs.length), cv A i = cs[i] := fun i hi => by unfold cv; rw [hat i hi]
  have hty : Typed .char A := fun i v hv => by
    have hi : i < A.slots.size := (Array.getElem?_eq_some_iff.mp hv).1
    have q := K5 i hi
    rw [hv] at q
    rw [Option.some.inj q]
    exact K6 i hi
  refine Back.mono (back hZ hw wi E V C K1 hty S hz (by omega) (by omega) (fun i hi => by rw [hcv i (by omega)]; exact hall _ (List.getElem_mem _)) hfr hlo) (fun P a hp => ⟨hp.1, hp.2.1, hp.2.2.1, by rw [e]; exact hp.2.2.2⟩) (fun P a v B hp hq => ?_)
  obtain ⟨L, ⟨q1, q2, q3, q4, q5, q6, q7, ⟨V', v1, v2, v3, v4, v5⟩, q9⟩, hl, hc, hs⟩ := hq
  refine ⟨L, ⟨q1, q2, q3, q4, q5, q6, q7, ⟨V'.cls, v3, V', v1, rfl, by rw [v4, e, hlen], K4, fun i hi => ?_, fun i hi => ?_⟩, q9⟩, hl, hc, by rw [hs, e]⟩
  · have hi' : i < cs.length := by omega
    rw [v5 i (by omega), hcv i hi']; simp [List.getD_eq_getElem?_getD, hi']
  · have hi' : i < cs.length := by omega
    simp only [List.getD_eq_getElem?_getD, List.getElem?_map, List.getElem?_eq_getElem hi', Option.map_some, Option.getD_some]
    exact fits_lo8 _
end StrChars.Road
namespace StrChars.Road
open Jvm Sem ClassFile Op Lib Jvm.Stand Jvm.Free Jvm.Free.XT
/-- WHAT COMES BACK, in the writer's own shape -/
def QV (Z : State) (x : Addr) (N : Int32) (bs : List Int32) (h : Heap) (n0 : Nat) (v : Option Value) (h' : Heap) (L : List Loc) : Prop := v = none ∧ RoadKit.Fr n0 L ∧ RoadKit.Keep h h' [x] ∧ RoadKit.Exa Z h' x ST ∧ RoadKit.Fld Z h' x ST "coder" "B" (.int 0) ∧
  ∃ (t : Addr) (kb : ClassId), n0 ≤ t ∧ h.size ≤ t ∧ ¬ t = x ∧ RoadKit.Fld Z h' x ST "value" "[B" (.ref t) ∧ RoadKit.Arv Z h' t kb .byte N (bs.map Value.int) (.int 0)
/-- **new String(chars) AT A CALL, FOR THE WRITER**: a char[] of n known ints, each 0 to 255 -/
theorem backV {p : Program} {l : Launch} {e : Env} {R : Room} {s : State} {args : Array Value} {below : List Frame} {len W : Nat} {Z : State} {a0 : Array Value} {h : Heap} (hZ : Z.Warmed39 s.vm) (hw : ∀ d ∈ words, d.before a0 Z = true) {kI : Nat} (wi : (Jvm.Cond.instantiable ST kI).before a0 Z = true)
    {x b : Addr} {kC : ClassId} {cs bs : List Int32} {d v0 c0 : Value} {z N : Int32} {n n0 : Nat} (hx0 : n0 ≤ x) (hh0 : n0 ≤ h.size) (E : RoadKit.Exa Z h x ST) (V : RoadKit.Fld Z h x ST "value" "[B" v0) (C : RoadKit.Fld Z h x ST "coder" "B" c0) (K : RoadKit.Arv Z h b kC .char N (cs.map Value.int) d) (S : RoadKit.Sta Z h ST "COMPACT_STRINGS" "Z" (.int z)) (hz : ¬ z = 0)
    (hn : cs.length = n) (hN : N = Int32.ofNat n) (l0 : 0 < n) (l2 : n ≤ 4000) (hp : ∀ c ∈ cs, ¬ c < 0 ∧ ¬ (255 : Int32) < c) (hb : bs = cs.map (fun c => c.toInt8.toInt32)) (hfr : 4 ≤ R.frames) (hlo : W + 65 ≤ R.locals) :
    Back l R p e below s args (⟨"java/lang/String", "<init>", "([C)V"⟩ : MethodName) len W (fun P a => a = #[.ref x, .ref b] ∧ P.U.heap = h ∧ P.cells + 1 ≤ R.cells ∧ P.slots + n ≤ R.slots)
      (fun P _ v B => ∃ L, QV Z x N bs h n0 v B.U.heap L ∧ B.locs = P.locs ++ L ∧ B.cells = P.cells + 1 ∧ B.slots = P.slots + n) := by
  subst hn hN hb
  refine Back.mono (backArv hZ hw wi E V C K S hz (n32 (by omega)) l0 (by omega) (fun c hc => (hp c hc).2) hfr hlo) (fun P a hp => hp) (fun P a v B hp hq => ?_)
  obtain ⟨L, ⟨q1, q2, q3, q4, q5, q6, q7, ⟨kb, v1, v2⟩, q9⟩, hl, hc, hs⟩ := hq
  exact ⟨L, ⟨q1, fun y hy => by rw [q2 y hy]; exact hx0, q3, q5, q7, h.size, kb, hh0, Nat.le_refl _, Nat.ne_of_gt E.lt, q6, by rw [List.map_map]; exact v2⟩, hl, hc, hs⟩
end StrChars.Road
end Jvm.Pilot.@@N@@

namespace Jvm.Pilot.@@N@@
open Jvm Jvm.ClassFile Sem Op Lib Jvm.Free Jvm.Stand Jvm.LawKit Jvm.RoadKit Bundle Jvm.Pilot.@@N@@.Jvm.D
theorem own_sa : ∀ a ∈ Bundle.stringAtoms, a ∈ tables_1 := by decide +kernel
theorem own_i2c {c : Int32} (H : 32 ≤ c.toInt ∧ c.toInt ≤ 126) : c.toUInt32.toUInt16.toUInt32.toInt32 = c := by
  rw [← Int32.toInt_inj]
  have h := c_i2c c
  omega
theorem own_lo {c : Int32} (H : 32 ≤ c.toInt ∧ c.toInt ≤ 126) : c.toInt8.toInt32 = c := by
  rw [← Int32.toInt_inj]
  have h := c_i2b c
  omega
theorem own_and {c : Int32} (H : 32 ≤ c.toInt ∧ c.toInt ≤ 126) : c &&& (255 : Int32) = c := by
  rw [← Int32.toInt_inj]
  have h := c_mask c 255 8 (by decide) (by decide)
  omega
theorem own_in {c : Int32} (H : 32 ≤ c.toInt ∧ c.toInt ≤ 126) : ¬ c < 0 ∧ ¬ (255 : Int32) < c := by
  have h0 : (0 : Int32).toInt = 0 := rfl
  have h1 : (255 : Int32).toInt = 255 := rfl
  constructor <;> rw [Int32.lt_iff_toInt_lt] <;> omega
theorem own_ch {c : Int32} (H : 32 ≤ c.toInt ∧ c.toInt ≤ 126) : nar .char (nar .char ((c &&& (255 : Int32)).toUInt32.toUInt16.toUInt32.toInt32)) = c := by
  show ((c &&& (255 : Int32)).toUInt32.toUInt16.toUInt32.toInt32.toUInt32.toUInt16.toUInt32.toInt32.toUInt32.toUInt16.toUInt32.toInt32) = c
  rw [own_and H, own_i2c H, own_i2c H, own_i2c H]
theorem own_b2 {c : Int32} (H : 32 ≤ c.toInt ∧ c.toInt ≤ 126) : (c.toInt8.toInt32).toInt8.toInt32 = c := by rw [own_lo H, own_lo H]
theorem own_ln (x : Int32) : (1 : Int32) + (x &&& (3 : Int32)) = 1 ∨ (1 : Int32) + (x &&& (3 : Int32)) = 2 ∨ (1 : Int32) + (x &&& (3 : Int32)) = 3 ∨ (1 : Int32) + (x &&& (3 : Int32)) = 4 := by
  have h := c_mask x 3 2 (by decide) (by decide)
  have a := c_iadd (1 : Int32) (x &&& (3 : Int32))
  have r := rng32 ((1 : Int32) + (x &&& (3 : Int32)))
  have e1 : (1 : Int32).toInt = 1 := rfl
  have e2 : (2 : Int32).toInt = 2 := rfl
  have e3 : (3 : Int32).toInt = 3 := rfl
  have e4 : (4 : Int32).toInt = 4 := rfl
  simp only [← Int32.toInt_inj]; omega
abbrev own_sig : Lambda.Shape := Jvm.Lambda.Shape.mk "java/util/function/IntPredicate" "test" ⟨[.int], some .boolean⟩ [] 6 "com/example/chronoshard/chronoshard/model/Limits" "lambda$checkInstanceId$1" ⟨[.int], some .boolean⟩ false ⟨[.int], some .boolean⟩
def own_fc : ByteArray := ⟨#[0x1b, 0xb8, 0x00, 0x11, 0xac]⟩
theorem own_fwd : Jvm.LamKit.fwdOK own_sig "com/example/chronoshard/chronoshard/model/Limits" own_fc 2 (some .boolean) 17 14 = true := by decide +kernel
theorem own_g0 : decode own_fc 0 = .ok (.iload_n 1, 1) := by decide +kernel
theorem own_g1 : decode own_fc 1 = .ok (.invokestatic 17, 3) := by decide +kernel
theorem own_g4 : decode own_fc 4 = .ok (.ireturn, 1) := by decide +kernel
theorem own_sw : ∀ a ∈ StrChars.Road.words, a ∈ tables_1 := by decide +kernel
theorem own_fa {P : Int32 → Prop} {a : Int32} {l : List Int32} (h : P a) (t : ∀ x ∈ l, P x) : ∀ x ∈ a :: l, P x := by
  intro x hx
  cases hx with
  | head => exact h
  | tail _ hx => exact t x hx
theorem own_f0 {P : Int32 → Prop} : ∀ x ∈ ([] : List Int32), P x := fun x hx => by cases hx
theorem d1_0 : decode method_2_code 0 = .ok (.bipush 32, 2) := by decide +kernel
theorem d1_2 : decode method_2_code 2 = .ok (.iload_n 0, 1) := by decide +kernel
theorem d1_3 : decode method_2_code 3 = .ok (.ldc 7, 2) := by decide +kernel
theorem d1_5 : decode method_2_code 5 = .ok (.iand, 1) := by decide +kernel
theorem d1_6 : decode method_2_code 6 = .ok (.bipush 95, 2) := by decide +kernel
theorem d1_8 : decode method_2_code 8 = .ok (.irem, 1) := by decide +kernel
theorem d1_9 : decode method_2_code 9 = .ok (.iadd, 1) := by decide +kernel
theorem d1_10 : decode method_2_code 10 = .ok (.i2c, 1) := by decide +kernel
theorem d1_11 : decode method_2_code 11 = .ok (.ireturn, 1) := by decide +kernel
theorem pn_com_example_chronoshard_chronoshard_model_LimitsCheckInstanceIdPinLaw : plainName "com/example/chronoshard/chronoshard/model/LimitsCheckInstanceIdPinLaw" = true := by first | (simp [plainName, overriddenIn]; done) | decide +kernel
theorem ef_rmP (m : MethodId) (p0 : Int32)  : entryFrame m #[(.int p0)] 1 = mkF m 0 #[.val (.int p0)] [] := by first |  (simp [entryFrame, mkF, argsToLocals, Value.category]; done) | rfl
def f_rmP (p0 : Int32) : Int32 := (nar .char (((32 : Int32) + ((p0 &&& (2147483647 : Int32)) % (95 : Int32))).toUInt32.toUInt16.toUInt32.toInt32))
def Q_rmP (Z : State) (p0 : Int32) (h0 : Heap) (n0 : Nat) (v : Option Value) (h : Heap) (L : List Loc) : Prop := v = some (.int (f_rmP p0)) ∧ Fr n0 L ∧ h = h0
set_option maxRecDepth 65536 in
set_option maxHeartbeats 40000000 in
theorem rmP (l : Launch) (Z : State) (a0 : Array Value) (hw : ∀ d ∈ tables_1, d.before a0 Z = true) (ws : List Jvm.Cond) (p0 : Int32) (h0 : Heap) (n0 : Nat) (Z0 : n0 ≤ h0.size) :
    MetFree l (⟨"com/example/chronoshard/chronoshard/model/LimitsCheckInstanceIdPinLaw", "printable", "(I)C"⟩ : MethodName) (head1 (Jvm.Cond.code (⟨"com/example/chronoshard/chronoshard/model/LimitsCheckInstanceIdPinLaw", "printable", "(I)C"⟩ : MethodName) method_2_code 1 (some .char) :: ws) ({ frames := 0, cells := 0, slots := 0, locals := 0 } : Room)) (fun a U => a = #[(.int p0)] ∧ Z.Warmed39 U.vm ∧ U.heap = h0) (fun _ _ _ _ _ => True) (fun _ U o U' => ∃ v L, o = .returned v ∧ Q_rmP Z p0 h0 n0 v U'.heap L ∧ FrameEnd U o U' L ({ frames := 0, cells := 0, slots := 0, locals := 0 } : Room).cells ({ frames := 0, cells := 0, slots := 0, locals := 0 } : Room).slots) := by
  refine MetFree.of_bodySF (plainFor_of_name pn_com_example_chronoshard_chronoshard_model_LimitsCheckInstanceIdPinLaw) hisR ?_
  intro p e s m args below meth c s₁ Bd hml0 hP hK
  obtain ⟨rfl, hZ, hh⟩ := hP
  have hx := Bd.exec
  have hby := Bd.bytes
  have hml : c.maxLocals = 1 := hml0
  have hown : s.vm.findClass "com/example/chronoshard/chronoshard/model/LimitsCheckInstanceIdPinLaw" = some m.cls := findClass_of_methodNamed Bd.named
  have hnm := (name_of_methodNamed Bd.named Bd.method).1
  have hlk := Bd.notSynchronized
  have X0 : Stand p l e ({ frames := 0, cells := 0, slots := 0, locals := 0 } : Room) s m #[(.int p0)] below meth c s₁ [] 0 0 := Stand.of_body Bd
  have e0 : s₁.heap = h0 := by rw [← hh, Bd.state]; rfl
  have N0 := Fr.nil n0
  show own_G p.tables e below s (Q_rmP Z p0 h0 n0) ({ frames := 0, cells := 0, slots := 0, locals := 0 } : Room).cells ({ frames := 0, cells := 0, slots := 0, locals := 0 } : Room).slots _
  refine own_thr (a := s₁.setTop (mkF m 0 #[.val (.int p0)] [])) (fun t kt => castTop (ef_rmP m p0) kt) ?_
  refine own_thr (a := s₁.setTop (mkF m 11 #[.val (.int p0)] [(.int (((32 : Int32) + ((p0 &&& (2147483647 : Int32)) % (95 : Int32))).toUInt32.toUInt16.toUInt32.toInt32))])) (fun t kt => ?_) ?_
  · show Steps p.tables e below (s₁.setTop (mkF m 0 #[.val (.int p0)] [])) _
    refine XS.bipush X0.here hx rfl (hb hby d1_0) ?_
    refine XS.iloadN X0.here hx rfl (hb hby d1_2) rfl ?_
    refine X0.ldcInt hx hown (mvT hZ (hw _ (List.mem_of_getElem? (i := 4) rfl))) (g := (mkF m 3 #[.val (.int p0)] [(.int p0), (.int (32 : Int32))])) rfl (hb hby d1_3) _ ?_
    refine XS.iand X0.here hx rfl (hb hby d1_5) rfl ?_
    refine XS.bipush X0.here hx rfl (hb hby d1_6) ?_
    refine iremM X0 hx rfl (hb hby d1_8) rfl (by decide) ?_
    refine XS.iadd X0.here hx rfl (hb hby d1_9) rfl ?_
    refine XS.i2c X0.here hx rfl (hb hby d1_10) rfl ?_
    exact kt
  exact own_end X0 hlk (v := some (.int (nar .char (((32 : Int32) + ((p0 &&& (2147483647 : Int32)) % (95 : Int32))).toUInt32.toUInt16.toUInt32.toInt32)))) (fun h => by rw [Bd.returns] at h; cases h) (fun fs hr => retN X0 hx (t := .char) Bd.returns (by simp) (hb hby d1_11) hr) (by rw [e0]; exact ⟨(by rw [f_rmP]), N0, rfl⟩) (by decide : 0 ≤ _) (by decide : 0 ≤ _)
theorem own_pr (x : Int32) : 32 ≤ (f_rmP x).toInt ∧ (f_rmP x).toInt ≤ 126 := by
  unfold f_rmP
  have h1 := (c_and x 2147483647 (by decide)).1
  obtain ⟨h2, h3, -⟩ := (c_iremV (x &&& (2147483647 : Int32)) (95 : Int32)).1 h1 (by decide)
  have e95 : (95 : Int32).toInt = 95 := rfl
  have e32 : (32 : Int32).toInt = 32 := rfl
  have a := c_iadd (32 : Int32) ((x &&& (2147483647 : Int32)) % (95 : Int32))
  have r := rng32 ((32 : Int32) + ((x &&& (2147483647 : Int32)) % (95 : Int32)))
  have H : 32 ≤ ((32 : Int32) + ((x &&& (2147483647 : Int32)) % (95 : Int32))).toInt ∧ ((32 : Int32) + ((x &&& (2147483647 : Int32)) % (95 : Int32))).toInt ≤ 126 := by omega
  generalize (32 : Int32) + ((x &&& (2147483647 : Int32)) % (95 : Int32)) = y at H ⊢
  show 32 ≤ (y.toUInt32.toUInt16.toUInt32.toInt32.toUInt32.toUInt16.toUInt32.toInt32).toInt ∧ (y.toUInt32.toUInt16.toUInt32.toInt32.toUInt32.toUInt16.toUInt32.toInt32).toInt ≤ 126
  rw [own_i2c H, own_i2c H]; exact H
theorem d3_0 : decode jdk_43_method_3_code 0 = .ok (.iload_n 0, 1) := by decide +kernel
theorem d3_1 : decode jdk_43_method_3_code 1 = .ok (.sipush 255, 3) := by decide +kernel
theorem d3_4 : decode jdk_43_method_3_code 4 = .ok (.if_icmp .gt 7, 3) := by decide +kernel
theorem d3_11 : decode jdk_43_method_3_code 11 = .ok (.iconst 0, 1) := by decide +kernel
theorem d3_12 : decode jdk_43_method_3_code 12 = .ok (.ireturn, 1) := by decide +kernel
theorem d3_7 : decode jdk_43_method_3_code 7 = .ok (.iconst 1, 1) := by decide +kernel
theorem d3_8 : decode jdk_43_method_3_code 8 = .ok (.goto 4, 3) := by decide +kernel
theorem pn_java_lang_StringLatin1 : plainName "java/lang/StringLatin1" = true := by first | (simp [plainName, overriddenIn]; done) | decide +kernel
theorem ef_rmCE (m : MethodId) (p0 : Int32)  : entryFrame m #[(.int p0)] 1 = mkF m 0 #[.val (.int p0)] [] := by first |  (simp [entryFrame, mkF, argsToLocals, Value.category]; done) | rfl
def f_rmCE (p0 : Int32) : Int32 := if (255 : Int32) < p0 then (0 : Int32) else (1 : Int32)
def Q_rmCE (Z : State) (p0 : Int32) (h0 : Heap) (n0 : Nat) (v : Option Value) (h : Heap) (L : List Loc) : Prop := v = some (.int (f_rmCE p0)) ∧ Fr n0 L ∧ h = h0
set_option maxRecDepth 65536 in
set_option maxHeartbeats 40000000 in
theorem rmCE (l : Launch) (Z : State) (a0 : Array Value) (hw : ∀ d ∈ tables_1, d.before a0 Z = true) (ws : List Jvm.Cond) (p0 : Int32) (h0 : Heap) (n0 : Nat) (Z0 : n0 ≤ h0.size) :
    MetFree l (⟨"java/lang/StringLatin1", "canEncode", "(C)Z"⟩ : MethodName) (head1 (Jvm.Cond.code (⟨"java/lang/StringLatin1", "canEncode", "(C)Z"⟩ : MethodName) jdk_43_method_3_code 1 (some .boolean) :: ws) ({ frames := 0, cells := 0, slots := 0, locals := 0 } : Room)) (fun a U => a = #[(.int p0)] ∧ Z.Warmed39 U.vm ∧ U.heap = h0) (fun _ _ _ _ _ => True) (fun _ U o U' => ∃ v L, o = .returned v ∧ Q_rmCE Z p0 h0 n0 v U'.heap L ∧ FrameEnd U o U' L ({ frames := 0, cells := 0, slots := 0, locals := 0 } : Room).cells ({ frames := 0, cells := 0, slots := 0, locals := 0 } : Room).slots) := by
  refine MetFree.of_bodySF (plainFor_of_name pn_java_lang_StringLatin1) hisR ?_
  intro p e s m args below meth c s₁ Bd hml0 hP hK
  obtain ⟨rfl, hZ, hh⟩ := hP
  have hx := Bd.exec
  have hby := Bd.bytes
  have hml : c.maxLocals = 1 := hml0
  have hown : s.vm.findClass "java/lang/StringLatin1" = some m.cls := findClass_of_methodNamed Bd.named
  have hnm := (name_of_methodNamed Bd.named Bd.method).1
  have hlk := Bd.notSynchronized
  have X0 : Stand p l e ({ frames := 0, cells := 0, slots := 0, locals := 0 } : Room) s m #[(.int p0)] below meth c s₁ [] 0 0 := Stand.of_body Bd
  have e0 : s₁.heap = h0 := by rw [← hh, Bd.state]; rfl
  have N0 := Fr.nil n0
  show own_G p.tables e below s (Q_rmCE Z p0 h0 n0) ({ frames := 0, cells := 0, slots := 0, locals := 0 } : Room).cells ({ frames := 0, cells := 0, slots := 0, locals := 0 } : Room).slots _
  refine own_thr (a := s₁.setTop (mkF m 0 #[.val (.int p0)] [])) (fun t kt => castTop (ef_rmCE m p0) kt) ?_
  refine own_thr (a := s₁.setTop (mkF m 4 #[.val (.int p0)] [(.int (255 : Int32)), (.int p0)])) (fun t kt => ?_) ?_
  · show Steps p.tables e below (s₁.setTop (mkF m 0 #[.val (.int p0)] [])) _
    refine XS.iloadN X0.here hx rfl (hb hby d3_0) rfl ?_
    refine XS.sipush X0.here hx rfl (hb hby d3_1) ?_
    exact kt
  by_cases hc1 : (255 : Int32) < p0
  · refine own_thr (a := s₁.setTop (mkF m 12 #[.val (.int p0)] [(.int (0 : Int32))])) (fun t kt => ?_) ?_
    · show Steps p.tables e below (s₁.setTop (mkF m 4 #[.val (.int p0)] [(.int (255 : Int32)), (.int p0)])) _
      refine XS.icmpYes X0.here hx rfl (pc0 := 4) (pc' := 11) rfl (hb hby d3_4) rfl (tlt hc1).2.2.1 (by decide) (by decide) ?_
      refine XS.iconst X0.here hx rfl (hb hby d3_11) ?_
      exact kt
    exact own_end X0 hlk (v := some (.int (0 : Int32))) (fun h => by rw [Bd.returns] at h; cases h) (fun fs hr => retN X0 hx (t := .boolean) Bd.returns (by simp) (hb hby d3_12) hr) (by rw [e0]; exact ⟨(by rw [f_rmCE, if_pos hc1]), N0, rfl⟩) (by decide : 0 ≤ _) (by decide : 0 ≤ _)
  · refine own_thr (a := s₁.setTop (mkF m 12 #[.val (.int p0)] [(.int (1 : Int32))])) (fun t kt => ?_) ?_
    · show Steps p.tables e below (s₁.setTop (mkF m 4 #[.val (.int p0)] [(.int (255 : Int32)), (.int p0)])) _
      refine XS.icmpNo X0.here hx rfl (hb hby d3_4) rfl (flt hc1).2.2.1 ?_
      refine XS.iconst X0.here hx rfl (hb hby d3_7) ?_
      refine XS.goto X0.here hx rfl (pc0 := 8) (pc' := 12) rfl (hb hby d3_8) (by decide) (by decide) ?_
      exact kt
    exact own_end X0 hlk (v := some (.int (1 : Int32))) (fun h => by rw [Bd.returns] at h; cases h) (fun fs hr => retN X0 hx (t := .boolean) Bd.returns (by simp) (hb hby d3_12) hr) (by rw [e0]; exact ⟨(by rw [f_rmCE, if_neg hc1]), N0, rfl⟩) (by decide : 0 ≤ _) (by decide : 0 ≤ _)
theorem own_ce {c : Int32} (h : ¬ (255 : Int32) < c) : ¬ f_rmCE c = (0 : Int32) := by
  unfold f_rmCE; rw [if_neg h]; decide
theorem d4_0 : decode jdk_43_method_46_code 0 = .ok (.iconst 1, 1) := by decide +kernel
theorem d4_1 : decode jdk_43_method_46_code 1 = .ok (.newarray .byte, 2) := by decide +kernel
theorem d4_3 : decode jdk_43_method_46_code 3 = .ok (.dup, 1) := by decide +kernel
theorem d4_4 : decode jdk_43_method_46_code 4 = .ok (.iconst 0, 1) := by decide +kernel
theorem d4_5 : decode jdk_43_method_46_code 5 = .ok (.iload_n 0, 1) := by decide +kernel
theorem d4_6 : decode jdk_43_method_46_code 6 = .ok (.i2b, 1) := by decide +kernel
theorem d4_7 : decode jdk_43_method_46_code 7 = .ok (.bastore, 1) := by decide +kernel
theorem d4_8 : decode jdk_43_method_46_code 8 = .ok (.areturn, 1) := by decide +kernel
theorem ef_rmTB (m : MethodId) (p0 : Int32)  : entryFrame m #[(.int p0)] 1 = mkF m 0 #[.val (.int p0)] [] := by first |  (simp [entryFrame, mkF, argsToLocals, Value.category]; done) | rfl
def Q_rmTB (Z : State) (p0 : Int32) (h0 : Heap) (n0 : Nat) (v : Option Value) (h : Heap) (L : List Loc) : Prop := ∃ r : Addr, v = some (.ref r) ∧ Fr n0 L ∧ Keep h0 h [] ∧ (∃ k : ClassId, Arv Z h r k .byte (1 : Int32) [(.int ((p0.toInt8.toInt32).toInt8.toInt32))] (.int (0 : Int32))) ∧ h0.size ≤ r
set_option maxRecDepth 65536 in
set_option maxHeartbeats 40000000 in
theorem rmTB (l : Launch) (Z : State) (a0 : Array Value) (hw : ∀ d ∈ tables_1, d.before a0 Z = true) (ws : List Jvm.Cond) (p0 : Int32) (h0 : Heap) (n0 : Nat) (Z0 : n0 ≤ h0.size) :
    MetFree l (⟨"java/lang/StringLatin1", "toBytes", "(C)[B"⟩ : MethodName) (head1 (Jvm.Cond.code (⟨"java/lang/StringLatin1", "toBytes", "(C)[B"⟩ : MethodName) jdk_43_method_46_code 1 (some (.array .byte)) :: ws) ({ frames := 0, cells := 1, slots := 1, locals := 0 } : Room)) (fun a U => a = #[(.int p0)] ∧ Z.Warmed39 U.vm ∧ U.heap = h0) (fun _ _ _ _ _ => True) (fun _ U o U' => ∃ v L, o = .returned v ∧ Q_rmTB Z p0 h0 n0 v U'.heap L ∧ FrameEnd U o U' L ({ frames := 0, cells := 1, slots := 1, locals := 0 } : Room).cells ({ frames := 0, cells := 1, slots := 1, locals := 0 } : Room).slots) := by
  refine MetFree.of_bodySF (plainFor_of_name pn_java_lang_StringLatin1) hisR ?_
  intro p e s m args below meth c s₁ Bd hml0 hP hK
  obtain ⟨rfl, hZ, hh⟩ := hP
  have hx := Bd.exec
  have hby := Bd.bytes
  have hml : c.maxLocals = 1 := hml0
  have hown : s.vm.findClass "java/lang/StringLatin1" = some m.cls := findClass_of_methodNamed Bd.named
  have hnm := (name_of_methodNamed Bd.named Bd.method).1
  have hlk := Bd.notSynchronized
  have X0 : Stand p l e ({ frames := 0, cells := 1, slots := 1, locals := 0 } : Room) s m #[(.int p0)] below meth c s₁ [] 0 0 := Stand.of_body Bd
  have e0 : s₁.heap = h0 := by rw [← hh, Bd.state]; rfl
  have N0 := Fr.nil n0
  show own_G p.tables e below s (Q_rmTB Z p0 h0 n0) ({ frames := 0, cells := 1, slots := 1, locals := 0 } : Room).cells ({ frames := 0, cells := 1, slots := 1, locals := 0 } : Room).slots _
  refine own_thr (a := s₁.setTop (mkF m 0 #[.val (.int p0)] [])) (fun t kt => castTop (ef_rmTB m p0) kt) ?_
  refine own_thr (a := s₁.setTop (mkF m 1 #[.val (.int p0)] [(.int (1 : Int32))])) (fun t kt => ?_) ?_
  · show Steps p.tables e below (s₁.setTop (mkF m 0 #[.val (.int p0)] [])) _
    refine XS.iconst X0.here hx rfl (hb hby d4_0) ?_
    exact kt
  obtain ⟨T1, h1, k1, X1, e1, E1, A1, st1⟩ := newP X0 hx hZ (hw _ (List.mem_of_getElem? (i := 19) rfl)) e0 (g := (mkF m 1 #[.val (.int p0)] [(.int (1 : Int32))])) rfl (hb hby d4_1) rfl (by decide) (cap := 1) (by decide) (by decide) (by decide : 0 + 1 ≤ _) (by decide : 0 + 1 ≤ _)
  obtain ⟨b1, g1⟩ : ∃ z, z = h0.size := ⟨_, rfl⟩
  rw [← g1] at A1 st1
  have g_b1 : n0 ≤ b1 := Nat.le_trans Z0 (Nat.le_of_eq g1.symm)
  have sz_b1 : h0.size ≤ b1 := Nat.le_trans (Nat.le_refl h0.size) (Nat.le_of_eq g1.symm)
  have V_b1 : Arv Z h1 b1 k1 .byte (1 : Int32) [(.int (0 : Int32))] (.int (0 : Int32)) := (Arv.new A1 (by decide)).pad (pad_rep [] (.int (0 : Int32)) 1)
  have Z2 : n0 ≤ h1.size := Nat.le_trans Z0 E1.1
  have Z2h : h0.size ≤ h1.size := Nat.le_trans (Nat.le_refl h0.size) E1.1
  refine own_thr (a := T1.setTop (mkF m 3 #[.val (.int p0)] [(.ref b1)])) (fun t kt => st1 t kt) ?_
  refine own_thr (a := T1.setTop (mkF m 7 #[.val (.int p0)] [(.int (p0.toInt8.toInt32)), (.int (0 : Int32)), (.ref b1), (.ref b1)])) (fun t kt => ?_) ?_
  · show Steps p.tables e below (T1.setTop (mkF m 3 #[.val (.int p0)] [(.ref b1)])) _
    refine XS.dup X1.here hx rfl (hb hby d4_3) rfl rfl ?_
    refine XS.iconst X1.here hx rfl (hb hby d4_4) ?_
    refine XS.iloadN X1.here hx rfl (hb hby d4_5) rfl ?_
    refine XS.i2b X1.here hx rfl (hb hby d4_6) rfl ?_
    exact kt
  obtain ⟨cl3, Ar3, q3, S3, M3, H3, G3⟩ := id V_b1
  have hin3 : ¬ ((0 : Int32) < 0 ∨ cl3.slots.size ≤ ((0 : Int32)).toNatClampNeg) := inb_of S3 ⟨by decide, by decide⟩
  obtain ⟨T3, h3, X3, e3, W3, st3⟩ := stB X1 hx hZ e1 Ar3 (j := (0 : Int32)) hin3 (g := (mkF m 7 #[.val (.int p0)] [(.int (p0.toInt8.toInt32)), (.int (0 : Int32)), (.ref b1), (.ref b1)])) rfl rfl (hb hby d4_7)
  have Z4 : n0 ≤ h3.size := Nat.le_trans Z2 (Nat.le_of_eq W3.size.symm)
  have Z4h : h0.size ≤ h3.size := Nat.le_trans Z2h (Nat.le_of_eq W3.size.symm)
  have V3 : Arv Z h3 b1 k1 .byte (1 : Int32) [(.int ((p0.toInt8.toInt32).toInt8.toInt32))] (.int (0 : Int32)) := Arv.set Ar3 q3 S3 M3 H3 G3 (fits_nar_byte _) W3 0 rfl (Nat.le_of_ble_eq_true rfl)
  obtain ⟨lc3, X3, N3⟩ := own_pack1 X3 N0 g_b1
  refine own_thr (a := T3.setTop (mkF m 8 #[.val (.int p0)] [(.ref b1)])) (fun t kt => st3 t kt) ?_
  exact own_end X3 hlk (v := some (.ref b1)) (fun h => by rw [Bd.returns] at h; cases h) (fun fs hr => retA X3 hx Bd.returns rfl rfl (hb hby d4_8) hr) (by rw [e3]; exact ⟨b1, rfl, N3, (((Keep.refl h0 []).ext E1).wr W3 (Or.inr sz_b1)), ⟨_, V3⟩, sz_b1⟩) (by decide : 1 ≤ _) (by decide : 1 ≤ _)
theorem d5_0 : decode jdk_42_method_151_code 0 = .ok (.aload_n 0, 1) := by decide +kernel
theorem d5_1 : decode jdk_42_method_151_code 1 = .ok (.invokespecial 1, 3) := by decide +kernel
theorem d5_4 : decode jdk_42_method_151_code 4 = .ok (.aload_n 0, 1) := by decide +kernel
theorem d5_5 : decode jdk_42_method_151_code 5 = .ok (.aload_n 1, 1) := by decide +kernel
theorem d5_6 : decode jdk_42_method_151_code 6 = .ok (.putfield 9, 3) := by decide +kernel
theorem d5_9 : decode jdk_42_method_151_code 9 = .ok (.aload_n 0, 1) := by decide +kernel
theorem d5_10 : decode jdk_42_method_151_code 10 = .ok (.iload_n 2, 1) := by decide +kernel
theorem d5_11 : decode jdk_42_method_151_code 11 = .ok (.putfield 15, 3) := by decide +kernel
theorem d5_14 : decode jdk_42_method_151_code 14 = .ok (.return_, 1) := by decide +kernel
theorem pn_java_lang_String : plainName "java/lang/String" = true := by first | (simp [plainName, overriddenIn]; done) | decide +kernel
theorem ef_rmSB (m : MethodId) (o0 : Addr) (o1 : Addr)  : entryFrame m #[(.ref o0), (.ref o1), (.int (0 : Int32))] 3 = mkF m 0 #[.val (.ref o0), .val (.ref o1), .val (.int (0 : Int32))] [] := by first |  (simp [entryFrame, mkF, argsToLocals, Value.category]; done) | rfl
def Q_rmSB (Z : State) (o0 : Addr) (o1 : Addr) (h0 : Heap) (n0 : Nat) (v : Option Value) (h : Heap) (L : List Loc) : Prop := v = none ∧ Fr n0 L ∧ Keep h0 h [o0] ∧ Exa Z h o0 "java/lang/String" ∧ Fld Z h o0 "java/lang/String" "value" "[B" (.ref o1) ∧ Fld Z h o0 "java/lang/String" "coder" "B" (.int (0 : Int32))
set_option maxRecDepth 65536 in
set_option maxHeartbeats 40000000 in
theorem rmSB (l : Launch) (Z : State) (a0 : Array Value) (hw : ∀ d ∈ tables_1, d.before a0 Z = true) (ws : List Jvm.Cond) (o0 : Addr) (o1 : Addr) (h0 : Heap) (n0 : Nat) (Z0 : n0 ≤ h0.size) (E_o0 : Exa Z h0 o0 "java/lang/String") (F_value_o0 : Fld Z h0 o0 "java/lang/String" "value" "[B" .null) (F_coder_o0 : Fld Z h0 o0 "java/lang/String" "coder" "B" (.int (0 : Int32))) (g_o0 : n0 ≤ o0) :
    MetFree l (⟨"java/lang/String", "<init>", "([BB)V"⟩ : MethodName) (head1 (Jvm.Cond.code (⟨"java/lang/String", "<init>", "([BB)V"⟩ : MethodName) jdk_42_method_151_code 3 none :: ws) ({ frames := 1, cells := 0, slots := 0, locals := 12 } : Room)) (fun a U => a = #[(.ref o0), (.ref o1), (.int (0 : Int32))] ∧ Z.Warmed39 U.vm ∧ U.heap = h0) (fun _ _ _ _ _ => True) (fun _ U o U' => ∃ v L, o = .returned v ∧ Q_rmSB Z o0 o1 h0 n0 v U'.heap L ∧ FrameEnd U o U' L ({ frames := 1, cells := 0, slots := 0, locals := 12 } : Room).cells ({ frames := 1, cells := 0, slots := 0, locals := 12 } : Room).slots) := by
  refine MetFree.of_bodySF (plainFor_of_name pn_java_lang_String) hisR ?_
  intro p e s m args below meth c s₁ Bd hml0 hP hK
  obtain ⟨rfl, hZ, hh⟩ := hP
  have hx := Bd.exec
  have hby := Bd.bytes
  have hml : c.maxLocals = 3 := hml0
  have hown : s.vm.findClass "java/lang/String" = some m.cls := findClass_of_methodNamed Bd.named
  have hnm := (name_of_methodNamed Bd.named Bd.method).1
  have hlk := Bd.notSynchronized
  have X0 : Stand p l e ({ frames := 1, cells := 0, slots := 0, locals := 12 } : Room) s m #[(.ref o0), (.ref o1), (.int (0 : Int32))] below meth c s₁ [] 0 0 := Stand.of_body Bd
  have e0 : s₁.heap = h0 := by rw [← hh, Bd.state]; rfl
  have N0 := Fr.nil n0
  show own_G p.tables e below s (Q_rmSB Z o0 o1 h0 n0) ({ frames := 1, cells := 0, slots := 0, locals := 12 } : Room).cells ({ frames := 1, cells := 0, slots := 0, locals := 12 } : Room).slots _
  refine own_thr (a := s₁.setTop (mkF m 0 #[.val (.ref o0), .val (.ref o1), .val (.int (0 : Int32))] [])) (fun t kt => castTop (ef_rmSB m o0 o1) kt) ?_
  refine own_thr (a := s₁.setTop (mkF m 1 #[.val (.ref o0), .val (.ref o1), .val (.int (0 : Int32))] [(.ref o0)])) (fun t kt => ?_) ?_
  · show Steps p.tables e below (s₁.setTop (mkF m 0 #[.val (.ref o0), .val (.ref o1), .val (.int (0 : Int32))] [])) _
    refine XS.aloadN X0.here hx rfl (hb hby d5_0) rfl rfl ?_
    exact kt
  obtain ⟨T1, X1, e1, st1⟩ := initO X0 hx hZ hown (hw _ (List.mem_of_getElem? (i := 24) rfl)) (hw _ (List.mem_of_getElem? (i := 25) rfl)) (hw _ (List.mem_of_getElem? (i := 26) rfl)) e0 (g := (mkF m 1 #[.val (.ref o0), .val (.ref o1), .val (.int (0 : Int32))] [(.ref o0)])) rfl (by rw [hml]; rfl) rfl (hb hby d5_1) (by decide) (W := 0) (by show 2 * 0 + _ ≤ _; exact Nat.le_of_eq rfl) (by decide)
  refine own_thr (a := T1.setTop (mkF m 4 #[.val (.ref o0), .val (.ref o1), .val (.int (0 : Int32))] [])) (fun t kt => st1 t kt) ?_
  refine own_thr (a := T1.setTop (mkF m 6 #[.val (.ref o0), .val (.ref o1), .val (.int (0 : Int32))] [(.ref o1), (.ref o0)])) (fun t kt => ?_) ?_
  · show Steps p.tables e below (T1.setTop (mkF m 4 #[.val (.ref o0), .val (.ref o1), .val (.int (0 : Int32))] [])) _
    refine XS.aloadN X1.here hx rfl (hb hby d5_4) rfl rfl ?_
    refine XS.aloadN X1.here hx rfl (hb hby d5_5) rfl rfl ?_
    exact kt
  obtain ⟨T2, h2, X2, e2, W2, st2⟩ := putF X1 hx hZ hown (host := "") (Or.inl (hw _ (List.mem_of_getElem? (i := 27) rfl))) Via.refl e1 F_value_o0 E_o0 (Or.inr ⟨(hw _ (List.mem_of_getElem? (i := 28) rfl)), rfl, hnm⟩) (hw _ (List.mem_of_getElem? (i := 15) rfl)) (ty := (.array .byte)) (by decide) rfl rfl (g := (mkF m 6 #[.val (.ref o0), .val (.ref o1), .val (.int (0 : Int32))] [(.ref o1), (.ref o0)])) rfl rfl (hb hby d5_6)
  have Fw2 := F_value_o0.same W2
  have Z3 : n0 ≤ h2.size := Nat.le_trans Z0 (Nat.le_of_eq W2.size.symm)
  have Z3h : h0.size ≤ h2.size := Nat.le_trans (Nat.le_refl h0.size) (Nat.le_of_eq W2.size.symm)
  obtain ⟨lc2, X2, N2⟩ := own_pack1 X2 N0 g_o0
  refine own_thr (a := T2.setTop (mkF m 9 #[.val (.ref o0), .val (.ref o1), .val (.int (0 : Int32))] [])) (fun t kt => st2 t kt) ?_
  refine own_thr (a := T2.setTop (mkF m 11 #[.val (.ref o0), .val (.ref o1), .val (.int (0 : Int32))] [(.int (0 : Int32)), (.ref o0)])) (fun t kt => ?_) ?_
  · show Steps p.tables e below (T2.setTop (mkF m 9 #[.val (.ref o0), .val (.ref o1), .val (.int (0 : Int32))] [])) _
    refine XS.aloadN X2.here hx rfl (hb hby d5_9) rfl rfl ?_
    refine XS.iloadN X2.here hx rfl (hb hby d5_10) rfl ?_
    exact kt
  have c4 := (F_coder_o0.other W2 (Or.inr (slot_ne (Or.inr (hw _ (List.mem_of_getElem? (i := 30) rfl))) (Or.inr (hw _ (List.mem_of_getElem? (i := 28) rfl))) (by decide) (t := .byte) (t' := (.array .byte)) (by decide) (by decide))))
  obtain ⟨T5, h5, X5, e5, W5, st5⟩ := putFN X2 hx hZ hown (hw _ (List.mem_of_getElem? (i := 29) rfl)) Via.refl e2 c4 (E_o0.wr W2) (Or.inr ⟨(hw _ (List.mem_of_getElem? (i := 30) rfl)), rfl, hnm⟩) (hw _ (List.mem_of_getElem? (i := 15) rfl)) (ty := .byte) (v' := (.int (0 : Int32))) (by decide) rfl rfl (g := (mkF m 11 #[.val (.ref o0), .val (.ref o1), .val (.int (0 : Int32))] [(.int (0 : Int32)), (.ref o0)])) rfl rfl (hb hby d5_11)
  have Fw5 := c4.same W5
  have Z6 : n0 ≤ h5.size := Nat.le_trans Z3 (Nat.le_of_eq W5.size.symm)
  have Z6h : h0.size ≤ h5.size := Nat.le_trans Z3h (Nat.le_of_eq W5.size.symm)
  obtain ⟨lc5, X5, N5⟩ := own_pack1 X5 N2 g_o0
  refine own_thr (a := T5.setTop (mkF m 14 #[.val (.ref o0), .val (.ref o1), .val (.int (0 : Int32))] [])) (fun t kt => st5 t kt) ?_
  have c7 := (Fw2.other W5 (Or.inr (slot_ne (Or.inr (hw _ (List.mem_of_getElem? (i := 28) rfl))) (Or.inr (hw _ (List.mem_of_getElem? (i := 30) rfl))) (by decide) (t := (.array .byte)) (t' := .byte) (by decide) (by decide))))
  exact own_end X5 hlk (v := none) (fun _ => rfl) (fun fs hr => X5.returnOut hx Bd.returns (hb hby d5_14) hr) (by rw [e5]; exact ⟨rfl, N5, (((Keep.refl h0 [o0]).wr W2 (Or.inl (List.mem_of_getElem? (i := 0) rfl))).wr W5 (Or.inl (List.mem_of_getElem? (i := 0) rfl))), ((E_o0.wr W2).wr W5), c7, Fw5⟩) (by decide : 0 ≤ _) (by decide : 0 ≤ _)
theorem d2_0 : decode jdk_42_method_139_code 0 = .ok (.getstatic 38, 3) := by decide +kernel
theorem d2_3 : decode jdk_42_method_139_code 3 = .ok (.ifCond .eq 23, 3) := by decide +kernel
theorem d2_6 : decode jdk_42_method_139_code 6 = .ok (.iload_n 0, 1) := by decide +kernel
theorem pd__28C_29Z : parseMethodDescriptor "(C)Z" = some ⟨[.char], some .boolean⟩ := by decide +kernel
theorem d2_7 : decode jdk_42_method_139_code 7 = .ok (.invokestatic 1015, 3) := by decide +kernel
theorem d2_10 : decode jdk_42_method_139_code 10 = .ok (.ifCond .eq 16, 3) := by decide +kernel
theorem d2_13 : decode jdk_42_method_139_code 13 = .ok (.new 10, 3) := by decide +kernel
theorem d2_16 : decode jdk_42_method_139_code 16 = .ok (.dup, 1) := by decide +kernel
theorem d2_17 : decode jdk_42_method_139_code 17 = .ok (.iload_n 0, 1) := by decide +kernel
theorem pd__28C_29_5bB : parseMethodDescriptor "(C)[B" = some ⟨[.char], some (.array .byte)⟩ := by decide +kernel
theorem d2_18 : decode jdk_42_method_139_code 18 = .ok (.invokestatic 1018, 3) := by decide +kernel
theorem d2_21 : decode jdk_42_method_139_code 21 = .ok (.iconst 0, 1) := by decide +kernel
theorem pd__28_5bBB_29V : parseMethodDescriptor "([BB)V" = some ⟨[(.array .byte), .byte], none⟩ := by decide +kernel
theorem d2_22 : decode jdk_42_method_139_code 22 = .ok (.invokespecial 209, 3) := by decide +kernel
theorem d2_25 : decode jdk_42_method_139_code 25 = .ok (.areturn, 1) := by decide +kernel
theorem ef_rmVO (m : MethodId) (p0 : Int32)  : entryFrame m #[(.int p0)] 1 = mkF m 0 #[.val (.int p0)] [] := by first |  (simp [entryFrame, mkF, argsToLocals, Value.category]; done) | rfl
def Q_rmVO (Z : State) (p0 : Int32) (cs : Int32) (h0 : Heap) (n0 : Nat) (v : Option Value) (h : Heap) (L : List Loc) : Prop := ∃ r : Addr, v = some (.ref r) ∧ Fr n0 L ∧ Keep h0 h [] ∧ Exa Z h r "java/lang/String" ∧ Fld Z h r "java/lang/String" "coder" "B" (.int (0 : Int32)) ∧ (∃ (b : Addr) (k : ClassId), Fld Z h r "java/lang/String" "value" "[B" (.ref b) ∧ Arv Z h b k .byte (1 : Int32) [(.int ((p0.toInt8.toInt32).toInt8.toInt32))] (.int (0 : Int32)))
set_option maxRecDepth 65536 in
set_option maxHeartbeats 40000000 in
theorem rmVO (l : Launch) (Z : State) (a0 : Array Value) (hw : ∀ d ∈ tables_1, d.before a0 Z = true) (ws : List Jvm.Cond) (p0 : Int32) (cs : Int32) (h0 : Heap) (n0 : Nat) (Z0 : n0 ≤ h0.size) (S_cs : Sta Z h0 "java/lang/String" "COMPACT_STRINGS" "Z" (.int cs)) (hcs : ¬ cs = (0 : Int32)) (hle : ¬ (255 : Int32) < p0) :
    MetFree l (⟨"java/lang/String", "valueOf", "(C)Ljava/lang/String;"⟩ : MethodName) (head1 (Jvm.Cond.code (⟨"java/lang/String", "valueOf", "(C)Ljava/lang/String;"⟩ : MethodName) jdk_42_method_139_code 1 (some (.object "java/lang/String")) :: ws) ({ frames := 2, cells := 2, slots := 5, locals := 27 } : Room)) (fun a U => a = #[(.int p0)] ∧ Z.Warmed39 U.vm ∧ U.heap = h0) (fun _ _ _ _ _ => True) (fun _ U o U' => ∃ v L, o = .returned v ∧ Q_rmVO Z p0 cs h0 n0 v U'.heap L ∧ FrameEnd U o U' L ({ frames := 2, cells := 2, slots := 5, locals := 27 } : Room).cells ({ frames := 2, cells := 2, slots := 5, locals := 27 } : Room).slots) := by
  refine MetFree.of_bodySF (plainFor_of_name pn_java_lang_String) hisR ?_
  intro p e s m args below meth c s₁ Bd hml0 hP hK
  obtain ⟨rfl, hZ, hh⟩ := hP
  have hx := Bd.exec
  have hby := Bd.bytes
  have hml : c.maxLocals = 1 := hml0
  have hown : s.vm.findClass "java/lang/String" = some m.cls := findClass_of_methodNamed Bd.named
  have hnm := (name_of_methodNamed Bd.named Bd.method).1
  have hlk := Bd.notSynchronized
  have X0 : Stand p l e ({ frames := 2, cells := 2, slots := 5, locals := 27 } : Room) s m #[(.int p0)] below meth c s₁ [] 0 0 := Stand.of_body Bd
  have e0 : s₁.heap = h0 := by rw [← hh, Bd.state]; rfl
  have N0 := Fr.nil n0
  show own_G p.tables e below s (Q_rmVO Z p0 cs h0 n0) ({ frames := 2, cells := 2, slots := 5, locals := 27 } : Room).cells ({ frames := 2, cells := 2, slots := 5, locals := 27 } : Room).slots _
  refine own_thr (a := s₁.setTop (mkF m 0 #[.val (.int p0)] [])) (fun t kt => castTop (ef_rmVO m p0) kt) ?_
  obtain ⟨T1, X1, e1, st1⟩ := getS2 X0 hx hZ hown (host := "") (Or.inl (hw _ (List.mem_of_getElem? (i := 9) rfl))) Via.refl e0 S_cs (g := (mkF m 0 #[.val (.int p0)] [])) rfl (hb hby d2_0)
  refine own_thr (a := T1.setTop (mkF m 3 #[.val (.int p0)] [(.int cs)])) (fun t kt => st1 t kt) ?_
  refine own_thr (a := T1.setTop (mkF m 7 #[.val (.int p0)] [(.int p0)])) (fun t kt => ?_) ?_
  · show Steps p.tables e below (T1.setTop (mkF m 3 #[.val (.int p0)] [(.int cs)])) _
    refine XS.ifNo X1.here hx rfl (hb hby d2_3) rfl ((if0 _ _).trans (feq hcs).1) ?_
    refine XS.iloadN X1.here hx rfl (hb hby d2_6) rfl ?_
    exact kt
  obtain ⟨_, _, ⟨T2, L2, k2, n2⟩, -, X2, ⟨Lc2, hQ2, l2, y2, z2⟩, st2⟩ := Jvm.LawKit.callS X1 hx (y := (⟨"java/lang/StringLatin1", "canEncode", "(C)Z"⟩ : MethodName)) hown (mvT hZ (hw _ (List.mem_of_getElem? (i := 10) rfl))) (mvT hZ (hw _ (List.mem_of_getElem? (i := 11) rfl))) (mvT hZ (hw _ (List.mem_of_getElem? (i := 12) rfl))) (mvT hZ (hw _ (List.mem_of_getElem? (i := 13) rfl))) (by decide) (backOf (W := 0) (rmCE l Z a0 hw [] p0 h0 n0 Z0) hZ (hw _ (List.mem_of_getElem? (i := 13) rfl)) (hw _ (List.mem_of_getElem? (i := 12) rfl)) (by decide) (by decide)) (g := (mkF m 7 #[.val (.int p0)] [(.int p0)])) rfl (by rw [hml]; rfl) (argsL := [(.int p0)]) (rest := []) (lenOf pd__28C_29Z rfl) rfl (by show 2 * 0 + _ ≤ _; exact Nat.le_of_eq rfl) (hb hby d2_7) (fun _ _ => ⟨rfl, e1, (by decide : 0 + 0 ≤ _), (by decide : 0 + 0 ≤ _)⟩)
  dsimp only [Pt.U, Pt.locs, Pt.cells, Pt.slots] at X2 l2 y2 z2 st2 hQ2
  obtain ⟨rfl, N2q, e2⟩ := hQ2
  obtain ⟨lc2, X2, N2⟩ := own_pack X2 l2 y2 z2 N0 N2q (C := 0) (S' := 0) rfl rfl
  refine own_thr (a := T2.setTop (mkF m 10 #[.val (.int p0)] [(.int (f_rmCE p0))])) (fun t kt => st2 t kt) ?_
  refine own_thr (a := T2.setTop (mkF m 13 #[.val (.int p0)] [])) (fun t kt => ?_) ?_
  · show Steps p.tables e below (T2.setTop (mkF m 10 #[.val (.int p0)] [(.int (f_rmCE p0))])) _
    refine XS.ifNo X2.here hx rfl (hb hby d2_10) rfl ((if0 _ _).trans (feq (own_ce hle)).1) ?_
    exact kt
  obtain ⟨T3, h3, X3, e3, E3, A3, D3, U3, st3⟩ := newO X2 hx hZ hown (hw _ (List.mem_of_getElem? (i := 14) rfl)) (hw _ (List.mem_of_getElem? (i := 15) rfl)) (hw _ (List.mem_of_getElem? (i := 7) rfl)) e2 (g := (mkF m 13 #[.val (.int p0)] [])) rfl (hb hby d2_13) (by decide : 0 + 1 ≤ _) (by decide : 0 + 4 ≤ _)
  obtain ⟨b3, g3⟩ : ∃ z, z = h0.size := ⟨_, rfl⟩
  rw [← g3] at A3 D3 st3 U3
  have g_b3 : n0 ≤ b3 := Nat.le_trans Z0 (Nat.le_of_eq g3.symm)
  have sz_b3 : h0.size ≤ b3 := Nat.le_trans (Nat.le_refl h0.size) (Nat.le_of_eq g3.symm)
  have Z4 : n0 ≤ h3.size := Nat.le_trans Z0 E3.1
  have Z4h : h0.size ≤ h3.size := Nat.le_trans (Nat.le_refl h0.size) E3.1
  have F_value_b3 : Fld Z h3 b3 "java/lang/String" "value" "[B" .null := D3 (Or.inr (hw _ (List.mem_of_getElem? (i := 28) rfl))) (ty := (.array .byte)) (by decide)
  have F_coder_b3 : Fld Z h3 b3 "java/lang/String" "coder" "B" (.int (0 : Int32)) := D3 (Or.inr (hw _ (List.mem_of_getElem? (i := 30) rfl))) (ty := .byte) (by decide)
  refine own_thr (a := T3.setTop (mkF m 16 #[.val (.int p0)] [(.ref b3)])) (fun t kt => st3 t kt) ?_
  refine own_thr (a := T3.setTop (mkF m 18 #[.val (.int p0)] [(.int p0), (.ref b3), (.ref b3)])) (fun t kt => ?_) ?_
  · show Steps p.tables e below (T3.setTop (mkF m 16 #[.val (.int p0)] [(.ref b3)])) _
    refine XS.dup X3.here hx rfl (hb hby d2_16) rfl rfl ?_
    refine XS.iloadN X3.here hx rfl (hb hby d2_17) rfl ?_
    exact kt
  obtain ⟨_, _, ⟨T5, L5, k5, n5⟩, -, X5, ⟨Lc5, hQ5, l5, y5, z5⟩, st5⟩ := Jvm.LawKit.callS X3 hx (y := (⟨"java/lang/StringLatin1", "toBytes", "(C)[B"⟩ : MethodName)) hown (mvT hZ (hw _ (List.mem_of_getElem? (i := 16) rfl))) (mvT hZ (hw _ (List.mem_of_getElem? (i := 17) rfl))) (mvT hZ (hw _ (List.mem_of_getElem? (i := 12) rfl))) (mvT hZ (hw _ (List.mem_of_getElem? (i := 18) rfl))) (by decide) (backOf (W := 2) (rmTB l Z a0 hw [] p0 h3 n0 Z4) hZ (hw _ (List.mem_of_getElem? (i := 18) rfl)) (hw _ (List.mem_of_getElem? (i := 12) rfl)) (by decide) (by decide)) (g := (mkF m 18 #[.val (.int p0)] [(.int p0), (.ref b3), (.ref b3)])) rfl (by rw [hml]; rfl) (argsL := [(.int p0)]) (rest := [(.ref b3), (.ref b3)]) (lenOf pd__28C_29_5bB rfl) rfl (by show 2 * 0 + _ ≤ _; exact Nat.le_of_eq rfl) (hb hby d2_18) (fun _ _ => ⟨rfl, e3, (by decide : 1 + 1 ≤ _), (by decide : 4 + 1 ≤ _)⟩)
  dsimp only [Pt.U, Pt.locs, Pt.cells, Pt.slots] at X5 l5 y5 z5 st5 hQ5
  obtain ⟨r5, rfl, N5q, K5, o5_0, o5_1⟩ := hQ5
  have Z6 : n0 ≤ T5.heap.size := Nat.le_trans Z4 K5.1
  have Z6h : h0.size ≤ T5.heap.size := Nat.le_trans Z4h K5.1
  obtain ⟨lc5, X5, N5⟩ := own_pack X5 l5 y5 z5 N2 N5q (C := 2) (S' := 5) rfl rfl
  refine own_thr (a := T5.setTop (mkF m 21 #[.val (.int p0)] [(.ref r5), (.ref b3), (.ref b3)])) (fun t kt => st5 t kt) ?_
  obtain ⟨kq5, Vq5⟩ := o5_0
  have ne_b3_r5 : b3 ≠ r5 := Nat.ne_of_lt (Nat.lt_of_lt_of_le A3.lt o5_1)
  refine own_thr (a := T5.setTop (mkF m 22 #[.val (.int p0)] [(.int (0 : Int32)), (.ref r5), (.ref b3), (.ref b3)])) (fun t kt => ?_) ?_
  · show Steps p.tables e below (T5.setTop (mkF m 21 #[.val (.int p0)] [(.ref r5), (.ref b3), (.ref b3)])) _
    refine XS.iconst X5.here hx rfl (hb hby d2_21) ?_
    exact kt
  obtain ⟨_, _, ⟨T7, L7, k7, n7⟩, -, X7, ⟨Lc7, hQ7, l7, y7, z7⟩, st7⟩ := X5.specialBack hx (y := (⟨"java/lang/String", "<init>", "([BB)V"⟩ : MethodName)) rfl hown (mvT hZ (hw _ (List.mem_of_getElem? (i := 20) rfl))) (mvT hZ (hw _ (List.mem_of_getElem? (i := 21) rfl))) (mvT hZ (hw _ (List.mem_of_getElem? (i := 23) rfl))) (by decide) (backOf (W := 1) (rmSB l Z a0 hw [] b3 r5 T5.heap n0 Z6 (A3.keep K5) (F_value_b3.keep K5 nin0) (F_coder_b3.keep K5 nin0) g_b3) hZ (hw _ (List.mem_of_getElem? (i := 23) rfl)) (hw _ (List.mem_of_getElem? (i := 7) rfl)) (by decide) (by decide)) (g := (mkF m 22 #[.val (.int p0)] [(.int (0 : Int32)), (.ref r5), (.ref b3), (.ref b3)])) rfl (by rw [hml]; rfl) (Steps.refl _) (a := b3) (argsL := [(.ref r5), (.int (0 : Int32))]) (rest := [(.ref b3)]) (lenOf pd__28_5bBB_29V rfl) rfl (by show 2 * 0 + _ ≤ _; exact Nat.le_of_eq rfl) (hb hby d2_22) (fun _ _ => ⟨rfl, rfl, (by decide : 2 + 0 ≤ _), (by decide : 5 + 0 ≤ _)⟩)
  dsimp only [Pt.U, Pt.locs, Pt.cells, Pt.slots] at X7 l7 y7 z7 st7 hQ7
  obtain ⟨rfl, N7q, K7, o7_0, o7_1, o7_2⟩ := hQ7
  have Z8 : n0 ≤ T7.heap.size := Nat.le_trans Z6 K7.1
  have Z8h : h0.size ≤ T7.heap.size := Nat.le_trans Z6h K7.1
  obtain ⟨lc7, X7, N7⟩ := own_pack X7 l7 y7 z7 N5 N7q (C := 2) (S' := 5) rfl rfl
  refine own_thr (a := T7.setTop (mkF m 25 #[.val (.int p0)] [(.ref b3)])) (fun t kt => st7.trans kt) ?_
  exact own_end X7 hlk (v := some (.ref b3)) (fun h => by rw [Bd.returns] at h; cases h) (fun fs hr => retA X7 hx Bd.returns rfl rfl (hb hby d2_25) hr) ⟨b3, rfl, N7, ((((Keep.refl h0 []).ext E3).trans K5 all0).trans K7 (allS (Or.inr sz_b3) all0)), o7_0, o7_2, ⟨r5, _, o7_1, (Vq5.keep K7 (ninS (Ne.symm ne_b3_r5) nin0))⟩⟩ (by decide : 2 ≤ _) (by decide : 5 ≤ _)
theorem d12_0 : decode jdk_42_method_152_code 0 = .ok (.getstatic 38, 3) := by decide +kernel
theorem d12_3 : decode jdk_42_method_152_code 3 = .ok (.ifCond .eq 10, 3) := by decide +kernel
theorem d12_6 : decode jdk_42_method_152_code 6 = .ok (.aload_n 0, 1) := by decide +kernel
theorem d12_7 : decode jdk_42_method_152_code 7 = .ok (.getfield 15, 3) := by decide +kernel
theorem d12_10 : decode jdk_42_method_152_code 10 = .ok (.goto 4, 3) := by decide +kernel
theorem d12_14 : decode jdk_42_method_152_code 14 = .ok (.ireturn, 1) := by decide +kernel
theorem ef_rmCO (m : MethodId) (o0 : Addr)  : entryFrame m #[(.ref o0)] 1 = mkF m 0 #[.val (.ref o0)] [] := by first |  (simp [entryFrame, mkF, argsToLocals, Value.category]; done) | rfl
def Q_rmCO (Z : State) (o0 : Addr) (cs : Int32) (h0 : Heap) (n0 : Nat) (v : Option Value) (h : Heap) (L : List Loc) : Prop := v = some (.int (0 : Int32)) ∧ Fr n0 L ∧ h = h0
set_option maxRecDepth 65536 in
set_option maxHeartbeats 40000000 in
theorem rmCO (l : Launch) (Z : State) (a0 : Array Value) (hw : ∀ d ∈ tables_1, d.before a0 Z = true) (ws : List Jvm.Cond) (o0 : Addr) (cs : Int32) (h0 : Heap) (n0 : Nat) (Z0 : n0 ≤ h0.size) (E_o0 : Exa Z h0 o0 "java/lang/String") (F_coder_o0 : Fld Z h0 o0 "java/lang/String" "coder" "B" (.int (0 : Int32))) (S_COMPACT_STRINGS : Sta Z h0 "java/lang/String" "COMPACT_STRINGS" "Z" (.int cs)) (hcs : ¬ cs = (0 : Int32)) :
    MetFree l (⟨"java/lang/String", "coder", "()B"⟩ : MethodName) (head1 (Jvm.Cond.code (⟨"java/lang/String", "coder", "()B"⟩ : MethodName) jdk_42_method_152_code 1 (some .byte) :: ws) ({ frames := 0, cells := 0, slots := 0, locals := 0 } : Room)) (fun a U => a = #[(.ref o0)] ∧ Z.Warmed39 U.vm ∧ U.heap = h0) (fun _ _ _ _ _ => True) (fun _ U o U' => ∃ v L, o = .returned v ∧ Q_rmCO Z o0 cs h0 n0 v U'.heap L ∧ FrameEnd U o U' L ({ frames := 0, cells := 0, slots := 0, locals := 0 } : Room).cells ({ frames := 0, cells := 0, slots := 0, locals := 0 } : Room).slots) := by
  refine MetFree.of_bodySF (plainFor_of_name pn_java_lang_String) hisR ?_
  intro p e s m args below meth c s₁ Bd hml0 hP hK
  obtain ⟨rfl, hZ, hh⟩ := hP
  have hx := Bd.exec
  have hby := Bd.bytes
  have hml : c.maxLocals = 1 := hml0
  have hown : s.vm.findClass "java/lang/String" = some m.cls := findClass_of_methodNamed Bd.named
  have hnm := (name_of_methodNamed Bd.named Bd.method).1
  have hlk := Bd.notSynchronized
  have X0 : Stand p l e ({ frames := 0, cells := 0, slots := 0, locals := 0 } : Room) s m #[(.ref o0)] below meth c s₁ [] 0 0 := Stand.of_body Bd
  have e0 : s₁.heap = h0 := by rw [← hh, Bd.state]; rfl
  have N0 := Fr.nil n0
  show own_G p.tables e below s (Q_rmCO Z o0 cs h0 n0) ({ frames := 0, cells := 0, slots := 0, locals := 0 } : Room).cells ({ frames := 0, cells := 0, slots := 0, locals := 0 } : Room).slots _
  refine own_thr (a := s₁.setTop (mkF m 0 #[.val (.ref o0)] [])) (fun t kt => castTop (ef_rmCO m o0) kt) ?_
  obtain ⟨T1, X1, e1, st1⟩ := getS2 X0 hx hZ hown (host := "") (Or.inl (hw _ (List.mem_of_getElem? (i := 9) rfl))) Via.refl e0 S_COMPACT_STRINGS (g := (mkF m 0 #[.val (.ref o0)] [])) rfl (hb hby d12_0)
  refine own_thr (a := T1.setTop (mkF m 3 #[.val (.ref o0)] [(.int cs)])) (fun t kt => st1 t kt) ?_
  refine own_thr (a := T1.setTop (mkF m 7 #[.val (.ref o0)] [(.ref o0)])) (fun t kt => ?_) ?_
  · show Steps p.tables e below (T1.setTop (mkF m 3 #[.val (.ref o0)] [(.int cs)])) _
    refine XS.ifNo X1.here hx rfl (hb hby d12_3) rfl ((if0 _ _).trans (feq hcs).1) ?_
    refine XS.aloadN X1.here hx rfl (hb hby d12_6) rfl rfl ?_
    exact kt
  obtain ⟨T2, X2, e2, st2⟩ := getF X1 hx hZ hown (host := "") (Or.inl (hw _ (List.mem_of_getElem? (i := 29) rfl))) Via.refl e1 F_coder_o0 (g := (mkF m 7 #[.val (.ref o0)] [(.ref o0)])) rfl rfl (hb hby d12_7)
  refine own_thr (a := T2.setTop (mkF m 10 #[.val (.ref o0)] [(.int (0 : Int32))])) (fun t kt => st2 t kt) ?_
  refine own_thr (a := T2.setTop (mkF m 14 #[.val (.ref o0)] [(.int (0 : Int32))])) (fun t kt => ?_) ?_
  · show Steps p.tables e below (T2.setTop (mkF m 10 #[.val (.ref o0)] [(.int (0 : Int32))])) _
    refine XS.goto X2.here hx rfl (pc0 := 10) (pc' := 14) rfl (hb hby d12_10) (by decide) (by decide) ?_
    exact kt
  exact own_end X2 hlk (v := some (.int (0 : Int32))) (fun h => by rw [Bd.returns] at h; cases h) (fun fs hr => retN X2 hx (t := .byte) Bd.returns (by simp) (hb hby d12_14) hr) (by rw [e2]; exact ⟨rfl, N0, rfl⟩) (by decide : 0 ≤ _) (by decide : 0 ≤ _)
theorem d14_0 : decode jdk_42_method_154_code 0 = .ok (.getstatic 38, 3) := by decide +kernel
theorem d14_3 : decode jdk_42_method_154_code 3 = .ok (.ifCond .eq 14, 3) := by decide +kernel
theorem d14_6 : decode jdk_42_method_154_code 6 = .ok (.aload_n 0, 1) := by decide +kernel
theorem d14_7 : decode jdk_42_method_154_code 7 = .ok (.getfield 15, 3) := by decide +kernel
theorem d14_10 : decode jdk_42_method_154_code 10 = .ok (.ifCond .ne 7, 3) := by decide +kernel
theorem d14_13 : decode jdk_42_method_154_code 13 = .ok (.iconst 1, 1) := by decide +kernel
theorem d14_14 : decode jdk_42_method_154_code 14 = .ok (.goto 4, 3) := by decide +kernel
theorem d14_18 : decode jdk_42_method_154_code 18 = .ok (.ireturn, 1) := by decide +kernel
theorem ef_rmIL (m : MethodId) (o0 : Addr)  : entryFrame m #[(.ref o0)] 1 = mkF m 0 #[.val (.ref o0)] [] := by first |  (simp [entryFrame, mkF, argsToLocals, Value.category]; done) | rfl
def Q_rmIL (Z : State) (o0 : Addr) (cs : Int32) (h0 : Heap) (n0 : Nat) (v : Option Value) (h : Heap) (L : List Loc) : Prop := v = some (.int (1 : Int32)) ∧ Fr n0 L ∧ h = h0
set_option maxRecDepth 65536 in
set_option maxHeartbeats 40000000 in
theorem rmIL (l : Launch) (Z : State) (a0 : Array Value) (hw : ∀ d ∈ tables_1, d.before a0 Z = true) (ws : List Jvm.Cond) (o0 : Addr) (cs : Int32) (h0 : Heap) (n0 : Nat) (Z0 : n0 ≤ h0.size) (E_o0 : Exa Z h0 o0 "java/lang/String") (F_coder_o0 : Fld Z h0 o0 "java/lang/String" "coder" "B" (.int (0 : Int32))) (S_COMPACT_STRINGS : Sta Z h0 "java/lang/String" "COMPACT_STRINGS" "Z" (.int cs)) (hcs : ¬ cs = (0 : Int32)) :
    MetFree l (⟨"java/lang/String", "isLatin1", "()Z"⟩ : MethodName) (head1 (Jvm.Cond.code (⟨"java/lang/String", "isLatin1", "()Z"⟩ : MethodName) jdk_42_method_154_code 1 (some .boolean) :: ws) ({ frames := 0, cells := 0, slots := 0, locals := 0 } : Room)) (fun a U => a = #[(.ref o0)] ∧ Z.Warmed39 U.vm ∧ U.heap = h0) (fun _ _ _ _ _ => True) (fun _ U o U' => ∃ v L, o = .returned v ∧ Q_rmIL Z o0 cs h0 n0 v U'.heap L ∧ FrameEnd U o U' L ({ frames := 0, cells := 0, slots := 0, locals := 0 } : Room).cells ({ frames := 0, cells := 0, slots := 0, locals := 0 } : Room).slots) := by
  refine MetFree.of_bodySF (plainFor_of_name pn_java_lang_String) hisR ?_
  intro p e s m args below meth c s₁ Bd hml0 hP hK
  obtain ⟨rfl, hZ, hh⟩ := hP
  have hx := Bd.exec
  have hby := Bd.bytes
  have hml : c.maxLocals = 1 := hml0
  have hown : s.vm.findClass "java/lang/String" = some m.cls := findClass_of_methodNamed Bd.named
  have hnm := (name_of_methodNamed Bd.named Bd.method).1
  have hlk := Bd.notSynchronized
  have X0 : Stand p l e ({ frames := 0, cells := 0, slots := 0, locals := 0 } : Room) s m #[(.ref o0)] below meth c s₁ [] 0 0 := Stand.of_body Bd
  have e0 : s₁.heap = h0 := by rw [← hh, Bd.state]; rfl
  have N0 := Fr.nil n0
  show own_G p.tables e below s (Q_rmIL Z o0 cs h0 n0) ({ frames := 0, cells := 0, slots := 0, locals := 0 } : Room).cells ({ frames := 0, cells := 0, slots := 0, locals := 0 } : Room).slots _
  refine own_thr (a := s₁.setTop (mkF m 0 #[.val (.ref o0)] [])) (fun t kt => castTop (ef_rmIL m o0) kt) ?_
  obtain ⟨T1, X1, e1, st1⟩ := getS2 X0 hx hZ hown (host := "") (Or.inl (hw _ (List.mem_of_getElem? (i := 9) rfl))) Via.refl e0 S_COMPACT_STRINGS (g := (mkF m 0 #[.val (.ref o0)] [])) rfl (hb hby d14_0)
  refine own_thr (a := T1.setTop (mkF m 3 #[.val (.ref o0)] [(.int cs)])) (fun t kt => st1 t kt) ?_
  refine own_thr (a := T1.setTop (mkF m 7 #[.val (.ref o0)] [(.ref o0)])) (fun t kt => ?_) ?_
  · show Steps p.tables e below (T1.setTop (mkF m 3 #[.val (.ref o0)] [(.int cs)])) _
    refine XS.ifNo X1.here hx rfl (hb hby d14_3) rfl ((if0 _ _).trans (feq hcs).1) ?_
    refine XS.aloadN X1.here hx rfl (hb hby d14_6) rfl rfl ?_
    exact kt
  obtain ⟨T2, X2, e2, st2⟩ := getF X1 hx hZ hown (host := "") (Or.inl (hw _ (List.mem_of_getElem? (i := 29) rfl))) Via.refl e1 F_coder_o0 (g := (mkF m 7 #[.val (.ref o0)] [(.ref o0)])) rfl rfl (hb hby d14_7)
  refine own_thr (a := T2.setTop (mkF m 10 #[.val (.ref o0)] [(.int (0 : Int32))])) (fun t kt => st2 t kt) ?_
  refine own_thr (a := T2.setTop (mkF m 18 #[.val (.ref o0)] [(.int (1 : Int32))])) (fun t kt => ?_) ?_
  · show Steps p.tables e below (T2.setTop (mkF m 10 #[.val (.ref o0)] [(.int (0 : Int32))])) _
    refine XS.ifNo X2.here hx rfl (hb hby d14_10) rfl ((if0 _ _).trans (teq rfl).2) ?_
    refine XS.iconst X2.here hx rfl (hb hby d14_13) ?_
    refine XS.goto X2.here hx rfl (pc0 := 14) (pc' := 18) rfl (hb hby d14_14) (by decide) (by decide) ?_
    exact kt
  exact own_end X2 hlk (v := some (.int (1 : Int32))) (fun h => by rw [Bd.returns] at h; cases h) (fun fs hr => retN X2 hx (t := .boolean) Bd.returns (by simp) (hb hby d14_18) hr) (by rw [e2]; exact ⟨rfl, N0, rfl⟩) (by decide : 0 ≤ _) (by decide : 0 ≤ _)
theorem d17_0 : decode jdk_41_method_11_code 0 = .ok (.iload_n 0, 1) := by decide +kernel
theorem d17_1 : decode jdk_41_method_11_code 1 = .ok (.ifCond .lt 8, 3) := by decide +kernel
theorem d17_4 : decode jdk_41_method_11_code 4 = .ok (.iload_n 0, 1) := by decide +kernel
theorem d17_5 : decode jdk_41_method_11_code 5 = .ok (.iload_n 1, 1) := by decide +kernel
theorem d17_6 : decode jdk_41_method_11_code 6 = .ok (.if_icmp .lt 10, 3) := by decide +kernel
theorem d17_16 : decode jdk_41_method_11_code 16 = .ok (.iload_n 0, 1) := by decide +kernel
theorem d17_17 : decode jdk_41_method_11_code 17 = .ok (.ireturn, 1) := by decide +kernel
theorem pn_jdk_internal_util_Preconditions : plainName "jdk/internal/util/Preconditions" = true := by first | (simp [plainName, overriddenIn]; done) | decide +kernel
theorem ef_rmPC (m : MethodId) (p0 : Int32) (p1 : Int32) (fm : Value) (hfm : fm.isRef = true) : entryFrame m #[(.int p0), (.int p1), fm] 3 = mkF m 0 #[.val (.int p0), .val (.int p1), .val fm] [] := by first | (rcases ref_cases hfm with rfl | ⟨zfm, rfl⟩ <;> simp [entryFrame, mkF, argsToLocals, Value.category]; done) |  (simp [entryFrame, mkF, argsToLocals, Value.category]; done) | rfl
def Q_rmPC (Z : State) (p0 : Int32) (p1 : Int32) (fm : Value) (h0 : Heap) (n0 : Nat) (v : Option Value) (h : Heap) (L : List Loc) : Prop := v = some (.int p0) ∧ Fr n0 L ∧ h = h0
set_option maxRecDepth 65536 in
set_option maxHeartbeats 40000000 in
theorem rmPC (l : Launch) (Z : State) (a0 : Array Value) (hw : ∀ d ∈ tables_1, d.before a0 Z = true) (ws : List Jvm.Cond) (p0 : Int32) (p1 : Int32) (fm : Value) (h0 : Heap) (n0 : Nat) (Z0 : n0 ≤ h0.size) (hfm : fm.isRef = true) (hi0 : ¬ p0 < 0) (hi1 : p0 < p1) :
    MetFree l (⟨"jdk/internal/util/Preconditions", "checkIndex", "(IILjava/util/function/BiFunction;)I"⟩ : MethodName) (head1 (Jvm.Cond.code (⟨"jdk/internal/util/Preconditions", "checkIndex", "(IILjava/util/function/BiFunction;)I"⟩ : MethodName) jdk_41_method_11_code 3 (some .int) :: ws) ({ frames := 0, cells := 0, slots := 0, locals := 0 } : Room)) (fun a U => a = #[(.int p0), (.int p1), fm] ∧ Z.Warmed39 U.vm ∧ U.heap = h0) (fun _ _ _ _ _ => True) (fun _ U o U' => ∃ v L, o = .returned v ∧ Q_rmPC Z p0 p1 fm h0 n0 v U'.heap L ∧ FrameEnd U o U' L ({ frames := 0, cells := 0, slots := 0, locals := 0 } : Room).cells ({ frames := 0, cells := 0, slots := 0, locals := 0 } : Room).slots) := by
  refine MetFree.of_bodySF (plainFor_of_name pn_jdk_internal_util_Preconditions) hisR ?_
  intro p e s m args below meth c s₁ Bd hml0 hP hK
  obtain ⟨rfl, hZ, hh⟩ := hP
  have hx := Bd.exec
  have hby := Bd.bytes
  have hml : c.maxLocals = 3 := hml0
  have hown : s.vm.findClass "jdk/internal/util/Preconditions" = some m.cls := findClass_of_methodNamed Bd.named
  have hnm := (name_of_methodNamed Bd.named Bd.method).1
  have hlk := Bd.notSynchronized
  have X0 : Stand p l e ({ frames := 0, cells := 0, slots := 0, locals := 0 } : Room) s m #[(.int p0), (.int p1), fm] below meth c s₁ [] 0 0 := Stand.of_body Bd
  have e0 : s₁.heap = h0 := by rw [← hh, Bd.state]; rfl
  have N0 := Fr.nil n0
  show own_G p.tables e below s (Q_rmPC Z p0 p1 fm h0 n0) ({ frames := 0, cells := 0, slots := 0, locals := 0 } : Room).cells ({ frames := 0, cells := 0, slots := 0, locals := 0 } : Room).slots _
  refine own_thr (a := s₁.setTop (mkF m 0 #[.val (.int p0), .val (.int p1), .val fm] [])) (fun t kt => castTop (ef_rmPC m p0 p1 fm hfm) kt) ?_
  refine own_thr (a := s₁.setTop (mkF m 17 #[.val (.int p0), .val (.int p1), .val fm] [(.int p0)])) (fun t kt => ?_) ?_
  · show Steps p.tables e below (s₁.setTop (mkF m 0 #[.val (.int p0), .val (.int p1), .val fm] [])) _
    refine XS.iloadN X0.here hx rfl (hb hby d17_0) rfl ?_
    refine XS.ifNo X0.here hx rfl (hb hby d17_1) rfl ((if0 _ _).trans (flt hi0).1) ?_
    refine XS.iloadN X0.here hx rfl (hb hby d17_4) rfl ?_
    refine XS.iloadN X0.here hx rfl (hb hby d17_5) rfl ?_
    refine XS.icmpYes X0.here hx rfl (pc0 := 6) (pc' := 16) rfl (hb hby d17_6) rfl (tlt hi1).1 (by decide) (by decide) ?_
    refine XS.iloadN X0.here hx rfl (hb hby d17_16) rfl ?_
    exact kt
  exact own_end X0 hlk (v := some (.int p0)) (fun h => by rw [Bd.returns] at h; cases h) (fun fs hr => retI X0 hx Bd.returns (hb hby d17_17) hr) (by rw [e0]; exact ⟨rfl, N0, rfl⟩) (by decide : 0 ≤ _) (by decide : 0 ≤ _)
theorem d16_0 : decode jdk_42_method_155_code 0 = .ok (.iload_n 0, 1) := by decide +kernel
theorem d16_1 : decode jdk_42_method_155_code 1 = .ok (.iload_n 1, 1) := by decide +kernel
theorem d16_2 : decode jdk_42_method_155_code 2 = .ok (.getstatic 1053, 3) := by decide +kernel
theorem pd__28IILjava_2futil_2ffunction_2fBiFunction_3b_29I : parseMethodDescriptor "(IILjava/util/function/BiFunction;)I" = some ⟨[.int, .int, (.object "java/util/function/BiFunction")], some .int⟩ := by decide +kernel
theorem d16_5 : decode jdk_42_method_155_code 5 = .ok (.invokestatic 1059, 3) := by decide +kernel
theorem d16_8 : decode jdk_42_method_155_code 8 = .ok (.pop, 1) := by decide +kernel
theorem d16_9 : decode jdk_42_method_155_code 9 = .ok (.return_, 1) := by decide +kernel
theorem ef_rmCI (m : MethodId) (p0 : Int32) (p1 : Int32)  : entryFrame m #[(.int p0), (.int p1)] 2 = mkF m 0 #[.val (.int p0), .val (.int p1)] [] := by first |  (simp [entryFrame, mkF, argsToLocals, Value.category]; done) | rfl
def Q_rmCI (Z : State) (p0 : Int32) (p1 : Int32) (fm : Value) (h0 : Heap) (n0 : Nat) (v : Option Value) (h : Heap) (L : List Loc) : Prop := v = none ∧ Fr n0 L ∧ h = h0
set_option maxRecDepth 65536 in
set_option maxHeartbeats 40000000 in
theorem rmCI (l : Launch) (Z : State) (a0 : Array Value) (hw : ∀ d ∈ tables_1, d.before a0 Z = true) (ws : List Jvm.Cond) (p0 : Int32) (p1 : Int32) (fm : Value) (h0 : Heap) (n0 : Nat) (Z0 : n0 ≤ h0.size) (S_SIOOBE_FORMATTER : Sta Z h0 "jdk/internal/util/Preconditions" "SIOOBE_FORMATTER" "Ljava/util/function/BiFunction;" fm) (hfm : fm.isRef = true) (hi0 : ¬ p0 < 0) (hi1 : p0 < p1) :
    MetFree l (⟨"java/lang/String", "checkIndex", "(II)V"⟩ : MethodName) (head1 (Jvm.Cond.code (⟨"java/lang/String", "checkIndex", "(II)V"⟩ : MethodName) jdk_42_method_155_code 2 none :: ws) ({ frames := 1, cells := 0, slots := 0, locals := 14 } : Room)) (fun a U => a = #[(.int p0), (.int p1)] ∧ Z.Warmed39 U.vm ∧ U.heap = h0) (fun _ _ _ _ _ => True) (fun _ U o U' => ∃ v L, o = .returned v ∧ Q_rmCI Z p0 p1 fm h0 n0 v U'.heap L ∧ FrameEnd U o U' L ({ frames := 1, cells := 0, slots := 0, locals := 14 } : Room).cells ({ frames := 1, cells := 0, slots := 0, locals := 14 } : Room).slots) := by
  refine MetFree.of_bodySF (plainFor_of_name pn_java_lang_String) hisR ?_
  intro p e s m args below meth c s₁ Bd hml0 hP hK
  obtain ⟨rfl, hZ, hh⟩ := hP
  have hx := Bd.exec
  have hby := Bd.bytes
  have hml : c.maxLocals = 2 := hml0
  have hown : s.vm.findClass "java/lang/String" = some m.cls := findClass_of_methodNamed Bd.named
  have hnm := (name_of_methodNamed Bd.named Bd.method).1
  have hlk := Bd.notSynchronized
  have X0 : Stand p l e ({ frames := 1, cells := 0, slots := 0, locals := 14 } : Room) s m #[(.int p0), (.int p1)] below meth c s₁ [] 0 0 := Stand.of_body Bd
  have e0 : s₁.heap = h0 := by rw [← hh, Bd.state]; rfl
  have N0 := Fr.nil n0
  show own_G p.tables e below s (Q_rmCI Z p0 p1 fm h0 n0) ({ frames := 1, cells := 0, slots := 0, locals := 14 } : Room).cells ({ frames := 1, cells := 0, slots := 0, locals := 14 } : Room).slots _
  refine own_thr (a := s₁.setTop (mkF m 0 #[.val (.int p0), .val (.int p1)] [])) (fun t kt => castTop (ef_rmCI m p0 p1) kt) ?_
  refine own_thr (a := s₁.setTop (mkF m 2 #[.val (.int p0), .val (.int p1)] [(.int p1), (.int p0)])) (fun t kt => ?_) ?_
  · show Steps p.tables e below (s₁.setTop (mkF m 0 #[.val (.int p0), .val (.int p1)] [])) _
    refine XS.iloadN X0.here hx rfl (hb hby d16_0) rfl ?_
    refine XS.iloadN X0.here hx rfl (hb hby d16_1) rfl ?_
    exact kt
  obtain ⟨T1, X1, e1, st1⟩ := getS2 X0 hx hZ hown (host := "") (Or.inl (hw _ (List.mem_of_getElem? (i := 80) rfl))) Via.refl e0 S_SIOOBE_FORMATTER (g := (mkF m 2 #[.val (.int p0), .val (.int p1)] [(.int p1), (.int p0)])) rfl (hb hby d16_2)
  refine own_thr (a := T1.setTop (mkF m 5 #[.val (.int p0), .val (.int p1)] [fm, (.int p1), (.int p0)])) (fun t kt => st1 t kt) ?_
  obtain ⟨_, _, ⟨T2, L2, k2, n2⟩, -, X2, ⟨Lc2, hQ2, l2, y2, z2⟩, st2⟩ := Jvm.LawKit.callS X1 hx (y := (⟨"jdk/internal/util/Preconditions", "checkIndex", "(IILjava/util/function/BiFunction;)I"⟩ : MethodName)) hown (mvT hZ (hw _ (List.mem_of_getElem? (i := 82) rfl))) (mvT hZ (hw _ (List.mem_of_getElem? (i := 83) rfl))) (mvT hZ (hw _ (List.mem_of_getElem? (i := 81) rfl))) (mvT hZ (hw _ (List.mem_of_getElem? (i := 84) rfl))) (by decide) (backOf (W := 0) (rmPC l Z a0 hw [] p0 p1 fm h0 n0 Z0 hfm hi0 hi1) hZ (hw _ (List.mem_of_getElem? (i := 84) rfl)) (hw _ (List.mem_of_getElem? (i := 81) rfl)) (by decide) (by decide)) (g := (mkF m 5 #[.val (.int p0), .val (.int p1)] [fm, (.int p1), (.int p0)])) rfl (by rw [hml]; rfl) (argsL := [(.int p0), (.int p1), fm]) (rest := []) (lenOf pd__28IILjava_2futil_2ffunction_2fBiFunction_3b_29I rfl) rfl (by show 2 * 0 + _ ≤ _; exact Nat.le_of_eq rfl) (hb hby d16_5) (fun _ _ => ⟨rfl, e1, (by decide : 0 + 0 ≤ _), (by decide : 0 + 0 ≤ _)⟩)
  dsimp only [Pt.U, Pt.locs, Pt.cells, Pt.slots] at X2 l2 y2 z2 st2 hQ2
  obtain ⟨rfl, N2q, e2⟩ := hQ2
  obtain ⟨lc2, X2, N2⟩ := own_pack X2 l2 y2 z2 N0 N2q (C := 0) (S' := 0) rfl rfl
  refine own_thr (a := T2.setTop (mkF m 8 #[.val (.int p0), .val (.int p1)] [(.int p0)])) (fun t kt => st2 t kt) ?_
  refine own_thr (a := T2.setTop (mkF m 9 #[.val (.int p0), .val (.int p1)] [])) (fun t kt => ?_) ?_
  · show Steps p.tables e below (T2.setTop (mkF m 8 #[.val (.int p0), .val (.int p1)] [(.int p0)])) _
    refine XS.pop X2.here hx rfl (hb hby d16_8) rfl rfl ?_
    exact kt
  exact own_end X2 hlk (v := none) (fun _ => rfl) (fun fs hr => X2.returnOut hx Bd.returns (hb hby d16_9) hr) (by rw [e2]; exact ⟨rfl, N2, rfl⟩) (by decide : 0 ≤ _) (by decide : 0 ≤ _)
theorem d11_0 : decode jdk_42_method_54_code 0 = .ok (.aload_n 0, 1) := by decide +kernel
theorem d11_1 : decode jdk_42_method_54_code 1 = .ok (.getfield 9, 3) := by decide +kernel
theorem d11_4 : decode jdk_42_method_54_code 4 = .ok (.arraylength, 1) := by decide +kernel
theorem d11_5 : decode jdk_42_method_54_code 5 = .ok (.aload_n 0, 1) := by decide +kernel
theorem pd__28_29B : parseMethodDescriptor "()B" = some ⟨[], some .byte⟩ := by decide +kernel
theorem d11_6 : decode jdk_42_method_54_code 6 = .ok (.invokevirtual 335, 3) := by decide +kernel
theorem d11_9 : decode jdk_42_method_54_code 9 = .ok (.ishr, 1) := by decide +kernel
theorem d11_10 : decode jdk_42_method_54_code 10 = .ok (.ireturn, 1) := by decide +kernel
theorem ef_rmLN1 (m : MethodId) (o0 : Addr)  : entryFrame m #[(.ref o0)] 1 = mkF m 0 #[.val (.ref o0)] [] := by first |  (simp [entryFrame, mkF, argsToLocals, Value.category]; done) | rfl
def Q_rmLN1 (Z : State) (o0 : Addr) (sv : Addr) (ks : ClassId) (vs : List Value) (cs : Int32) (h0 : Heap) (n0 : Nat) (v : Option Value) (h : Heap) (L : List Loc) : Prop := v = some (.int (1 : Int32)) ∧ Fr n0 L ∧ h = h0
set_option maxRecDepth 65536 in
set_option maxHeartbeats 40000000 in
theorem rmLN1 (l : Launch) (Z : State) (a0 : Array Value) (hw : ∀ d ∈ tables_1, d.before a0 Z = true) (ws : List Jvm.Cond) (o0 : Addr) (sv : Addr) (ks : ClassId) (vs : List Value) (cs : Int32) (h0 : Heap) (n0 : Nat) (Z0 : n0 ≤ h0.size) (E_o0 : Exa Z h0 o0 "java/lang/String") (F_value_o0 : Fld Z h0 o0 "java/lang/String" "value" "[B" (.ref sv)) (F_coder_o0 : Fld Z h0 o0 "java/lang/String" "coder" "B" (.int (0 : Int32))) (V_sv : Arv Z h0 sv ks .byte (1 : Int32) vs (.int (0 : Int32))) (S_COMPACT_STRINGS : Sta Z h0 "java/lang/String" "COMPACT_STRINGS" "Z" (.int cs)) (hcs : ¬ cs = (0 : Int32)) :
    MetFree l (⟨"java/lang/String", "length", "()I"⟩ : MethodName) (head1 (Jvm.Cond.code (⟨"java/lang/String", "length", "()I"⟩ : MethodName) jdk_42_method_54_code 1 (some .int) :: ws) ({ frames := 1, cells := 0, slots := 0, locals := 13 } : Room)) (fun a U => a = #[(.ref o0)] ∧ Z.Warmed39 U.vm ∧ U.heap = h0) (fun _ _ _ _ _ => True) (fun _ U o U' => ∃ v L, o = .returned v ∧ Q_rmLN1 Z o0 sv ks vs cs h0 n0 v U'.heap L ∧ FrameEnd U o U' L ({ frames := 1, cells := 0, slots := 0, locals := 13 } : Room).cells ({ frames := 1, cells := 0, slots := 0, locals := 13 } : Room).slots) := by
  refine MetFree.of_bodySF (plainFor_of_name pn_java_lang_String) hisR ?_
  intro p e s m args below meth c s₁ Bd hml0 hP hK
  obtain ⟨rfl, hZ, hh⟩ := hP
  have hx := Bd.exec
  have hby := Bd.bytes
  have hml : c.maxLocals = 1 := hml0
  have hown : s.vm.findClass "java/lang/String" = some m.cls := findClass_of_methodNamed Bd.named
  have hnm := (name_of_methodNamed Bd.named Bd.method).1
  have hlk := Bd.notSynchronized
  have X0 : Stand p l e ({ frames := 1, cells := 0, slots := 0, locals := 13 } : Room) s m #[(.ref o0)] below meth c s₁ [] 0 0 := Stand.of_body Bd
  have e0 : s₁.heap = h0 := by rw [← hh, Bd.state]; rfl
  have N0 := Fr.nil n0
  show own_G p.tables e below s (Q_rmLN1 Z o0 sv ks vs cs h0 n0) ({ frames := 1, cells := 0, slots := 0, locals := 13 } : Room).cells ({ frames := 1, cells := 0, slots := 0, locals := 13 } : Room).slots _
  refine own_thr (a := s₁.setTop (mkF m 0 #[.val (.ref o0)] [])) (fun t kt => castTop (ef_rmLN1 m o0) kt) ?_
  refine own_thr (a := s₁.setTop (mkF m 1 #[.val (.ref o0)] [(.ref o0)])) (fun t kt => ?_) ?_
  · show Steps p.tables e below (s₁.setTop (mkF m 0 #[.val (.ref o0)] [])) _
    refine XS.aloadN X0.here hx rfl (hb hby d11_0) rfl rfl ?_
    exact kt
  obtain ⟨T1, X1, e1, st1⟩ := getF X0 hx hZ hown (host := "") (Or.inl (hw _ (List.mem_of_getElem? (i := 27) rfl))) Via.refl e0 F_value_o0 (g := (mkF m 1 #[.val (.ref o0)] [(.ref o0)])) rfl rfl (hb hby d11_1)
  refine own_thr (a := T1.setTop (mkF m 4 #[.val (.ref o0)] [(.ref sv)])) (fun t kt => st1 t kt) ?_
  obtain ⟨cl2, Ar2, -, S2, M2, -, -⟩ := id V_sv
  refine own_thr (a := T1.setTop (mkF m 6 #[.val (.ref o0)] [(.ref o0), (.int (1 : Int32))])) (fun t kt => ?_) ?_
  · show Steps p.tables e below (T1.setTop (mkF m 4 #[.val (.ref o0)] [(.ref sv)])) _
    refine X1.arraylength hx (by rw [e1]; exact Ar2.1) (State.isArrayOf_alike hZ.alike Ar2.2.1) (g := (mkF m 4 #[.val (.ref o0)] [(.ref sv)])) rfl rfl (hb hby d11_4) _ ?_
    rw [len_of S2 M2]
    refine XS.aloadN X1.here hx rfl (hb hby d11_5) rfl rfl ?_
    exact kt
  obtain ⟨cq3, kq3, q3a, q3b, q3c⟩ := isOf hZ e1 E_o0
  obtain ⟨_, _, ⟨T3, L3, k3, n3⟩, -, X3, ⟨Lc3, hQ3, l3, y3, z3⟩, st3⟩ := X1.virtualBack hx (y := (⟨"java/lang/String", "coder", "()B"⟩ : MethodName)) (z := (⟨"java/lang/String", "coder", "()B"⟩ : MethodName)) hown (mvT hZ (hw _ (List.mem_of_getElem? (i := 59) rfl))) (mvT hZ (hw _ (List.mem_of_getElem? (i := 60) rfl))) (notFace_of_selects (args := #[]) (mvT hZ (hw _ (List.mem_of_getElem? (i := 62) rfl)))) (mvT hZ (hw _ (List.mem_of_getElem? (i := 62) rfl))) (mvT hZ (hw _ (List.mem_of_getElem? (i := 61) rfl))) (by decide) (backOf (W := 1) (rmCO l Z a0 hw [] o0 cs h0 n0 Z0 E_o0 F_coder_o0 S_COMPACT_STRINGS hcs) hZ (hw _ (List.mem_of_getElem? (i := 63) rfl)) (hw _ (List.mem_of_getElem? (i := 7) rfl)) (by decide) (by decide)) q3a q3c (g := (mkF m 6 #[.val (.ref o0)] [(.ref o0), (.int (1 : Int32))])) rfl (by rw [hml]; rfl) (Steps.refl _) (argsL := []) (rest := [(.int (1 : Int32))]) (lenOf pd__28_29B rfl) rfl (by show 2 * 0 + _ ≤ _; exact Nat.le_of_eq rfl) (hb hby d11_6) (fun _ _ => ⟨rfl, e1, (by decide : 0 + 0 ≤ _), (by decide : 0 + 0 ≤ _)⟩)
  dsimp only [Pt.U, Pt.locs, Pt.cells, Pt.slots] at X3 l3 y3 z3 st3 hQ3
  obtain ⟨rfl, N3q, e3⟩ := hQ3
  obtain ⟨lc3, X3, N3⟩ := own_pack X3 l3 y3 z3 N0 N3q (C := 0) (S' := 0) rfl rfl
  refine own_thr (a := T3.setTop (mkF m 9 #[.val (.ref o0)] [(.int (0 : Int32)), (.int (1 : Int32))])) (fun t kt => st3.trans kt) ?_
  refine own_thr (a := T3.setTop (mkF m 10 #[.val (.ref o0)] [(.int (1 : Int32))])) (fun t kt => ?_) ?_
  · show Steps p.tables e below (T3.setTop (mkF m 9 #[.val (.ref o0)] [(.int (0 : Int32)), (.int (1 : Int32))])) _
    refine XS.ishr X3.here hx rfl (hb hby d11_9) rfl ?_
    exact kt
  exact own_end X3 hlk (v := some (.int (1 : Int32))) (fun h => by rw [Bd.returns] at h; cases h) (fun fs hr => retI X3 hx Bd.returns (hb hby d11_10) hr) (by rw [e3]; exact ⟨rfl, N3, rfl⟩) (by decide : 0 ≤ _) (by decide : 0 ≤ _)
theorem d10_0 : decode jdk_42_method_55_code 0 = .ok (.aload_n 0, 1) := by decide +kernel
theorem d10_1 : decode jdk_42_method_55_code 1 = .ok (.getfield 9, 3) := by decide +kernel
theorem d10_4 : decode jdk_42_method_55_code 4 = .ok (.arraylength, 1) := by decide +kernel
theorem d10_5 : decode jdk_42_method_55_code 5 = .ok (.ifCond .ne 7, 3) := by decide +kernel
theorem d10_12 : decode jdk_42_method_55_code 12 = .ok (.iconst 0, 1) := by decide +kernel
theorem d10_13 : decode jdk_42_method_55_code 13 = .ok (.ireturn, 1) := by decide +kernel
theorem ef_rmEM1 (m : MethodId) (o0 : Addr)  : entryFrame m #[(.ref o0)] 1 = mkF m 0 #[.val (.ref o0)] [] := by first |  (simp [entryFrame, mkF, argsToLocals, Value.category]; done) | rfl
def Q_rmEM1 (Z : State) (o0 : Addr) (sv : Addr) (ks : ClassId) (vs : List Value) (h0 : Heap) (n0 : Nat) (v : Option Value) (h : Heap) (L : List Loc) : Prop := v = some (.int (0 : Int32)) ∧ Fr n0 L ∧ h = h0
set_option maxRecDepth 65536 in
set_option maxHeartbeats 40000000 in
theorem rmEM1 (l : Launch) (Z : State) (a0 : Array Value) (hw : ∀ d ∈ tables_1, d.before a0 Z = true) (ws : List Jvm.Cond) (o0 : Addr) (sv : Addr) (ks : ClassId) (vs : List Value) (h0 : Heap) (n0 : Nat) (Z0 : n0 ≤ h0.size) (E_o0 : Exa Z h0 o0 "java/lang/String") (F_value_o0 : Fld Z h0 o0 "java/lang/String" "value" "[B" (.ref sv)) (F_coder_o0 : Fld Z h0 o0 "java/lang/String" "coder" "B" (.int (0 : Int32))) (V_sv : Arv Z h0 sv ks .byte (1 : Int32) vs (.int (0 : Int32))) :
    MetFree l (⟨"java/lang/String", "isEmpty", "()Z"⟩ : MethodName) (head1 (Jvm.Cond.code (⟨"java/lang/String", "isEmpty", "()Z"⟩ : MethodName) jdk_42_method_55_code 1 (some .boolean) :: ws) ({ frames := 0, cells := 0, slots := 0, locals := 0 } : Room)) (fun a U => a = #[(.ref o0)] ∧ Z.Warmed39 U.vm ∧ U.heap = h0) (fun _ _ _ _ _ => True) (fun _ U o U' => ∃ v L, o = .returned v ∧ Q_rmEM1 Z o0 sv ks vs h0 n0 v U'.heap L ∧ FrameEnd U o U' L ({ frames := 0, cells := 0, slots := 0, locals := 0 } : Room).cells ({ frames := 0, cells := 0, slots := 0, locals := 0 } : Room).slots) := by
  refine MetFree.of_bodySF (plainFor_of_name pn_java_lang_String) hisR ?_
  intro p e s m args below meth c s₁ Bd hml0 hP hK
  obtain ⟨rfl, hZ, hh⟩ := hP
  have hx := Bd.exec
  have hby := Bd.bytes
  have hml : c.maxLocals = 1 := hml0
  have hown : s.vm.findClass "java/lang/String" = some m.cls := findClass_of_methodNamed Bd.named
  have hnm := (name_of_methodNamed Bd.named Bd.method).1
  have hlk := Bd.notSynchronized
  have X0 : Stand p l e ({ frames := 0, cells := 0, slots := 0, locals := 0 } : Room) s m #[(.ref o0)] below meth c s₁ [] 0 0 := Stand.of_body Bd
  have e0 : s₁.heap = h0 := by rw [← hh, Bd.state]; rfl
  have N0 := Fr.nil n0
  show own_G p.tables e below s (Q_rmEM1 Z o0 sv ks vs h0 n0) ({ frames := 0, cells := 0, slots := 0, locals := 0 } : Room).cells ({ frames := 0, cells := 0, slots := 0, locals := 0 } : Room).slots _
  refine own_thr (a := s₁.setTop (mkF m 0 #[.val (.ref o0)] [])) (fun t kt => castTop (ef_rmEM1 m o0) kt) ?_
  refine own_thr (a := s₁.setTop (mkF m 1 #[.val (.ref o0)] [(.ref o0)])) (fun t kt => ?_) ?_
  · show Steps p.tables e below (s₁.setTop (mkF m 0 #[.val (.ref o0)] [])) _
    refine XS.aloadN X0.here hx rfl (hb hby d10_0) rfl rfl ?_
    exact kt
  obtain ⟨T1, X1, e1, st1⟩ := getF X0 hx hZ hown (host := "") (Or.inl (hw _ (List.mem_of_getElem? (i := 27) rfl))) Via.refl e0 F_value_o0 (g := (mkF m 1 #[.val (.ref o0)] [(.ref o0)])) rfl rfl (hb hby d10_1)
  refine own_thr (a := T1.setTop (mkF m 4 #[.val (.ref o0)] [(.ref sv)])) (fun t kt => st1 t kt) ?_
  obtain ⟨cl2, Ar2, -, S2, M2, -, -⟩ := id V_sv
  refine own_thr (a := T1.setTop (mkF m 13 #[.val (.ref o0)] [(.int (0 : Int32))])) (fun t kt => ?_) ?_
  · show Steps p.tables e below (T1.setTop (mkF m 4 #[.val (.ref o0)] [(.ref sv)])) _
    refine X1.arraylength hx (by rw [e1]; exact Ar2.1) (State.isArrayOf_alike hZ.alike Ar2.2.1) (g := (mkF m 4 #[.val (.ref o0)] [(.ref sv)])) rfl rfl (hb hby d10_4) _ ?_
    rw [len_of S2 M2]
    refine XS.ifYes X1.here hx rfl (pc0 := 5) (pc' := 12) rfl (hb hby d10_5) rfl ((if0 _ _).trans (feq (by decide)).2) (by decide) (by decide) ?_
    refine XS.iconst X1.here hx rfl (hb hby d10_12) ?_
    exact kt
  exact own_end X1 hlk (v := some (.int (0 : Int32))) (fun h => by rw [Bd.returns] at h; cases h) (fun fs hr => retN X1 hx (t := .boolean) Bd.returns (by simp) (hb hby d10_13) hr) (by rw [e1]; exact ⟨rfl, N0, rfl⟩) (by decide : 0 ≤ _) (by decide : 0 ≤ _)
theorem d15_0 : decode jdk_43_method_2_code 0 = .ok (.iload_n 1, 1) := by decide +kernel
theorem d15_1 : decode jdk_43_method_2_code 1 = .ok (.aload_n 0, 1) := by decide +kernel
theorem d15_2 : decode jdk_43_method_2_code 2 = .ok (.arraylength, 1) := by decide +kernel
theorem pd__28II_29V : parseMethodDescriptor "(II)V" = some ⟨[.int, .int], none⟩ := by decide +kernel
theorem d15_3 : decode jdk_43_method_2_code 3 = .ok (.invokestatic 9, 3) := by decide +kernel
theorem d15_6 : decode jdk_43_method_2_code 6 = .ok (.aload_n 0, 1) := by decide +kernel
theorem d15_7 : decode jdk_43_method_2_code 7 = .ok (.iload_n 1, 1) := by decide +kernel
theorem d15_8 : decode jdk_43_method_2_code 8 = .ok (.baload, 1) := by decide +kernel
theorem d15_9 : decode jdk_43_method_2_code 9 = .ok (.sipush 255, 3) := by decide +kernel
theorem d15_12 : decode jdk_43_method_2_code 12 = .ok (.iand, 1) := by decide +kernel
theorem d15_13 : decode jdk_43_method_2_code 13 = .ok (.i2c, 1) := by decide +kernel
theorem d15_14 : decode jdk_43_method_2_code 14 = .ok (.ireturn, 1) := by decide +kernel
theorem ef_rmLC10 (m : MethodId) (o0 : Addr)  : entryFrame m #[(.ref o0), (.int (0 : Int32))] 2 = mkF m 0 #[.val (.ref o0), .val (.int (0 : Int32))] [] := by first |  (simp [entryFrame, mkF, argsToLocals, Value.category]; done) | rfl
def Q_rmLC10 (Z : State) (o0 : Addr) (k0 : ClassId) (w0 : Int32) (fm : Value) (h0 : Heap) (n0 : Nat) (v : Option Value) (h : Heap) (L : List Loc) : Prop := v = some (.int (nar .char ((w0 &&& (255 : Int32)).toUInt32.toUInt16.toUInt32.toInt32))) ∧ Fr n0 L ∧ h = h0
set_option maxRecDepth 65536 in
set_option maxHeartbeats 40000000 in
theorem rmLC10 (l : Launch) (Z : State) (a0 : Array Value) (hw : ∀ d ∈ tables_1, d.before a0 Z = true) (ws : List Jvm.Cond) (o0 : Addr) (k0 : ClassId) (w0 : Int32) (fm : Value) (h0 : Heap) (n0 : Nat) (Z0 : n0 ≤ h0.size) (V_o0 : Arv Z h0 o0 k0 .byte (1 : Int32) [(.int w0)] (.int (0 : Int32))) (S_SIOOBE_FORMATTER : Sta Z h0 "jdk/internal/util/Preconditions" "SIOOBE_FORMATTER" "Ljava/util/function/BiFunction;" fm) (hfm : fm.isRef = true) :
    MetFree l (⟨"java/lang/StringLatin1", "charAt", "([BI)C"⟩ : MethodName) (head1 (Jvm.Cond.code (⟨"java/lang/StringLatin1", "charAt", "([BI)C"⟩ : MethodName) jdk_43_method_2_code 2 (some .char) :: ws) ({ frames := 2, cells := 0, slots := 0, locals := 27 } : Room)) (fun a U => a = #[(.ref o0), (.int (0 : Int32))] ∧ Z.Warmed39 U.vm ∧ U.heap = h0) (fun _ _ _ _ _ => True) (fun _ U o U' => ∃ v L, o = .returned v ∧ Q_rmLC10 Z o0 k0 w0 fm h0 n0 v U'.heap L ∧ FrameEnd U o U' L ({ frames := 2, cells := 0, slots := 0, locals := 27 } : Room).cells ({ frames := 2, cells := 0, slots := 0, locals := 27 } : Room).slots) := by
  refine MetFree.of_bodySF (plainFor_of_name pn_java_lang_StringLatin1) hisR ?_
  intro p e s m args below meth c s₁ Bd hml0 hP hK
  obtain ⟨rfl, hZ, hh⟩ := hP
  have hx := Bd.exec
  have hby := Bd.bytes
  have hml : c.maxLocals = 2 := hml0
  have hown : s.vm.findClass "java/lang/StringLatin1" = some m.cls := findClass_of_methodNamed Bd.named
  have hnm := (name_of_methodNamed Bd.named Bd.method).1
  have hlk := Bd.notSynchronized
  have X0 : Stand p l e ({ frames := 2, cells := 0, slots := 0, locals := 27 } : Room) s m #[(.ref o0), (.int (0 : Int32))] below meth c s₁ [] 0 0 := Stand.of_body Bd
  have e0 : s₁.heap = h0 := by rw [← hh, Bd.state]; rfl
  have N0 := Fr.nil n0
  show own_G p.tables e below s (Q_rmLC10 Z o0 k0 w0 fm h0 n0) ({ frames := 2, cells := 0, slots := 0, locals := 27 } : Room).cells ({ frames := 2, cells := 0, slots := 0, locals := 27 } : Room).slots _
  refine own_thr (a := s₁.setTop (mkF m 0 #[.val (.ref o0), .val (.int (0 : Int32))] [])) (fun t kt => castTop (ef_rmLC10 m o0) kt) ?_
  refine own_thr (a := s₁.setTop (mkF m 2 #[.val (.ref o0), .val (.int (0 : Int32))] [(.ref o0), (.int (0 : Int32))])) (fun t kt => ?_) ?_
  · show Steps p.tables e below (s₁.setTop (mkF m 0 #[.val (.ref o0), .val (.int (0 : Int32))] [])) _
    refine XS.iloadN X0.here hx rfl (hb hby d15_0) rfl ?_
    refine XS.aloadN X0.here hx rfl (hb hby d15_1) rfl rfl ?_
    exact kt
  obtain ⟨cl1, Ar1, -, S1, M1, -, -⟩ := id V_o0
  refine own_thr (a := s₁.setTop (mkF m 3 #[.val (.ref o0), .val (.int (0 : Int32))] [(.int (1 : Int32)), (.int (0 : Int32))])) (fun t kt => ?_) ?_
  · show Steps p.tables e below (s₁.setTop (mkF m 2 #[.val (.ref o0), .val (.int (0 : Int32))] [(.ref o0), (.int (0 : Int32))])) _
    refine X0.arraylength hx (by rw [e0]; exact Ar1.1) (State.isArrayOf_alike hZ.alike Ar1.2.1) (g := (mkF m 2 #[.val (.ref o0), .val (.int (0 : Int32))] [(.ref o0), (.int (0 : Int32))])) rfl rfl (hb hby d15_2) _ ?_
    rw [len_of S1 M1]
    exact kt
  obtain ⟨_, _, ⟨T2, L2, k2, n2⟩, -, X2, ⟨Lc2, hQ2, l2, y2, z2⟩, st2⟩ := Jvm.LawKit.callS X0 hx (y := (⟨"java/lang/String", "checkIndex", "(II)V"⟩ : MethodName)) hown (mvT hZ (hw _ (List.mem_of_getElem? (i := 77) rfl))) (mvT hZ (hw _ (List.mem_of_getElem? (i := 78) rfl))) (mvT hZ (hw _ (List.mem_of_getElem? (i := 7) rfl))) (mvT hZ (hw _ (List.mem_of_getElem? (i := 79) rfl))) (by decide) (backOf (W := 0) (rmCI l Z a0 hw [] (0 : Int32) (1 : Int32) fm h0 n0 Z0 S_SIOOBE_FORMATTER hfm (by decide) (by decide)) hZ (hw _ (List.mem_of_getElem? (i := 79) rfl)) (hw _ (List.mem_of_getElem? (i := 7) rfl)) (by decide) (by decide)) (g := (mkF m 3 #[.val (.ref o0), .val (.int (0 : Int32))] [(.int (1 : Int32)), (.int (0 : Int32))])) rfl (by rw [hml]; rfl) (argsL := [(.int (0 : Int32)), (.int (1 : Int32))]) (rest := []) (lenOf pd__28II_29V rfl) rfl (by show 2 * 0 + _ ≤ _; exact Nat.le_of_eq rfl) (hb hby d15_3) (fun _ _ => ⟨rfl, e0, (by decide : 0 + 0 ≤ _), (by decide : 0 + 0 ≤ _)⟩)
  dsimp only [Pt.U, Pt.locs, Pt.cells, Pt.slots] at X2 l2 y2 z2 st2 hQ2
  obtain ⟨rfl, N2q, e2⟩ := hQ2
  obtain ⟨lc2, X2, N2⟩ := own_pack X2 l2 y2 z2 N0 N2q (C := 0) (S' := 0) rfl rfl
  refine own_thr (a := T2.setTop (mkF m 6 #[.val (.ref o0), .val (.int (0 : Int32))] [])) (fun t kt => st2 t kt) ?_
  refine own_thr (a := T2.setTop (mkF m 8 #[.val (.ref o0), .val (.int (0 : Int32))] [(.int (0 : Int32)), (.ref o0)])) (fun t kt => ?_) ?_
  · show Steps p.tables e below (T2.setTop (mkF m 6 #[.val (.ref o0), .val (.int (0 : Int32))] [])) _
    refine XS.aloadN X2.here hx rfl (hb hby d15_6) rfl rfl ?_
    refine XS.iloadN X2.here hx rfl (hb hby d15_7) rfl ?_
    exact kt
  obtain ⟨cl3, Ar3, -, S3, M3, H3, -⟩ := id V_o0
  have hin3 : ¬ ((0 : Int32) < 0 ∨ cl3.slots.size ≤ ((0 : Int32)).toNatClampNeg) := inb_of S3 ⟨by decide, by decide⟩
  have hat3 : cl3.slots[((0 : Int32)).toNatClampNeg]? = some (.int w0) := Has.at H3 hin3 rfl
  refine own_thr (a := T2.setTop (mkF m 14 #[.val (.ref o0), .val (.int (0 : Int32))] [(.int ((w0 &&& (255 : Int32)).toUInt32.toUInt16.toUInt32.toInt32))])) (fun t kt => ?_) ?_
  · show Steps p.tables e below (T2.setTop (mkF m 8 #[.val (.ref o0), .val (.int (0 : Int32))] [(.int (0 : Int32)), (.ref o0)])) _
    refine X2.baloadBytes hx (j := (0 : Int32)) (v := (.int w0)) (by rw [e2]; exact Ar3.1) (State.isArrayOf_alike hZ.alike Ar3.2.1) Ar3.2.2 hin3 hat3 (g := (mkF m 8 #[.val (.ref o0), .val (.int (0 : Int32))] [(.int (0 : Int32)), (.ref o0)])) rfl rfl (hb hby d15_8) _ ?_
    refine XS.sipush X2.here hx rfl (hb hby d15_9) ?_
    refine XS.iand X2.here hx rfl (hb hby d15_12) rfl ?_
    refine XS.i2c X2.here hx rfl (hb hby d15_13) rfl ?_
    exact kt
  exact own_end X2 hlk (v := some (.int (nar .char ((w0 &&& (255 : Int32)).toUInt32.toUInt16.toUInt32.toInt32)))) (fun h => by rw [Bd.returns] at h; cases h) (fun fs hr => retN X2 hx (t := .char) Bd.returns (by simp) (hb hby d15_14) hr) (by rw [e2]; exact ⟨rfl, N2, rfl⟩) (by decide : 0 ≤ _) (by decide : 0 ≤ _)
theorem d13_0 : decode jdk_42_method_56_code 0 = .ok (.aload_n 0, 1) := by decide +kernel
theorem pd__28_29Z : parseMethodDescriptor "()Z" = some ⟨[], some .boolean⟩ := by decide +kernel
theorem d13_1 : decode jdk_42_method_56_code 1 = .ok (.invokevirtual 492, 3) := by decide +kernel
theorem d13_4 : decode jdk_42_method_56_code 4 = .ok (.ifCond .eq 12, 3) := by decide +kernel
theorem d13_7 : decode jdk_42_method_56_code 7 = .ok (.aload_n 0, 1) := by decide +kernel
theorem d13_8 : decode jdk_42_method_56_code 8 = .ok (.getfield 9, 3) := by decide +kernel
theorem d13_11 : decode jdk_42_method_56_code 11 = .ok (.iload_n 1, 1) := by decide +kernel
theorem pd__28_5bBI_29C : parseMethodDescriptor "([BI)C" = some ⟨[(.array .byte), .int], some .char⟩ := by decide +kernel
theorem d13_12 : decode jdk_42_method_56_code 12 = .ok (.invokestatic 495, 3) := by decide +kernel
theorem d13_15 : decode jdk_42_method_56_code 15 = .ok (.ireturn, 1) := by decide +kernel
theorem ef_rmCA10 (m : MethodId) (o0 : Addr)  : entryFrame m #[(.ref o0), (.int (0 : Int32))] 2 = mkF m 0 #[.val (.ref o0), .val (.int (0 : Int32))] [] := by first |  (simp [entryFrame, mkF, argsToLocals, Value.category]; done) | rfl
def Q_rmCA10 (Z : State) (o0 : Addr) (sv : Addr) (ks : ClassId) (w0 : Int32) (cs : Int32) (fm : Value) (h0 : Heap) (n0 : Nat) (v : Option Value) (h : Heap) (L : List Loc) : Prop := v = some (.int (nar .char (nar .char ((w0 &&& (255 : Int32)).toUInt32.toUInt16.toUInt32.toInt32)))) ∧ Fr n0 L ∧ h = h0
set_option maxRecDepth 65536 in
set_option maxHeartbeats 40000000 in
theorem rmCA10 (l : Launch) (Z : State) (a0 : Array Value) (hw : ∀ d ∈ tables_1, d.before a0 Z = true) (ws : List Jvm.Cond) (o0 : Addr) (sv : Addr) (ks : ClassId) (w0 : Int32) (cs : Int32) (fm : Value) (h0 : Heap) (n0 : Nat) (Z0 : n0 ≤ h0.size) (E_o0 : Exa Z h0 o0 "java/lang/String") (F_value_o0 : Fld Z h0 o0 "java/lang/String" "value" "[B" (.ref sv)) (F_coder_o0 : Fld Z h0 o0 "java/lang/String" "coder" "B" (.int (0 : Int32))) (V_sv : Arv Z h0 sv ks .byte (1 : Int32) [(.int w0)] (.int (0 : Int32))) (S_COMPACT_STRINGS : Sta Z h0 "java/lang/String" "COMPACT_STRINGS" "Z" (.int cs)) (S_SIOOBE_FORMATTER : Sta Z h0 "jdk/internal/util/Preconditions" "SIOOBE_FORMATTER" "Ljava/util/function/BiFunction;" fm) (hcs : ¬ cs = (0 : Int32)) (hfm : fm.isRef = true) :
    MetFree l (⟨"java/lang/String", "charAt", "(I)C"⟩ : MethodName) (head1 (Jvm.Cond.code (⟨"java/lang/String", "charAt", "(I)C"⟩ : MethodName) jdk_42_method_56_code 2 (some .char) :: ws) ({ frames := 3, cells := 0, slots := 0, locals := 40 } : Room)) (fun a U => a = #[(.ref o0), (.int (0 : Int32))] ∧ Z.Warmed39 U.vm ∧ U.heap = h0) (fun _ _ _ _ _ => True) (fun _ U o U' => ∃ v L, o = .returned v ∧ Q_rmCA10 Z o0 sv ks w0 cs fm h0 n0 v U'.heap L ∧ FrameEnd U o U' L ({ frames := 3, cells := 0, slots := 0, locals := 40 } : Room).cells ({ frames := 3, cells := 0, slots := 0, locals := 40 } : Room).slots) := by
  refine MetFree.of_bodySF (plainFor_of_name pn_java_lang_String) hisR ?_
  intro p e s m args below meth c s₁ Bd hml0 hP hK
  obtain ⟨rfl, hZ, hh⟩ := hP
  have hx := Bd.exec
  have hby := Bd.bytes
  have hml : c.maxLocals = 2 := hml0
  have hown : s.vm.findClass "java/lang/String" = some m.cls := findClass_of_methodNamed Bd.named
  have hnm := (name_of_methodNamed Bd.named Bd.method).1
  have hlk := Bd.notSynchronized
  have X0 : Stand p l e ({ frames := 3, cells := 0, slots := 0, locals := 40 } : Room) s m #[(.ref o0), (.int (0 : Int32))] below meth c s₁ [] 0 0 := Stand.of_body Bd
  have e0 : s₁.heap = h0 := by rw [← hh, Bd.state]; rfl
  have N0 := Fr.nil n0
  show own_G p.tables e below s (Q_rmCA10 Z o0 sv ks w0 cs fm h0 n0) ({ frames := 3, cells := 0, slots := 0, locals := 40 } : Room).cells ({ frames := 3, cells := 0, slots := 0, locals := 40 } : Room).slots _
  refine own_thr (a := s₁.setTop (mkF m 0 #[.val (.ref o0), .val (.int (0 : Int32))] [])) (fun t kt => castTop (ef_rmCA10 m o0) kt) ?_
  refine own_thr (a := s₁.setTop (mkF m 1 #[.val (.ref o0), .val (.int (0 : Int32))] [(.ref o0)])) (fun t kt => ?_) ?_
  · show Steps p.tables e below (s₁.setTop (mkF m 0 #[.val (.ref o0), .val (.int (0 : Int32))] [])) _
    refine XS.aloadN X0.here hx rfl (hb hby d13_0) rfl rfl ?_
    exact kt
  obtain ⟨cq1, kq1, q1a, q1b, q1c⟩ := isOf hZ e0 E_o0
  obtain ⟨_, _, ⟨T1, L1, k1, n1⟩, -, X1, ⟨Lc1, hQ1, l1, y1, z1⟩, st1⟩ := X0.virtualBack hx (y := (⟨"java/lang/String", "isLatin1", "()Z"⟩ : MethodName)) (z := (⟨"java/lang/String", "isLatin1", "()Z"⟩ : MethodName)) hown (mvT hZ (hw _ (List.mem_of_getElem? (i := 69) rfl))) (mvT hZ (hw _ (List.mem_of_getElem? (i := 70) rfl))) (notFace_of_selects (args := #[]) (mvT hZ (hw _ (List.mem_of_getElem? (i := 72) rfl)))) (mvT hZ (hw _ (List.mem_of_getElem? (i := 72) rfl))) (mvT hZ (hw _ (List.mem_of_getElem? (i := 71) rfl))) (by decide) (backOf (W := 0) (rmIL l Z a0 hw [] o0 cs h0 n0 Z0 E_o0 F_coder_o0 S_COMPACT_STRINGS hcs) hZ (hw _ (List.mem_of_getElem? (i := 73) rfl)) (hw _ (List.mem_of_getElem? (i := 7) rfl)) (by decide) (by decide)) q1a q1c (g := (mkF m 1 #[.val (.ref o0), .val (.int (0 : Int32))] [(.ref o0)])) rfl (by rw [hml]; rfl) (Steps.refl _) (argsL := []) (rest := []) (lenOf pd__28_29Z rfl) rfl (by show 2 * 0 + _ ≤ _; exact Nat.le_of_eq rfl) (hb hby d13_1) (fun _ _ => ⟨rfl, e0, (by decide : 0 + 0 ≤ _), (by decide : 0 + 0 ≤ _)⟩)
  dsimp only [Pt.U, Pt.locs, Pt.cells, Pt.slots] at X1 l1 y1 z1 st1 hQ1
  obtain ⟨rfl, N1q, e1⟩ := hQ1
  obtain ⟨lc1, X1, N1⟩ := own_pack X1 l1 y1 z1 N0 N1q (C := 0) (S' := 0) rfl rfl
  refine own_thr (a := T1.setTop (mkF m 4 #[.val (.ref o0), .val (.int (0 : Int32))] [(.int (1 : Int32))])) (fun t kt => st1.trans kt) ?_
  refine own_thr (a := T1.setTop (mkF m 8 #[.val (.ref o0), .val (.int (0 : Int32))] [(.ref o0)])) (fun t kt => ?_) ?_
  · show Steps p.tables e below (T1.setTop (mkF m 4 #[.val (.ref o0), .val (.int (0 : Int32))] [(.int (1 : Int32))])) _
    refine XS.ifNo X1.here hx rfl (hb hby d13_4) rfl ((if0 _ _).trans (feq (by decide)).1) ?_
    refine XS.aloadN X1.here hx rfl (hb hby d13_7) rfl rfl ?_
    exact kt
  obtain ⟨T2, X2, e2, st2⟩ := getF X1 hx hZ hown (host := "") (Or.inl (hw _ (List.mem_of_getElem? (i := 27) rfl))) Via.refl e1 F_value_o0 (g := (mkF m 8 #[.val (.ref o0), .val (.int (0 : Int32))] [(.ref o0)])) rfl rfl (hb hby d13_8)
  refine own_thr (a := T2.setTop (mkF m 11 #[.val (.ref o0), .val (.int (0 : Int32))] [(.ref sv)])) (fun t kt => st2 t kt) ?_
  refine own_thr (a := T2.setTop (mkF m 12 #[.val (.ref o0), .val (.int (0 : Int32))] [(.int (0 : Int32)), (.ref sv)])) (fun t kt => ?_) ?_
  · show Steps p.tables e below (T2.setTop (mkF m 11 #[.val (.ref o0), .val (.int (0 : Int32))] [(.ref sv)])) _
    refine XS.iloadN X2.here hx rfl (hb hby d13_11) rfl ?_
    exact kt
  obtain ⟨_, _, ⟨T3, L3, k3, n3⟩, -, X3, ⟨Lc3, hQ3, l3, y3, z3⟩, st3⟩ := Jvm.LawKit.callS X2 hx (y := (⟨"java/lang/StringLatin1", "charAt", "([BI)C"⟩ : MethodName)) hown (mvT hZ (hw _ (List.mem_of_getElem? (i := 74) rfl))) (mvT hZ (hw _ (List.mem_of_getElem? (i := 75) rfl))) (mvT hZ (hw _ (List.mem_of_getElem? (i := 12) rfl))) (mvT hZ (hw _ (List.mem_of_getElem? (i := 76) rfl))) (by decide) (backOf (W := 0) (rmLC10 l Z a0 hw [] sv ks w0 fm h0 n0 Z0 V_sv S_SIOOBE_FORMATTER hfm) hZ (hw _ (List.mem_of_getElem? (i := 76) rfl)) (hw _ (List.mem_of_getElem? (i := 12) rfl)) (by decide) (by decide)) (g := (mkF m 12 #[.val (.ref o0), .val (.int (0 : Int32))] [(.int (0 : Int32)), (.ref sv)])) rfl (by rw [hml]; rfl) (argsL := [(.ref sv), (.int (0 : Int32))]) (rest := []) (lenOf pd__28_5bBI_29C rfl) rfl (by show 2 * 0 + _ ≤ _; exact Nat.le_of_eq rfl) (hb hby d13_12) (fun _ _ => ⟨rfl, e2, (by decide : 0 + 0 ≤ _), (by decide : 0 + 0 ≤ _)⟩)
  dsimp only [Pt.U, Pt.locs, Pt.cells, Pt.slots] at X3 l3 y3 z3 st3 hQ3
  obtain ⟨rfl, N3q, e3⟩ := hQ3
  obtain ⟨lc3, X3, N3⟩ := own_pack X3 l3 y3 z3 N1 N3q (C := 0) (S' := 0) rfl rfl
  refine own_thr (a := T3.setTop (mkF m 15 #[.val (.ref o0), .val (.int (0 : Int32))] [(.int (nar .char ((w0 &&& (255 : Int32)).toUInt32.toUInt16.toUInt32.toInt32)))])) (fun t kt => st3 t kt) ?_
  exact own_end X3 hlk (v := some (.int (nar .char (nar .char ((w0 &&& (255 : Int32)).toUInt32.toUInt16.toUInt32.toInt32))))) (fun h => by rw [Bd.returns] at h; cases h) (fun fs hr => retN X3 hx (t := .char) Bd.returns (by simp) (hb hby d13_15) hr) (by rw [e3]; exact ⟨rfl, N3, rfl⟩) (by decide : 0 ≤ _) (by decide : 0 ≤ _)
theorem ef_rmLN2 (m : MethodId) (o0 : Addr)  : entryFrame m #[(.ref o0)] 1 = mkF m 0 #[.val (.ref o0)] [] := by first |  (simp [entryFrame, mkF, argsToLocals, Value.category]; done) | rfl
def Q_rmLN2 (Z : State) (o0 : Addr) (sv : Addr) (ks : ClassId) (vs : List Value) (cs : Int32) (h0 : Heap) (n0 : Nat) (v : Option Value) (h : Heap) (L : List Loc) : Prop := v = some (.int (2 : Int32)) ∧ Fr n0 L ∧ h = h0
set_option maxRecDepth 65536 in
set_option maxHeartbeats 40000000 in
theorem rmLN2 (l : Launch) (Z : State) (a0 : Array Value) (hw : ∀ d ∈ tables_1, d.before a0 Z = true) (ws : List Jvm.Cond) (o0 : Addr) (sv : Addr) (ks : ClassId) (vs : List Value) (cs : Int32) (h0 : Heap) (n0 : Nat) (Z0 : n0 ≤ h0.size) (E_o0 : Exa Z h0 o0 "java/lang/String") (F_value_o0 : Fld Z h0 o0 "java/lang/String" "value" "[B" (.ref sv)) (F_coder_o0 : Fld Z h0 o0 "java/lang/String" "coder" "B" (.int (0 : Int32))) (V_sv : Arv Z h0 sv ks .byte (2 : Int32) vs (.int (0 : Int32))) (S_COMPACT_STRINGS : Sta Z h0 "java/lang/String" "COMPACT_STRINGS" "Z" (.int cs)) (hcs : ¬ cs = (0 : Int32)) :
    MetFree l (⟨"java/lang/String", "length", "()I"⟩ : MethodName) (head1 (Jvm.Cond.code (⟨"java/lang/String", "length", "()I"⟩ : MethodName) jdk_42_method_54_code 1 (some .int) :: ws) ({ frames := 1, cells := 0, slots := 0, locals := 13 } : Room)) (fun a U => a = #[(.ref o0)] ∧ Z.Warmed39 U.vm ∧ U.heap = h0) (fun _ _ _ _ _ => True) (fun _ U o U' => ∃ v L, o = .returned v ∧ Q_rmLN2 Z o0 sv ks vs cs h0 n0 v U'.heap L ∧ FrameEnd U o U' L ({ frames := 1, cells := 0, slots := 0, locals := 13 } : Room).cells ({ frames := 1, cells := 0, slots := 0, locals := 13 } : Room).slots) := by
  refine MetFree.of_bodySF (plainFor_of_name pn_java_lang_String) hisR ?_
  intro p e s m args below meth c s₁ Bd hml0 hP hK
  obtain ⟨rfl, hZ, hh⟩ := hP
  have hx := Bd.exec
  have hby := Bd.bytes
  have hml : c.maxLocals = 1 := hml0
  have hown : s.vm.findClass "java/lang/String" = some m.cls := findClass_of_methodNamed Bd.named
  have hnm := (name_of_methodNamed Bd.named Bd.method).1
  have hlk := Bd.notSynchronized
  have X0 : Stand p l e ({ frames := 1, cells := 0, slots := 0, locals := 13 } : Room) s m #[(.ref o0)] below meth c s₁ [] 0 0 := Stand.of_body Bd
  have e0 : s₁.heap = h0 := by rw [← hh, Bd.state]; rfl
  have N0 := Fr.nil n0
  show own_G p.tables e below s (Q_rmLN2 Z o0 sv ks vs cs h0 n0) ({ frames := 1, cells := 0, slots := 0, locals := 13 } : Room).cells ({ frames := 1, cells := 0, slots := 0, locals := 13 } : Room).slots _
  refine own_thr (a := s₁.setTop (mkF m 0 #[.val (.ref o0)] [])) (fun t kt => castTop (ef_rmLN2 m o0) kt) ?_
  refine own_thr (a := s₁.setTop (mkF m 1 #[.val (.ref o0)] [(.ref o0)])) (fun t kt => ?_) ?_
  · show Steps p.tables e below (s₁.setTop (mkF m 0 #[.val (.ref o0)] [])) _
    refine XS.aloadN X0.here hx rfl (hb hby d11_0) rfl rfl ?_
    exact kt
  obtain ⟨T1, X1, e1, st1⟩ := getF X0 hx hZ hown (host := "") (Or.inl (hw _ (List.mem_of_getElem? (i := 27) rfl))) Via.refl e0 F_value_o0 (g := (mkF m 1 #[.val (.ref o0)] [(.ref o0)])) rfl rfl (hb hby d11_1)
  refine own_thr (a := T1.setTop (mkF m 4 #[.val (.ref o0)] [(.ref sv)])) (fun t kt => st1 t kt) ?_
  obtain ⟨cl2, Ar2, -, S2, M2, -, -⟩ := id V_sv
  refine own_thr (a := T1.setTop (mkF m 6 #[.val (.ref o0)] [(.ref o0), (.int (2 : Int32))])) (fun t kt => ?_) ?_
  · show Steps p.tables e below (T1.setTop (mkF m 4 #[.val (.ref o0)] [(.ref sv)])) _
    refine X1.arraylength hx (by rw [e1]; exact Ar2.1) (State.isArrayOf_alike hZ.alike Ar2.2.1) (g := (mkF m 4 #[.val (.ref o0)] [(.ref sv)])) rfl rfl (hb hby d11_4) _ ?_
    rw [len_of S2 M2]
    refine XS.aloadN X1.here hx rfl (hb hby d11_5) rfl rfl ?_
    exact kt
  obtain ⟨cq3, kq3, q3a, q3b, q3c⟩ := isOf hZ e1 E_o0
  obtain ⟨_, _, ⟨T3, L3, k3, n3⟩, -, X3, ⟨Lc3, hQ3, l3, y3, z3⟩, st3⟩ := X1.virtualBack hx (y := (⟨"java/lang/String", "coder", "()B"⟩ : MethodName)) (z := (⟨"java/lang/String", "coder", "()B"⟩ : MethodName)) hown (mvT hZ (hw _ (List.mem_of_getElem? (i := 59) rfl))) (mvT hZ (hw _ (List.mem_of_getElem? (i := 60) rfl))) (notFace_of_selects (args := #[]) (mvT hZ (hw _ (List.mem_of_getElem? (i := 62) rfl)))) (mvT hZ (hw _ (List.mem_of_getElem? (i := 62) rfl))) (mvT hZ (hw _ (List.mem_of_getElem? (i := 61) rfl))) (by decide) (backOf (W := 1) (rmCO l Z a0 hw [] o0 cs h0 n0 Z0 E_o0 F_coder_o0 S_COMPACT_STRINGS hcs) hZ (hw _ (List.mem_of_getElem? (i := 63) rfl)) (hw _ (List.mem_of_getElem? (i := 7) rfl)) (by decide) (by decide)) q3a q3c (g := (mkF m 6 #[.val (.ref o0)] [(.ref o0), (.int (2 : Int32))])) rfl (by rw [hml]; rfl) (Steps.refl _) (argsL := []) (rest := [(.int (2 : Int32))]) (lenOf pd__28_29B rfl) rfl (by show 2 * 0 + _ ≤ _; exact Nat.le_of_eq rfl) (hb hby d11_6) (fun _ _ => ⟨rfl, e1, (by decide : 0 + 0 ≤ _), (by decide : 0 + 0 ≤ _)⟩)
  dsimp only [Pt.U, Pt.locs, Pt.cells, Pt.slots] at X3 l3 y3 z3 st3 hQ3
  obtain ⟨rfl, N3q, e3⟩ := hQ3
  obtain ⟨lc3, X3, N3⟩ := own_pack X3 l3 y3 z3 N0 N3q (C := 0) (S' := 0) rfl rfl
  refine own_thr (a := T3.setTop (mkF m 9 #[.val (.ref o0)] [(.int (0 : Int32)), (.int (2 : Int32))])) (fun t kt => st3.trans kt) ?_
  refine own_thr (a := T3.setTop (mkF m 10 #[.val (.ref o0)] [(.int (2 : Int32))])) (fun t kt => ?_) ?_
  · show Steps p.tables e below (T3.setTop (mkF m 9 #[.val (.ref o0)] [(.int (0 : Int32)), (.int (2 : Int32))])) _
    refine XS.ishr X3.here hx rfl (hb hby d11_9) rfl ?_
    exact kt
  exact own_end X3 hlk (v := some (.int (2 : Int32))) (fun h => by rw [Bd.returns] at h; cases h) (fun fs hr => retI X3 hx Bd.returns (hb hby d11_10) hr) (by rw [e3]; exact ⟨rfl, N3, rfl⟩) (by decide : 0 ≤ _) (by decide : 0 ≤ _)
theorem ef_rmEM2 (m : MethodId) (o0 : Addr)  : entryFrame m #[(.ref o0)] 1 = mkF m 0 #[.val (.ref o0)] [] := by first |  (simp [entryFrame, mkF, argsToLocals, Value.category]; done) | rfl
def Q_rmEM2 (Z : State) (o0 : Addr) (sv : Addr) (ks : ClassId) (vs : List Value) (h0 : Heap) (n0 : Nat) (v : Option Value) (h : Heap) (L : List Loc) : Prop := v = some (.int (0 : Int32)) ∧ Fr n0 L ∧ h = h0
set_option maxRecDepth 65536 in
set_option maxHeartbeats 40000000 in
theorem rmEM2 (l : Launch) (Z : State) (a0 : Array Value) (hw : ∀ d ∈ tables_1, d.before a0 Z = true) (ws : List Jvm.Cond) (o0 : Addr) (sv : Addr) (ks : ClassId) (vs : List Value) (h0 : Heap) (n0 : Nat) (Z0 : n0 ≤ h0.size) (E_o0 : Exa Z h0 o0 "java/lang/String") (F_value_o0 : Fld Z h0 o0 "java/lang/String" "value" "[B" (.ref sv)) (F_coder_o0 : Fld Z h0 o0 "java/lang/String" "coder" "B" (.int (0 : Int32))) (V_sv : Arv Z h0 sv ks .byte (2 : Int32) vs (.int (0 : Int32))) :
    MetFree l (⟨"java/lang/String", "isEmpty", "()Z"⟩ : MethodName) (head1 (Jvm.Cond.code (⟨"java/lang/String", "isEmpty", "()Z"⟩ : MethodName) jdk_42_method_55_code 1 (some .boolean) :: ws) ({ frames := 0, cells := 0, slots := 0, locals := 0 } : Room)) (fun a U => a = #[(.ref o0)] ∧ Z.Warmed39 U.vm ∧ U.heap = h0) (fun _ _ _ _ _ => True) (fun _ U o U' => ∃ v L, o = .returned v ∧ Q_rmEM2 Z o0 sv ks vs h0 n0 v U'.heap L ∧ FrameEnd U o U' L ({ frames := 0, cells := 0, slots := 0, locals := 0 } : Room).cells ({ frames := 0, cells := 0, slots := 0, locals := 0 } : Room).slots) := by
  refine MetFree.of_bodySF (plainFor_of_name pn_java_lang_String) hisR ?_
  intro p e s m args below meth c s₁ Bd hml0 hP hK
  obtain ⟨rfl, hZ, hh⟩ := hP
  have hx := Bd.exec
  have hby := Bd.bytes
  have hml : c.maxLocals = 1 := hml0
  have hown : s.vm.findClass "java/lang/String" = some m.cls := findClass_of_methodNamed Bd.named
  have hnm := (name_of_methodNamed Bd.named Bd.method).1
  have hlk := Bd.notSynchronized
  have X0 : Stand p l e ({ frames := 0, cells := 0, slots := 0, locals := 0 } : Room) s m #[(.ref o0)] below meth c s₁ [] 0 0 := Stand.of_body Bd
  have e0 : s₁.heap = h0 := by rw [← hh, Bd.state]; rfl
  have N0 := Fr.nil n0
  show own_G p.tables e below s (Q_rmEM2 Z o0 sv ks vs h0 n0) ({ frames := 0, cells := 0, slots := 0, locals := 0 } : Room).cells ({ frames := 0, cells := 0, slots := 0, locals := 0 } : Room).slots _
  refine own_thr (a := s₁.setTop (mkF m 0 #[.val (.ref o0)] [])) (fun t kt => castTop (ef_rmEM2 m o0) kt) ?_
  refine own_thr (a := s₁.setTop (mkF m 1 #[.val (.ref o0)] [(.ref o0)])) (fun t kt => ?_) ?_
  · show Steps p.tables e below (s₁.setTop (mkF m 0 #[.val (.ref o0)] [])) _
    refine XS.aloadN X0.here hx rfl (hb hby d10_0) rfl rfl ?_
    exact kt
  obtain ⟨T1, X1, e1, st1⟩ := getF X0 hx hZ hown (host := "") (Or.inl (hw _ (List.mem_of_getElem? (i := 27) rfl))) Via.refl e0 F_value_o0 (g := (mkF m 1 #[.val (.ref o0)] [(.ref o0)])) rfl rfl (hb hby d10_1)
  refine own_thr (a := T1.setTop (mkF m 4 #[.val (.ref o0)] [(.ref sv)])) (fun t kt => st1 t kt) ?_
  obtain ⟨cl2, Ar2, -, S2, M2, -, -⟩ := id V_sv
  refine own_thr (a := T1.setTop (mkF m 13 #[.val (.ref o0)] [(.int (0 : Int32))])) (fun t kt => ?_) ?_
  · show Steps p.tables e below (T1.setTop (mkF m 4 #[.val (.ref o0)] [(.ref sv)])) _
    refine X1.arraylength hx (by rw [e1]; exact Ar2.1) (State.isArrayOf_alike hZ.alike Ar2.2.1) (g := (mkF m 4 #[.val (.ref o0)] [(.ref sv)])) rfl rfl (hb hby d10_4) _ ?_
    rw [len_of S2 M2]
    refine XS.ifYes X1.here hx rfl (pc0 := 5) (pc' := 12) rfl (hb hby d10_5) rfl ((if0 _ _).trans (feq (by decide)).2) (by decide) (by decide) ?_
    refine XS.iconst X1.here hx rfl (hb hby d10_12) ?_
    exact kt
  exact own_end X1 hlk (v := some (.int (0 : Int32))) (fun h => by rw [Bd.returns] at h; cases h) (fun fs hr => retN X1 hx (t := .boolean) Bd.returns (by simp) (hb hby d10_13) hr) (by rw [e1]; exact ⟨rfl, N0, rfl⟩) (by decide : 0 ≤ _) (by decide : 0 ≤ _)
theorem ef_rmLC20 (m : MethodId) (o0 : Addr)  : entryFrame m #[(.ref o0), (.int (0 : Int32))] 2 = mkF m 0 #[.val (.ref o0), .val (.int (0 : Int32))] [] := by first |  (simp [entryFrame, mkF, argsToLocals, Value.category]; done) | rfl
def Q_rmLC20 (Z : State) (o0 : Addr) (k0 : ClassId) (w0 : Int32) (w1 : Int32) (fm : Value) (h0 : Heap) (n0 : Nat) (v : Option Value) (h : Heap) (L : List Loc) : Prop := v = some (.int (nar .char ((w0 &&& (255 : Int32)).toUInt32.toUInt16.toUInt32.toInt32))) ∧ Fr n0 L ∧ h = h0
set_option maxRecDepth 65536 in
set_option maxHeartbeats 40000000 in
theorem rmLC20 (l : Launch) (Z : State) (a0 : Array Value) (hw : ∀ d ∈ tables_1, d.before a0 Z = true) (ws : List Jvm.Cond) (o0 : Addr) (k0 : ClassId) (w0 : Int32) (w1 : Int32) (fm : Value) (h0 : Heap) (n0 : Nat) (Z0 : n0 ≤ h0.size) (V_o0 : Arv Z h0 o0 k0 .byte (2 : Int32) [(.int w0), (.int w1)] (.int (0 : Int32))) (S_SIOOBE_FORMATTER : Sta Z h0 "jdk/internal/util/Preconditions" "SIOOBE_FORMATTER" "Ljava/util/function/BiFunction;" fm) (hfm : fm.isRef = true) :
    MetFree l (⟨"java/lang/StringLatin1", "charAt", "([BI)C"⟩ : MethodName) (head1 (Jvm.Cond.code (⟨"java/lang/StringLatin1", "charAt", "([BI)C"⟩ : MethodName) jdk_43_method_2_code 2 (some .char) :: ws) ({ frames := 2, cells := 0, slots := 0, locals := 27 } : Room)) (fun a U => a = #[(.ref o0), (.int (0 : Int32))] ∧ Z.Warmed39 U.vm ∧ U.heap = h0) (fun _ _ _ _ _ => True) (fun _ U o U' => ∃ v L, o = .returned v ∧ Q_rmLC20 Z o0 k0 w0 w1 fm h0 n0 v U'.heap L ∧ FrameEnd U o U' L ({ frames := 2, cells := 0, slots := 0, locals := 27 } : Room).cells ({ frames := 2, cells := 0, slots := 0, locals := 27 } : Room).slots) := by
  refine MetFree.of_bodySF (plainFor_of_name pn_java_lang_StringLatin1) hisR ?_
  intro p e s m args below meth c s₁ Bd hml0 hP hK
  obtain ⟨rfl, hZ, hh⟩ := hP
  have hx := Bd.exec
  have hby := Bd.bytes
  have hml : c.maxLocals = 2 := hml0
  have hown : s.vm.findClass "java/lang/StringLatin1" = some m.cls := findClass_of_methodNamed Bd.named
  have hnm := (name_of_methodNamed Bd.named Bd.method).1
  have hlk := Bd.notSynchronized
  have X0 : Stand p l e ({ frames := 2, cells := 0, slots := 0, locals := 27 } : Room) s m #[(.ref o0), (.int (0 : Int32))] below meth c s₁ [] 0 0 := Stand.of_body Bd
  have e0 : s₁.heap = h0 := by rw [← hh, Bd.state]; rfl
  have N0 := Fr.nil n0
  show own_G p.tables e below s (Q_rmLC20 Z o0 k0 w0 w1 fm h0 n0) ({ frames := 2, cells := 0, slots := 0, locals := 27 } : Room).cells ({ frames := 2, cells := 0, slots := 0, locals := 27 } : Room).slots _
  refine own_thr (a := s₁.setTop (mkF m 0 #[.val (.ref o0), .val (.int (0 : Int32))] [])) (fun t kt => castTop (ef_rmLC20 m o0) kt) ?_
  refine own_thr (a := s₁.setTop (mkF m 2 #[.val (.ref o0), .val (.int (0 : Int32))] [(.ref o0), (.int (0 : Int32))])) (fun t kt => ?_) ?_
  · show Steps p.tables e below (s₁.setTop (mkF m 0 #[.val (.ref o0), .val (.int (0 : Int32))] [])) _
    refine XS.iloadN X0.here hx rfl (hb hby d15_0) rfl ?_
    refine XS.aloadN X0.here hx rfl (hb hby d15_1) rfl rfl ?_
    exact kt
  obtain ⟨cl1, Ar1, -, S1, M1, -, -⟩ := id V_o0
  refine own_thr (a := s₁.setTop (mkF m 3 #[.val (.ref o0), .val (.int (0 : Int32))] [(.int (2 : Int32)), (.int (0 : Int32))])) (fun t kt => ?_) ?_
  · show Steps p.tables e below (s₁.setTop (mkF m 2 #[.val (.ref o0), .val (.int (0 : Int32))] [(.ref o0), (.int (0 : Int32))])) _
    refine X0.arraylength hx (by rw [e0]; exact Ar1.1) (State.isArrayOf_alike hZ.alike Ar1.2.1) (g := (mkF m 2 #[.val (.ref o0), .val (.int (0 : Int32))] [(.ref o0), (.int (0 : Int32))])) rfl rfl (hb hby d15_2) _ ?_
    rw [len_of S1 M1]
    exact kt
  obtain ⟨_, _, ⟨T2, L2, k2, n2⟩, -, X2, ⟨Lc2, hQ2, l2, y2, z2⟩, st2⟩ := Jvm.LawKit.callS X0 hx (y := (⟨"java/lang/String", "checkIndex", "(II)V"⟩ : MethodName)) hown (mvT hZ (hw _ (List.mem_of_getElem? (i := 77) rfl))) (mvT hZ (hw _ (List.mem_of_getElem? (i := 78) rfl))) (mvT hZ (hw _ (List.mem_of_getElem? (i := 7) rfl))) (mvT hZ (hw _ (List.mem_of_getElem? (i := 79) rfl))) (by decide) (backOf (W := 0) (rmCI l Z a0 hw [] (0 : Int32) (2 : Int32) fm h0 n0 Z0 S_SIOOBE_FORMATTER hfm (by decide) (by decide)) hZ (hw _ (List.mem_of_getElem? (i := 79) rfl)) (hw _ (List.mem_of_getElem? (i := 7) rfl)) (by decide) (by decide)) (g := (mkF m 3 #[.val (.ref o0), .val (.int (0 : Int32))] [(.int (2 : Int32)), (.int (0 : Int32))])) rfl (by rw [hml]; rfl) (argsL := [(.int (0 : Int32)), (.int (2 : Int32))]) (rest := []) (lenOf pd__28II_29V rfl) rfl (by show 2 * 0 + _ ≤ _; exact Nat.le_of_eq rfl) (hb hby d15_3) (fun _ _ => ⟨rfl, e0, (by decide : 0 + 0 ≤ _), (by decide : 0 + 0 ≤ _)⟩)
  dsimp only [Pt.U, Pt.locs, Pt.cells, Pt.slots] at X2 l2 y2 z2 st2 hQ2
  obtain ⟨rfl, N2q, e2⟩ := hQ2
  obtain ⟨lc2, X2, N2⟩ := own_pack X2 l2 y2 z2 N0 N2q (C := 0) (S' := 0) rfl rfl
  refine own_thr (a := T2.setTop (mkF m 6 #[.val (.ref o0), .val (.int (0 : Int32))] [])) (fun t kt => st2 t kt) ?_
  refine own_thr (a := T2.setTop (mkF m 8 #[.val (.ref o0), .val (.int (0 : Int32))] [(.int (0 : Int32)), (.ref o0)])) (fun t kt => ?_) ?_
  · show Steps p.tables e below (T2.setTop (mkF m 6 #[.val (.ref o0), .val (.int (0 : Int32))] [])) _
    refine XS.aloadN X2.here hx rfl (hb hby d15_6) rfl rfl ?_
    refine XS.iloadN X2.here hx rfl (hb hby d15_7) rfl ?_
    exact kt
  obtain ⟨cl3, Ar3, -, S3, M3, H3, -⟩ := id V_o0
  have hin3 : ¬ ((0 : Int32) < 0 ∨ cl3.slots.size ≤ ((0 : Int32)).toNatClampNeg) := inb_of S3 ⟨by decide, by decide⟩
  have hat3 : cl3.slots[((0 : Int32)).toNatClampNeg]? = some (.int w0) := Has.at H3 hin3 rfl
  refine own_thr (a := T2.setTop (mkF m 14 #[.val (.ref o0), .val (.int (0 : Int32))] [(.int ((w0 &&& (255 : Int32)).toUInt32.toUInt16.toUInt32.toInt32))])) (fun t kt => ?_) ?_
  · show Steps p.tables e below (T2.setTop (mkF m 8 #[.val (.ref o0), .val (.int (0 : Int32))] [(.int (0 : Int32)), (.ref o0)])) _
    refine X2.baloadBytes hx (j := (0 : Int32)) (v := (.int w0)) (by rw [e2]; exact Ar3.1) (State.isArrayOf_alike hZ.alike Ar3.2.1) Ar3.2.2 hin3 hat3 (g := (mkF m 8 #[.val (.ref o0), .val (.int (0 : Int32))] [(.int (0 : Int32)), (.ref o0)])) rfl rfl (hb hby d15_8) _ ?_
    refine XS.sipush X2.here hx rfl (hb hby d15_9) ?_
    refine XS.iand X2.here hx rfl (hb hby d15_12) rfl ?_
    refine XS.i2c X2.here hx rfl (hb hby d15_13) rfl ?_
    exact kt
  exact own_end X2 hlk (v := some (.int (nar .char ((w0 &&& (255 : Int32)).toUInt32.toUInt16.toUInt32.toInt32)))) (fun h => by rw [Bd.returns] at h; cases h) (fun fs hr => retN X2 hx (t := .char) Bd.returns (by simp) (hb hby d15_14) hr) (by rw [e2]; exact ⟨rfl, N2, rfl⟩) (by decide : 0 ≤ _) (by decide : 0 ≤ _)
theorem ef_rmCA20 (m : MethodId) (o0 : Addr)  : entryFrame m #[(.ref o0), (.int (0 : Int32))] 2 = mkF m 0 #[.val (.ref o0), .val (.int (0 : Int32))] [] := by first |  (simp [entryFrame, mkF, argsToLocals, Value.category]; done) | rfl
def Q_rmCA20 (Z : State) (o0 : Addr) (sv : Addr) (ks : ClassId) (w0 : Int32) (w1 : Int32) (cs : Int32) (fm : Value) (h0 : Heap) (n0 : Nat) (v : Option Value) (h : Heap) (L : List Loc) : Prop := v = some (.int (nar .char (nar .char ((w0 &&& (255 : Int32)).toUInt32.toUInt16.toUInt32.toInt32)))) ∧ Fr n0 L ∧ h = h0
set_option maxRecDepth 65536 in
set_option maxHeartbeats 40000000 in
theorem rmCA20 (l : Launch) (Z : State) (a0 : Array Value) (hw : ∀ d ∈ tables_1, d.before a0 Z = true) (ws : List Jvm.Cond) (o0 : Addr) (sv : Addr) (ks : ClassId) (w0 : Int32) (w1 : Int32) (cs : Int32) (fm : Value) (h0 : Heap) (n0 : Nat) (Z0 : n0 ≤ h0.size) (E_o0 : Exa Z h0 o0 "java/lang/String") (F_value_o0 : Fld Z h0 o0 "java/lang/String" "value" "[B" (.ref sv)) (F_coder_o0 : Fld Z h0 o0 "java/lang/String" "coder" "B" (.int (0 : Int32))) (V_sv : Arv Z h0 sv ks .byte (2 : Int32) [(.int w0), (.int w1)] (.int (0 : Int32))) (S_COMPACT_STRINGS : Sta Z h0 "java/lang/String" "COMPACT_STRINGS" "Z" (.int cs)) (S_SIOOBE_FORMATTER : Sta Z h0 "jdk/internal/util/Preconditions" "SIOOBE_FORMATTER" "Ljava/util/function/BiFunction;" fm) (hcs : ¬ cs = (0 : Int32)) (hfm : fm.isRef = true) :
    MetFree l (⟨"java/lang/String", "charAt", "(I)C"⟩ : MethodName) (head1 (Jvm.Cond.code (⟨"java/lang/String", "charAt", "(I)C"⟩ : MethodName) jdk_42_method_56_code 2 (some .char) :: ws) ({ frames := 3, cells := 0, slots := 0, locals := 40 } : Room)) (fun a U => a = #[(.ref o0), (.int (0 : Int32))] ∧ Z.Warmed39 U.vm ∧ U.heap = h0) (fun _ _ _ _ _ => True) (fun _ U o U' => ∃ v L, o = .returned v ∧ Q_rmCA20 Z o0 sv ks w0 w1 cs fm h0 n0 v U'.heap L ∧ FrameEnd U o U' L ({ frames := 3, cells := 0, slots := 0, locals := 40 } : Room).cells ({ frames := 3, cells := 0, slots := 0, locals := 40 } : Room).slots) := by
  refine MetFree.of_bodySF (plainFor_of_name pn_java_lang_String) hisR ?_
  intro p e s m args below meth c s₁ Bd hml0 hP hK
  obtain ⟨rfl, hZ, hh⟩ := hP
  have hx := Bd.exec
  have hby := Bd.bytes
  have hml : c.maxLocals = 2 := hml0
  have hown : s.vm.findClass "java/lang/String" = some m.cls := findClass_of_methodNamed Bd.named
  have hnm := (name_of_methodNamed Bd.named Bd.method).1
  have hlk := Bd.notSynchronized
  have X0 : Stand p l e ({ frames := 3, cells := 0, slots := 0, locals := 40 } : Room) s m #[(.ref o0), (.int (0 : Int32))] below meth c s₁ [] 0 0 := Stand.of_body Bd
  have e0 : s₁.heap = h0 := by rw [← hh, Bd.state]; rfl
  have N0 := Fr.nil n0
  show own_G p.tables e below s (Q_rmCA20 Z o0 sv ks w0 w1 cs fm h0 n0) ({ frames := 3, cells := 0, slots := 0, locals := 40 } : Room).cells ({ frames := 3, cells := 0, slots := 0, locals := 40 } : Room).slots _
  refine own_thr (a := s₁.setTop (mkF m 0 #[.val (.ref o0), .val (.int (0 : Int32))] [])) (fun t kt => castTop (ef_rmCA20 m o0) kt) ?_
  refine own_thr (a := s₁.setTop (mkF m 1 #[.val (.ref o0), .val (.int (0 : Int32))] [(.ref o0)])) (fun t kt => ?_) ?_
  · show Steps p.tables e below (s₁.setTop (mkF m 0 #[.val (.ref o0), .val (.int (0 : Int32))] [])) _
    refine XS.aloadN X0.here hx rfl (hb hby d13_0) rfl rfl ?_
    exact kt
  obtain ⟨cq1, kq1, q1a, q1b, q1c⟩ := isOf hZ e0 E_o0
  obtain ⟨_, _, ⟨T1, L1, k1, n1⟩, -, X1, ⟨Lc1, hQ1, l1, y1, z1⟩, st1⟩ := X0.virtualBack hx (y := (⟨"java/lang/String", "isLatin1", "()Z"⟩ : MethodName)) (z := (⟨"java/lang/String", "isLatin1", "()Z"⟩ : MethodName)) hown (mvT hZ (hw _ (List.mem_of_getElem? (i := 69) rfl))) (mvT hZ (hw _ (List.mem_of_getElem? (i := 70) rfl))) (notFace_of_selects (args := #[]) (mvT hZ (hw _ (List.mem_of_getElem? (i := 72) rfl)))) (mvT hZ (hw _ (List.mem_of_getElem? (i := 72) rfl))) (mvT hZ (hw _ (List.mem_of_getElem? (i := 71) rfl))) (by decide) (backOf (W := 0) (rmIL l Z a0 hw [] o0 cs h0 n0 Z0 E_o0 F_coder_o0 S_COMPACT_STRINGS hcs) hZ (hw _ (List.mem_of_getElem? (i := 73) rfl)) (hw _ (List.mem_of_getElem? (i := 7) rfl)) (by decide) (by decide)) q1a q1c (g := (mkF m 1 #[.val (.ref o0), .val (.int (0 : Int32))] [(.ref o0)])) rfl (by rw [hml]; rfl) (Steps.refl _) (argsL := []) (rest := []) (lenOf pd__28_29Z rfl) rfl (by show 2 * 0 + _ ≤ _; exact Nat.le_of_eq rfl) (hb hby d13_1) (fun _ _ => ⟨rfl, e0, (by decide : 0 + 0 ≤ _), (by decide : 0 + 0 ≤ _)⟩)
  dsimp only [Pt.U, Pt.locs, Pt.cells, Pt.slots] at X1 l1 y1 z1 st1 hQ1
  obtain ⟨rfl, N1q, e1⟩ := hQ1
  obtain ⟨lc1, X1, N1⟩ := own_pack X1 l1 y1 z1 N0 N1q (C := 0) (S' := 0) rfl rfl
  refine own_thr (a := T1.setTop (mkF m 4 #[.val (.ref o0), .val (.int (0 : Int32))] [(.int (1 : Int32))])) (fun t kt => st1.trans kt) ?_
  refine own_thr (a := T1.setTop (mkF m 8 #[.val (.ref o0), .val (.int (0 : Int32))] [(.ref o0)])) (fun t kt => ?_) ?_
  · show Steps p.tables e below (T1.setTop (mkF m 4 #[.val (.ref o0), .val (.int (0 : Int32))] [(.int (1 : Int32))])) _
    refine XS.ifNo X1.here hx rfl (hb hby d13_4) rfl ((if0 _ _).trans (feq (by decide)).1) ?_
    refine XS.aloadN X1.here hx rfl (hb hby d13_7) rfl rfl ?_
    exact kt
  obtain ⟨T2, X2, e2, st2⟩ := getF X1 hx hZ hown (host := "") (Or.inl (hw _ (List.mem_of_getElem? (i := 27) rfl))) Via.refl e1 F_value_o0 (g := (mkF m 8 #[.val (.ref o0), .val (.int (0 : Int32))] [(.ref o0)])) rfl rfl (hb hby d13_8)
  refine own_thr (a := T2.setTop (mkF m 11 #[.val (.ref o0), .val (.int (0 : Int32))] [(.ref sv)])) (fun t kt => st2 t kt) ?_
  refine own_thr (a := T2.setTop (mkF m 12 #[.val (.ref o0), .val (.int (0 : Int32))] [(.int (0 : Int32)), (.ref sv)])) (fun t kt => ?_) ?_
  · show Steps p.tables e below (T2.setTop (mkF m 11 #[.val (.ref o0), .val (.int (0 : Int32))] [(.ref sv)])) _
    refine XS.iloadN X2.here hx rfl (hb hby d13_11) rfl ?_
    exact kt
  obtain ⟨_, _, ⟨T3, L3, k3, n3⟩, -, X3, ⟨Lc3, hQ3, l3, y3, z3⟩, st3⟩ := Jvm.LawKit.callS X2 hx (y := (⟨"java/lang/StringLatin1", "charAt", "([BI)C"⟩ : MethodName)) hown (mvT hZ (hw _ (List.mem_of_getElem? (i := 74) rfl))) (mvT hZ (hw _ (List.mem_of_getElem? (i := 75) rfl))) (mvT hZ (hw _ (List.mem_of_getElem? (i := 12) rfl))) (mvT hZ (hw _ (List.mem_of_getElem? (i := 76) rfl))) (by decide) (backOf (W := 0) (rmLC20 l Z a0 hw [] sv ks w0 w1 fm h0 n0 Z0 V_sv S_SIOOBE_FORMATTER hfm) hZ (hw _ (List.mem_of_getElem? (i := 76) rfl)) (hw _ (List.mem_of_getElem? (i := 12) rfl)) (by decide) (by decide)) (g := (mkF m 12 #[.val (.ref o0), .val (.int (0 : Int32))] [(.int (0 : Int32)), (.ref sv)])) rfl (by rw [hml]; rfl) (argsL := [(.ref sv), (.int (0 : Int32))]) (rest := []) (lenOf pd__28_5bBI_29C rfl) rfl (by show 2 * 0 + _ ≤ _; exact Nat.le_of_eq rfl) (hb hby d13_12) (fun _ _ => ⟨rfl, e2, (by decide : 0 + 0 ≤ _), (by decide : 0 + 0 ≤ _)⟩)
  dsimp only [Pt.U, Pt.locs, Pt.cells, Pt.slots] at X3 l3 y3 z3 st3 hQ3
  obtain ⟨rfl, N3q, e3⟩ := hQ3
  obtain ⟨lc3, X3, N3⟩ := own_pack X3 l3 y3 z3 N1 N3q (C := 0) (S' := 0) rfl rfl
  refine own_thr (a := T3.setTop (mkF m 15 #[.val (.ref o0), .val (.int (0 : Int32))] [(.int (nar .char ((w0 &&& (255 : Int32)).toUInt32.toUInt16.toUInt32.toInt32)))])) (fun t kt => st3 t kt) ?_
  exact own_end X3 hlk (v := some (.int (nar .char (nar .char ((w0 &&& (255 : Int32)).toUInt32.toUInt16.toUInt32.toInt32))))) (fun h => by rw [Bd.returns] at h; cases h) (fun fs hr => retN X3 hx (t := .char) Bd.returns (by simp) (hb hby d13_15) hr) (by rw [e3]; exact ⟨rfl, N3, rfl⟩) (by decide : 0 ≤ _) (by decide : 0 ≤ _)
theorem ef_rmLC21 (m : MethodId) (o0 : Addr)  : entryFrame m #[(.ref o0), (.int (1 : Int32))] 2 = mkF m 0 #[.val (.ref o0), .val (.int (1 : Int32))] [] := by first |  (simp [entryFrame, mkF, argsToLocals, Value.category]; done) | rfl
def Q_rmLC21 (Z : State) (o0 : Addr) (k0 : ClassId) (w0 : Int32) (w1 : Int32) (fm : Value) (h0 : Heap) (n0 : Nat) (v : Option Value) (h : Heap) (L : List Loc) : Prop := v = some (.int (nar .char ((w1 &&& (255 : Int32)).toUInt32.toUInt16.toUInt32.toInt32))) ∧ Fr n0 L ∧ h = h0
set_option maxRecDepth 65536 in
set_option maxHeartbeats 40000000 in
theorem rmLC21 (l : Launch) (Z : State) (a0 : Array Value) (hw : ∀ d ∈ tables_1, d.before a0 Z = true) (ws : List Jvm.Cond) (o0 : Addr) (k0 : ClassId) (w0 : Int32) (w1 : Int32) (fm : Value) (h0 : Heap) (n0 : Nat) (Z0 : n0 ≤ h0.size) (V_o0 : Arv Z h0 o0 k0 .byte (2 : Int32) [(.int w0), (.int w1)] (.int (0 : Int32))) (S_SIOOBE_FORMATTER : Sta Z h0 "jdk/internal/util/Preconditions" "SIOOBE_FORMATTER" "Ljava/util/function/BiFunction;" fm) (hfm : fm.isRef = true) :
    MetFree l (⟨"java/lang/StringLatin1", "charAt", "([BI)C"⟩ : MethodName) (head1 (Jvm.Cond.code (⟨"java/lang/StringLatin1", "charAt", "([BI)C"⟩ : MethodName) jdk_43_method_2_code 2 (some .char) :: ws) ({ frames := 2, cells := 0, slots := 0, locals := 27 } : Room)) (fun a U => a = #[(.ref o0), (.int (1 : Int32))] ∧ Z.Warmed39 U.vm ∧ U.heap = h0) (fun _ _ _ _ _ => True) (fun _ U o U' => ∃ v L, o = .returned v ∧ Q_rmLC21 Z o0 k0 w0 w1 fm h0 n0 v U'.heap L ∧ FrameEnd U o U' L ({ frames := 2, cells := 0, slots := 0, locals := 27 } : Room).cells ({ frames := 2, cells := 0, slots := 0, locals := 27 } : Room).slots) := by
  refine MetFree.of_bodySF (plainFor_of_name pn_java_lang_StringLatin1) hisR ?_
  intro p e s m args below meth c s₁ Bd hml0 hP hK
  obtain ⟨rfl, hZ, hh⟩ := hP
  have hx := Bd.exec
  have hby := Bd.bytes
  have hml : c.maxLocals = 2 := hml0
  have hown : s.vm.findClass "java/lang/StringLatin1" = some m.cls := findClass_of_methodNamed Bd.named
  have hnm := (name_of_methodNamed Bd.named Bd.method).1
  have hlk := Bd.notSynchronized
  have X0 : Stand p l e ({ frames := 2, cells := 0, slots := 0, locals := 27 } : Room) s m #[(.ref o0), (.int (1 : Int32))] below meth c s₁ [] 0 0 := Stand.of_body Bd
  have e0 : s₁.heap = h0 := by rw [← hh, Bd.state]; rfl
  have N0 := Fr.nil n0
  show own_G p.tables e below s (Q_rmLC21 Z o0 k0 w0 w1 fm h0 n0) ({ frames := 2, cells := 0, slots := 0, locals := 27 } : Room).cells ({ frames := 2, cells := 0, slots := 0, locals := 27 } : Room).slots _
  refine own_thr (a := s₁.setTop (mkF m 0 #[.val (.ref o0), .val (.int (1 : Int32))] [])) (fun t kt => castTop (ef_rmLC21 m o0) kt) ?_
  refine own_thr (a := s₁.setTop (mkF m 2 #[.val (.ref o0), .val (.int (1 : Int32))] [(.ref o0), (.int (1 : Int32))])) (fun t kt => ?_) ?_
  · show Steps p.tables e below (s₁.setTop (mkF m 0 #[.val (.ref o0), .val (.int (1 : Int32))] [])) _
    refine XS.iloadN X0.here hx rfl (hb hby d15_0) rfl ?_
    refine XS.aloadN X0.here hx rfl (hb hby d15_1) rfl rfl ?_
    exact kt
  obtain ⟨cl1, Ar1, -, S1, M1, -, -⟩ := id V_o0
  refine own_thr (a := s₁.setTop (mkF m 3 #[.val (.ref o0), .val (.int (1 : Int32))] [(.int (2 : Int32)), (.int (1 : Int32))])) (fun t kt => ?_) ?_
  · show Steps p.tables e below (s₁.setTop (mkF m 2 #[.val (.ref o0), .val (.int (1 : Int32))] [(.ref o0), (.int (1 : Int32))])) _
    refine X0.arraylength hx (by rw [e0]; exact Ar1.1) (State.isArrayOf_alike hZ.alike Ar1.2.1) (g := (mkF m 2 #[.val (.ref o0), .val (.int (1 : Int32))] [(.ref o0), (.int (1 : Int32))])) rfl rfl (hb hby d15_2) _ ?_
    rw [len_of S1 M1]
    exact kt
  obtain ⟨_, _, ⟨T2, L2, k2, n2⟩, -, X2, ⟨Lc2, hQ2, l2, y2, z2⟩, st2⟩ := Jvm.LawKit.callS X0 hx (y := (⟨"java/lang/String", "checkIndex", "(II)V"⟩ : MethodName)) hown (mvT hZ (hw _ (List.mem_of_getElem? (i := 77) rfl))) (mvT hZ (hw _ (List.mem_of_getElem? (i := 78) rfl))) (mvT hZ (hw _ (List.mem_of_getElem? (i := 7) rfl))) (mvT hZ (hw _ (List.mem_of_getElem? (i := 79) rfl))) (by decide) (backOf (W := 0) (rmCI l Z a0 hw [] (1 : Int32) (2 : Int32) fm h0 n0 Z0 S_SIOOBE_FORMATTER hfm (by decide) (by decide)) hZ (hw _ (List.mem_of_getElem? (i := 79) rfl)) (hw _ (List.mem_of_getElem? (i := 7) rfl)) (by decide) (by decide)) (g := (mkF m 3 #[.val (.ref o0), .val (.int (1 : Int32))] [(.int (2 : Int32)), (.int (1 : Int32))])) rfl (by rw [hml]; rfl) (argsL := [(.int (1 : Int32)), (.int (2 : Int32))]) (rest := []) (lenOf pd__28II_29V rfl) rfl (by show 2 * 0 + _ ≤ _; exact Nat.le_of_eq rfl) (hb hby d15_3) (fun _ _ => ⟨rfl, e0, (by decide : 0 + 0 ≤ _), (by decide : 0 + 0 ≤ _)⟩)
  dsimp only [Pt.U, Pt.locs, Pt.cells, Pt.slots] at X2 l2 y2 z2 st2 hQ2
  obtain ⟨rfl, N2q, e2⟩ := hQ2
  obtain ⟨lc2, X2, N2⟩ := own_pack X2 l2 y2 z2 N0 N2q (C := 0) (S' := 0) rfl rfl
  refine own_thr (a := T2.setTop (mkF m 6 #[.val (.ref o0), .val (.int (1 : Int32))] [])) (fun t kt => st2 t kt) ?_
  refine own_thr (a := T2.setTop (mkF m 8 #[.val (.ref o0), .val (.int (1 : Int32))] [(.int (1 : Int32)), (.ref o0)])) (fun t kt => ?_) ?_
  · show Steps p.tables e below (T2.setTop (mkF m 6 #[.val (.ref o0), .val (.int (1 : Int32))] [])) _
    refine XS.aloadN X2.here hx rfl (hb hby d15_6) rfl rfl ?_
    refine XS.iloadN X2.here hx rfl (hb hby d15_7) rfl ?_
    exact kt
  obtain ⟨cl3, Ar3, -, S3, M3, H3, -⟩ := id V_o0
  have hin3 : ¬ ((1 : Int32) < 0 ∨ cl3.slots.size ≤ ((1 : Int32)).toNatClampNeg) := inb_of S3 ⟨by decide, by decide⟩
  have hat3 : cl3.slots[((1 : Int32)).toNatClampNeg]? = some (.int w1) := Has.at H3 hin3 rfl
  refine own_thr (a := T2.setTop (mkF m 14 #[.val (.ref o0), .val (.int (1 : Int32))] [(.int ((w1 &&& (255 : Int32)).toUInt32.toUInt16.toUInt32.toInt32))])) (fun t kt => ?_) ?_
  · show Steps p.tables e below (T2.setTop (mkF m 8 #[.val (.ref o0), .val (.int (1 : Int32))] [(.int (1 : Int32)), (.ref o0)])) _
    refine X2.baloadBytes hx (j := (1 : Int32)) (v := (.int w1)) (by rw [e2]; exact Ar3.1) (State.isArrayOf_alike hZ.alike Ar3.2.1) Ar3.2.2 hin3 hat3 (g := (mkF m 8 #[.val (.ref o0), .val (.int (1 : Int32))] [(.int (1 : Int32)), (.ref o0)])) rfl rfl (hb hby d15_8) _ ?_
    refine XS.sipush X2.here hx rfl (hb hby d15_9) ?_
    refine XS.iand X2.here hx rfl (hb hby d15_12) rfl ?_
    refine XS.i2c X2.here hx rfl (hb hby d15_13) rfl ?_
    exact kt
  exact own_end X2 hlk (v := some (.int (nar .char ((w1 &&& (255 : Int32)).toUInt32.toUInt16.toUInt32.toInt32)))) (fun h => by rw [Bd.returns] at h; cases h) (fun fs hr => retN X2 hx (t := .char) Bd.returns (by simp) (hb hby d15_14) hr) (by rw [e2]; exact ⟨rfl, N2, rfl⟩) (by decide : 0 ≤ _) (by decide : 0 ≤ _)
theorem ef_rmCA21 (m : MethodId) (o0 : Addr)  : entryFrame m #[(.ref o0), (.int (1 : Int32))] 2 = mkF m 0 #[.val (.ref o0), .val (.int (1 : Int32))] [] := by first |  (simp [entryFrame, mkF, argsToLocals, Value.category]; done) | rfl
def Q_rmCA21 (Z : State) (o0 : Addr) (sv : Addr) (ks : ClassId) (w0 : Int32) (w1 : Int32) (cs : Int32) (fm : Value) (h0 : Heap) (n0 : Nat) (v : Option Value) (h : Heap) (L : List Loc) : Prop := v = some (.int (nar .char (nar .char ((w1 &&& (255 : Int32)).toUInt32.toUInt16.toUInt32.toInt32)))) ∧ Fr n0 L ∧ h = h0
set_option maxRecDepth 65536 in
set_option maxHeartbeats 40000000 in
theorem rmCA21 (l : Launch) (Z : State) (a0 : Array Value) (hw : ∀ d ∈ tables_1, d.before a0 Z = true) (ws : List Jvm.Cond) (o0 : Addr) (sv : Addr) (ks : ClassId) (w0 : Int32) (w1 : Int32) (cs : Int32) (fm : Value) (h0 : Heap) (n0 : Nat) (Z0 : n0 ≤ h0.size) (E_o0 : Exa Z h0 o0 "java/lang/String") (F_value_o0 : Fld Z h0 o0 "java/lang/String" "value" "[B" (.ref sv)) (F_coder_o0 : Fld Z h0 o0 "java/lang/String" "coder" "B" (.int (0 : Int32))) (V_sv : Arv Z h0 sv ks .byte (2 : Int32) [(.int w0), (.int w1)] (.int (0 : Int32))) (S_COMPACT_STRINGS : Sta Z h0 "java/lang/String" "COMPACT_STRINGS" "Z" (.int cs)) (S_SIOOBE_FORMATTER : Sta Z h0 "jdk/internal/util/Preconditions" "SIOOBE_FORMATTER" "Ljava/util/function/BiFunction;" fm) (hcs : ¬ cs = (0 : Int32)) (hfm : fm.isRef = true) :
    MetFree l (⟨"java/lang/String", "charAt", "(I)C"⟩ : MethodName) (head1 (Jvm.Cond.code (⟨"java/lang/String", "charAt", "(I)C"⟩ : MethodName) jdk_42_method_56_code 2 (some .char) :: ws) ({ frames := 3, cells := 0, slots := 0, locals := 40 } : Room)) (fun a U => a = #[(.ref o0), (.int (1 : Int32))] ∧ Z.Warmed39 U.vm ∧ U.heap = h0) (fun _ _ _ _ _ => True) (fun _ U o U' => ∃ v L, o = .returned v ∧ Q_rmCA21 Z o0 sv ks w0 w1 cs fm h0 n0 v U'.heap L ∧ FrameEnd U o U' L ({ frames := 3, cells := 0, slots := 0, locals := 40 } : Room).cells ({ frames := 3, cells := 0, slots := 0, locals := 40 } : Room).slots) := by
  refine MetFree.of_bodySF (plainFor_of_name pn_java_lang_String) hisR ?_
  intro p e s m args below meth c s₁ Bd hml0 hP hK
  obtain ⟨rfl, hZ, hh⟩ := hP
  have hx := Bd.exec
  have hby := Bd.bytes
  have hml : c.maxLocals = 2 := hml0
  have hown : s.vm.findClass "java/lang/String" = some m.cls := findClass_of_methodNamed Bd.named
  have hnm := (name_of_methodNamed Bd.named Bd.method).1
  have hlk := Bd.notSynchronized
  have X0 : Stand p l e ({ frames := 3, cells := 0, slots := 0, locals := 40 } : Room) s m #[(.ref o0), (.int (1 : Int32))] below meth c s₁ [] 0 0 := Stand.of_body Bd
  have e0 : s₁.heap = h0 := by rw [← hh, Bd.state]; rfl
  have N0 := Fr.nil n0
  show own_G p.tables e below s (Q_rmCA21 Z o0 sv ks w0 w1 cs fm h0 n0) ({ frames := 3, cells := 0, slots := 0, locals := 40 } : Room).cells ({ frames := 3, cells := 0, slots := 0, locals := 40 } : Room).slots _
  refine own_thr (a := s₁.setTop (mkF m 0 #[.val (.ref o0), .val (.int (1 : Int32))] [])) (fun t kt => castTop (ef_rmCA21 m o0) kt) ?_
  refine own_thr (a := s₁.setTop (mkF m 1 #[.val (.ref o0), .val (.int (1 : Int32))] [(.ref o0)])) (fun t kt => ?_) ?_
  · show Steps p.tables e below (s₁.setTop (mkF m 0 #[.val (.ref o0), .val (.int (1 : Int32))] [])) _
    refine XS.aloadN X0.here hx rfl (hb hby d13_0) rfl rfl ?_
    exact kt
  obtain ⟨cq1, kq1, q1a, q1b, q1c⟩ := isOf hZ e0 E_o0
  obtain ⟨_, _, ⟨T1, L1, k1, n1⟩, -, X1, ⟨Lc1, hQ1, l1, y1, z1⟩, st1⟩ := X0.virtualBack hx (y := (⟨"java/lang/String", "isLatin1", "()Z"⟩ : MethodName)) (z := (⟨"java/lang/String", "isLatin1", "()Z"⟩ : MethodName)) hown (mvT hZ (hw _ (List.mem_of_getElem? (i := 69) rfl))) (mvT hZ (hw _ (List.mem_of_getElem? (i := 70) rfl))) (notFace_of_selects (args := #[]) (mvT hZ (hw _ (List.mem_of_getElem? (i := 72) rfl)))) (mvT hZ (hw _ (List.mem_of_getElem? (i := 72) rfl))) (mvT hZ (hw _ (List.mem_of_getElem? (i := 71) rfl))) (by decide) (backOf (W := 0) (rmIL l Z a0 hw [] o0 cs h0 n0 Z0 E_o0 F_coder_o0 S_COMPACT_STRINGS hcs) hZ (hw _ (List.mem_of_getElem? (i := 73) rfl)) (hw _ (List.mem_of_getElem? (i := 7) rfl)) (by decide) (by decide)) q1a q1c (g := (mkF m 1 #[.val (.ref o0), .val (.int (1 : Int32))] [(.ref o0)])) rfl (by rw [hml]; rfl) (Steps.refl _) (argsL := []) (rest := []) (lenOf pd__28_29Z rfl) rfl (by show 2 * 0 + _ ≤ _; exact Nat.le_of_eq rfl) (hb hby d13_1) (fun _ _ => ⟨rfl, e0, (by decide : 0 + 0 ≤ _), (by decide : 0 + 0 ≤ _)⟩)
  dsimp only [Pt.U, Pt.locs, Pt.cells, Pt.slots] at X1 l1 y1 z1 st1 hQ1
  obtain ⟨rfl, N1q, e1⟩ := hQ1
  obtain ⟨lc1, X1, N1⟩ := own_pack X1 l1 y1 z1 N0 N1q (C := 0) (S' := 0) rfl rfl
  refine own_thr (a := T1.setTop (mkF m 4 #[.val (.ref o0), .val (.int (1 : Int32))] [(.int (1 : Int32))])) (fun t kt => st1.trans kt) ?_
  refine own_thr (a := T1.setTop (mkF m 8 #[.val (.ref o0), .val (.int (1 : Int32))] [(.ref o0)])) (fun t kt => ?_) ?_
  · show Steps p.tables e below (T1.setTop (mkF m 4 #[.val (.ref o0), .val (.int (1 : Int32))] [(.int (1 : Int32))])) _
    refine XS.ifNo X1.here hx rfl (hb hby d13_4) rfl ((if0 _ _).trans (feq (by decide)).1) ?_
    refine XS.aloadN X1.here hx rfl (hb hby d13_7) rfl rfl ?_
    exact kt
  obtain ⟨T2, X2, e2, st2⟩ := getF X1 hx hZ hown (host := "") (Or.inl (hw _ (List.mem_of_getElem? (i := 27) rfl))) Via.refl e1 F_value_o0 (g := (mkF m 8 #[.val (.ref o0), .val (.int (1 : Int32))] [(.ref o0)])) rfl rfl (hb hby d13_8)
  refine own_thr (a := T2.setTop (mkF m 11 #[.val (.ref o0), .val (.int (1 : Int32))] [(.ref sv)])) (fun t kt => st2 t kt) ?_
  refine own_thr (a := T2.setTop (mkF m 12 #[.val (.ref o0), .val (.int (1 : Int32))] [(.int (1 : Int32)), (.ref sv)])) (fun t kt => ?_) ?_
  · show Steps p.tables e below (T2.setTop (mkF m 11 #[.val (.ref o0), .val (.int (1 : Int32))] [(.ref sv)])) _
    refine XS.iloadN X2.here hx rfl (hb hby d13_11) rfl ?_
    exact kt
  obtain ⟨_, _, ⟨T3, L3, k3, n3⟩, -, X3, ⟨Lc3, hQ3, l3, y3, z3⟩, st3⟩ := Jvm.LawKit.callS X2 hx (y := (⟨"java/lang/StringLatin1", "charAt", "([BI)C"⟩ : MethodName)) hown (mvT hZ (hw _ (List.mem_of_getElem? (i := 74) rfl))) (mvT hZ (hw _ (List.mem_of_getElem? (i := 75) rfl))) (mvT hZ (hw _ (List.mem_of_getElem? (i := 12) rfl))) (mvT hZ (hw _ (List.mem_of_getElem? (i := 76) rfl))) (by decide) (backOf (W := 0) (rmLC21 l Z a0 hw [] sv ks w0 w1 fm h0 n0 Z0 V_sv S_SIOOBE_FORMATTER hfm) hZ (hw _ (List.mem_of_getElem? (i := 76) rfl)) (hw _ (List.mem_of_getElem? (i := 12) rfl)) (by decide) (by decide)) (g := (mkF m 12 #[.val (.ref o0), .val (.int (1 : Int32))] [(.int (1 : Int32)), (.ref sv)])) rfl (by rw [hml]; rfl) (argsL := [(.ref sv), (.int (1 : Int32))]) (rest := []) (lenOf pd__28_5bBI_29C rfl) rfl (by show 2 * 0 + _ ≤ _; exact Nat.le_of_eq rfl) (hb hby d13_12) (fun _ _ => ⟨rfl, e2, (by decide : 0 + 0 ≤ _), (by decide : 0 + 0 ≤ _)⟩)
  dsimp only [Pt.U, Pt.locs, Pt.cells, Pt.slots] at X3 l3 y3 z3 st3 hQ3
  obtain ⟨rfl, N3q, e3⟩ := hQ3
  obtain ⟨lc3, X3, N3⟩ := own_pack X3 l3 y3 z3 N1 N3q (C := 0) (S' := 0) rfl rfl
  refine own_thr (a := T3.setTop (mkF m 15 #[.val (.ref o0), .val (.int (1 : Int32))] [(.int (nar .char ((w1 &&& (255 : Int32)).toUInt32.toUInt16.toUInt32.toInt32)))])) (fun t kt => st3 t kt) ?_
  exact own_end X3 hlk (v := some (.int (nar .char (nar .char ((w1 &&& (255 : Int32)).toUInt32.toUInt16.toUInt32.toInt32))))) (fun h => by rw [Bd.returns] at h; cases h) (fun fs hr => retN X3 hx (t := .char) Bd.returns (by simp) (hb hby d13_15) hr) (by rw [e3]; exact ⟨rfl, N3, rfl⟩) (by decide : 0 ≤ _) (by decide : 0 ≤ _)
theorem ef_rmLN3 (m : MethodId) (o0 : Addr)  : entryFrame m #[(.ref o0)] 1 = mkF m 0 #[.val (.ref o0)] [] := by first |  (simp [entryFrame, mkF, argsToLocals, Value.category]; done) | rfl
def Q_rmLN3 (Z : State) (o0 : Addr) (sv : Addr) (ks : ClassId) (vs : List Value) (cs : Int32) (h0 : Heap) (n0 : Nat) (v : Option Value) (h : Heap) (L : List Loc) : Prop := v = some (.int (3 : Int32)) ∧ Fr n0 L ∧ h = h0
set_option maxRecDepth 65536 in
set_option maxHeartbeats 40000000 in
theorem rmLN3 (l : Launch) (Z : State) (a0 : Array Value) (hw : ∀ d ∈ tables_1, d.before a0 Z = true) (ws : List Jvm.Cond) (o0 : Addr) (sv : Addr) (ks : ClassId) (vs : List Value) (cs : Int32) (h0 : Heap) (n0 : Nat) (Z0 : n0 ≤ h0.size) (E_o0 : Exa Z h0 o0 "java/lang/String") (F_value_o0 : Fld Z h0 o0 "java/lang/String" "value" "[B" (.ref sv)) (F_coder_o0 : Fld Z h0 o0 "java/lang/String" "coder" "B" (.int (0 : Int32))) (V_sv : Arv Z h0 sv ks .byte (3 : Int32) vs (.int (0 : Int32))) (S_COMPACT_STRINGS : Sta Z h0 "java/lang/String" "COMPACT_STRINGS" "Z" (.int cs)) (hcs : ¬ cs = (0 : Int32)) :
    MetFree l (⟨"java/lang/String", "length", "()I"⟩ : MethodName) (head1 (Jvm.Cond.code (⟨"java/lang/String", "length", "()I"⟩ : MethodName) jdk_42_method_54_code 1 (some .int) :: ws) ({ frames := 1, cells := 0, slots := 0, locals := 13 } : Room)) (fun a U => a = #[(.ref o0)] ∧ Z.Warmed39 U.vm ∧ U.heap = h0) (fun _ _ _ _ _ => True) (fun _ U o U' => ∃ v L, o = .returned v ∧ Q_rmLN3 Z o0 sv ks vs cs h0 n0 v U'.heap L ∧ FrameEnd U o U' L ({ frames := 1, cells := 0, slots := 0, locals := 13 } : Room).cells ({ frames := 1, cells := 0, slots := 0, locals := 13 } : Room).slots) := by
  refine MetFree.of_bodySF (plainFor_of_name pn_java_lang_String) hisR ?_
  intro p e s m args below meth c s₁ Bd hml0 hP hK
  obtain ⟨rfl, hZ, hh⟩ := hP
  have hx := Bd.exec
  have hby := Bd.bytes
  have hml : c.maxLocals = 1 := hml0
  have hown : s.vm.findClass "java/lang/String" = some m.cls := findClass_of_methodNamed Bd.named
  have hnm := (name_of_methodNamed Bd.named Bd.method).1
  have hlk := Bd.notSynchronized
  have X0 : Stand p l e ({ frames := 1, cells := 0, slots := 0, locals := 13 } : Room) s m #[(.ref o0)] below meth c s₁ [] 0 0 := Stand.of_body Bd
  have e0 : s₁.heap = h0 := by rw [← hh, Bd.state]; rfl
  have N0 := Fr.nil n0
  show own_G p.tables e below s (Q_rmLN3 Z o0 sv ks vs cs h0 n0) ({ frames := 1, cells := 0, slots := 0, locals := 13 } : Room).cells ({ frames := 1, cells := 0, slots := 0, locals := 13 } : Room).slots _
  refine own_thr (a := s₁.setTop (mkF m 0 #[.val (.ref o0)] [])) (fun t kt => castTop (ef_rmLN3 m o0) kt) ?_
  refine own_thr (a := s₁.setTop (mkF m 1 #[.val (.ref o0)] [(.ref o0)])) (fun t kt => ?_) ?_
  · show Steps p.tables e below (s₁.setTop (mkF m 0 #[.val (.ref o0)] [])) _
    refine XS.aloadN X0.here hx rfl (hb hby d11_0) rfl rfl ?_
    exact kt
  obtain ⟨T1, X1, e1, st1⟩ := getF X0 hx hZ hown (host := "") (Or.inl (hw _ (List.mem_of_getElem? (i := 27) rfl))) Via.refl e0 F_value_o0 (g := (mkF m 1 #[.val (.ref o0)] [(.ref o0)])) rfl rfl (hb hby d11_1)
  refine own_thr (a := T1.setTop (mkF m 4 #[.val (.ref o0)] [(.ref sv)])) (fun t kt => st1 t kt) ?_
  obtain ⟨cl2, Ar2, -, S2, M2, -, -⟩ := id V_sv
  refine own_thr (a := T1.setTop (mkF m 6 #[.val (.ref o0)] [(.ref o0), (.int (3 : Int32))])) (fun t kt => ?_) ?_
  · show Steps p.tables e below (T1.setTop (mkF m 4 #[.val (.ref o0)] [(.ref sv)])) _
    refine X1.arraylength hx (by rw [e1]; exact Ar2.1) (State.isArrayOf_alike hZ.alike Ar2.2.1) (g := (mkF m 4 #[.val (.ref o0)] [(.ref sv)])) rfl rfl (hb hby d11_4) _ ?_
    rw [len_of S2 M2]
    refine XS.aloadN X1.here hx rfl (hb hby d11_5) rfl rfl ?_
    exact kt
  obtain ⟨cq3, kq3, q3a, q3b, q3c⟩ := isOf hZ e1 E_o0
  obtain ⟨_, _, ⟨T3, L3, k3, n3⟩, -, X3, ⟨Lc3, hQ3, l3, y3, z3⟩, st3⟩ := X1.virtualBack hx (y := (⟨"java/lang/String", "coder", "()B"⟩ : MethodName)) (z := (⟨"java/lang/String", "coder", "()B"⟩ : MethodName)) hown (mvT hZ (hw _ (List.mem_of_getElem? (i := 59) rfl))) (mvT hZ (hw _ (List.mem_of_getElem? (i := 60) rfl))) (notFace_of_selects (args := #[]) (mvT hZ (hw _ (List.mem_of_getElem? (i := 62) rfl)))) (mvT hZ (hw _ (List.mem_of_getElem? (i := 62) rfl))) (mvT hZ (hw _ (List.mem_of_getElem? (i := 61) rfl))) (by decide) (backOf (W := 1) (rmCO l Z a0 hw [] o0 cs h0 n0 Z0 E_o0 F_coder_o0 S_COMPACT_STRINGS hcs) hZ (hw _ (List.mem_of_getElem? (i := 63) rfl)) (hw _ (List.mem_of_getElem? (i := 7) rfl)) (by decide) (by decide)) q3a q3c (g := (mkF m 6 #[.val (.ref o0)] [(.ref o0), (.int (3 : Int32))])) rfl (by rw [hml]; rfl) (Steps.refl _) (argsL := []) (rest := [(.int (3 : Int32))]) (lenOf pd__28_29B rfl) rfl (by show 2 * 0 + _ ≤ _; exact Nat.le_of_eq rfl) (hb hby d11_6) (fun _ _ => ⟨rfl, e1, (by decide : 0 + 0 ≤ _), (by decide : 0 + 0 ≤ _)⟩)
  dsimp only [Pt.U, Pt.locs, Pt.cells, Pt.slots] at X3 l3 y3 z3 st3 hQ3
  obtain ⟨rfl, N3q, e3⟩ := hQ3
  obtain ⟨lc3, X3, N3⟩ := own_pack X3 l3 y3 z3 N0 N3q (C := 0) (S' := 0) rfl rfl
  refine own_thr (a := T3.setTop (mkF m 9 #[.val (.ref o0)] [(.int (0 : Int32)), (.int (3 : Int32))])) (fun t kt => st3.trans kt) ?_
  refine own_thr (a := T3.setTop (mkF m 10 #[.val (.ref o0)] [(.int (3 : Int32))])) (fun t kt => ?_) ?_
  · show Steps p.tables e below (T3.setTop (mkF m 9 #[.val (.ref o0)] [(.int (0 : Int32)), (.int (3 : Int32))])) _
    refine XS.ishr X3.here hx rfl (hb hby d11_9) rfl ?_
    exact kt
  exact own_end X3 hlk (v := some (.int (3 : Int32))) (fun h => by rw [Bd.returns] at h; cases h) (fun fs hr => retI X3 hx Bd.returns (hb hby d11_10) hr) (by rw [e3]; exact ⟨rfl, N3, rfl⟩) (by decide : 0 ≤ _) (by decide : 0 ≤ _)
theorem ef_rmEM3 (m : MethodId) (o0 : Addr)  : entryFrame m #[(.ref o0)] 1 = mkF m 0 #[.val (.ref o0)] [] := by first |  (simp [entryFrame, mkF, argsToLocals, Value.category]; done) | rfl
def Q_rmEM3 (Z : State) (o0 : Addr) (sv : Addr) (ks : ClassId) (vs : List Value) (h0 : Heap) (n0 : Nat) (v : Option Value) (h : Heap) (L : List Loc) : Prop := v = some (.int (0 : Int32)) ∧ Fr n0 L ∧ h = h0
set_option maxRecDepth 65536 in
set_option maxHeartbeats 40000000 in
theorem rmEM3 (l : Launch) (Z : State) (a0 : Array Value) (hw : ∀ d ∈ tables_1, d.before a0 Z = true) (ws : List Jvm.Cond) (o0 : Addr) (sv : Addr) (ks : ClassId) (vs : List Value) (h0 : Heap) (n0 : Nat) (Z0 : n0 ≤ h0.size) (E_o0 : Exa Z h0 o0 "java/lang/String") (F_value_o0 : Fld Z h0 o0 "java/lang/String" "value" "[B" (.ref sv)) (F_coder_o0 : Fld Z h0 o0 "java/lang/String" "coder" "B" (.int (0 : Int32))) (V_sv : Arv Z h0 sv ks .byte (3 : Int32) vs (.int (0 : Int32))) :
    MetFree l (⟨"java/lang/String", "isEmpty", "()Z"⟩ : MethodName) (head1 (Jvm.Cond.code (⟨"java/lang/String", "isEmpty", "()Z"⟩ : MethodName) jdk_42_method_55_code 1 (some .boolean) :: ws) ({ frames := 0, cells := 0, slots := 0, locals := 0 } : Room)) (fun a U => a = #[(.ref o0)] ∧ Z.Warmed39 U.vm ∧ U.heap = h0) (fun _ _ _ _ _ => True) (fun _ U o U' => ∃ v L, o = .returned v ∧ Q_rmEM3 Z o0 sv ks vs h0 n0 v U'.heap L ∧ FrameEnd U o U' L ({ frames := 0, cells := 0, slots := 0, locals := 0 } : Room).cells ({ frames := 0, cells := 0, slots := 0, locals := 0 } : Room).slots) := by
  refine MetFree.of_bodySF (plainFor_of_name pn_java_lang_String) hisR ?_
  intro p e s m args below meth c s₁ Bd hml0 hP hK
  obtain ⟨rfl, hZ, hh⟩ := hP
  have hx := Bd.exec
  have hby := Bd.bytes
  have hml : c.maxLocals = 1 := hml0
  have hown : s.vm.findClass "java/lang/String" = some m.cls := findClass_of_methodNamed Bd.named
  have hnm := (name_of_methodNamed Bd.named Bd.method).1
  have hlk := Bd.notSynchronized
  have X0 : Stand p l e ({ frames := 0, cells := 0, slots := 0, locals := 0 } : Room) s m #[(.ref o0)] below meth c s₁ [] 0 0 := Stand.of_body Bd
  have e0 : s₁.heap = h0 := by rw [← hh, Bd.state]; rfl
  have N0 := Fr.nil n0
  show own_G p.tables e below s (Q_rmEM3 Z o0 sv ks vs h0 n0) ({ frames := 0, cells := 0, slots := 0, locals := 0 } : Room).cells ({ frames := 0, cells := 0, slots := 0, locals := 0 } : Room).slots _
  refine own_thr (a := s₁.setTop (mkF m 0 #[.val (.ref o0)] [])) (fun t kt => castTop (ef_rmEM3 m o0) kt) ?_
  refine own_thr (a := s₁.setTop (mkF m 1 #[.val (.ref o0)] [(.ref o0)])) (fun t kt => ?_) ?_
  · show Steps p.tables e below (s₁.setTop (mkF m 0 #[.val (.ref o0)] [])) _
    refine XS.aloadN X0.here hx rfl (hb hby d10_0) rfl rfl ?_
    exact kt
  obtain ⟨T1, X1, e1, st1⟩ := getF X0 hx hZ hown (host := "") (Or.inl (hw _ (List.mem_of_getElem? (i := 27) rfl))) Via.refl e0 F_value_o0 (g := (mkF m 1 #[.val (.ref o0)] [(.ref o0)])) rfl rfl (hb hby d10_1)
  refine own_thr (a := T1.setTop (mkF m 4 #[.val (.ref o0)] [(.ref sv)])) (fun t kt => st1 t kt) ?_
  obtain ⟨cl2, Ar2, -, S2, M2, -, -⟩ := id V_sv
  refine own_thr (a := T1.setTop (mkF m 13 #[.val (.ref o0)] [(.int (0 : Int32))])) (fun t kt => ?_) ?_
  · show Steps p.tables e below (T1.setTop (mkF m 4 #[.val (.ref o0)] [(.ref sv)])) _
    refine X1.arraylength hx (by rw [e1]; exact Ar2.1) (State.isArrayOf_alike hZ.alike Ar2.2.1) (g := (mkF m 4 #[.val (.ref o0)] [(.ref sv)])) rfl rfl (hb hby d10_4) _ ?_
    rw [len_of S2 M2]
    refine XS.ifYes X1.here hx rfl (pc0 := 5) (pc' := 12) rfl (hb hby d10_5) rfl ((if0 _ _).trans (feq (by decide)).2) (by decide) (by decide) ?_
    refine XS.iconst X1.here hx rfl (hb hby d10_12) ?_
    exact kt
  exact own_end X1 hlk (v := some (.int (0 : Int32))) (fun h => by rw [Bd.returns] at h; cases h) (fun fs hr => retN X1 hx (t := .boolean) Bd.returns (by simp) (hb hby d10_13) hr) (by rw [e1]; exact ⟨rfl, N0, rfl⟩) (by decide : 0 ≤ _) (by decide : 0 ≤ _)
theorem ef_rmLC30 (m : MethodId) (o0 : Addr)  : entryFrame m #[(.ref o0), (.int (0 : Int32))] 2 = mkF m 0 #[.val (.ref o0), .val (.int (0 : Int32))] [] := by first |  (simp [entryFrame, mkF, argsToLocals, Value.category]; done) | rfl
def Q_rmLC30 (Z : State) (o0 : Addr) (k0 : ClassId) (w0 : Int32) (w1 : Int32) (w2 : Int32) (fm : Value) (h0 : Heap) (n0 : Nat) (v : Option Value) (h : Heap) (L : List Loc) : Prop := v = some (.int (nar .char ((w0 &&& (255 : Int32)).toUInt32.toUInt16.toUInt32.toInt32))) ∧ Fr n0 L ∧ h = h0
set_option maxRecDepth 65536 in
set_option maxHeartbeats 40000000 in
theorem rmLC30 (l : Launch) (Z : State) (a0 : Array Value) (hw : ∀ d ∈ tables_1, d.before a0 Z = true) (ws : List Jvm.Cond) (o0 : Addr) (k0 : ClassId) (w0 : Int32) (w1 : Int32) (w2 : Int32) (fm : Value) (h0 : Heap) (n0 : Nat) (Z0 : n0 ≤ h0.size) (V_o0 : Arv Z h0 o0 k0 .byte (3 : Int32) [(.int w0), (.int w1), (.int w2)] (.int (0 : Int32))) (S_SIOOBE_FORMATTER : Sta Z h0 "jdk/internal/util/Preconditions" "SIOOBE_FORMATTER" "Ljava/util/function/BiFunction;" fm) (hfm : fm.isRef = true) :
    MetFree l (⟨"java/lang/StringLatin1", "charAt", "([BI)C"⟩ : MethodName) (head1 (Jvm.Cond.code (⟨"java/lang/StringLatin1", "charAt", "([BI)C"⟩ : MethodName) jdk_43_method_2_code 2 (some .char) :: ws) ({ frames := 2, cells := 0, slots := 0, locals := 27 } : Room)) (fun a U => a = #[(.ref o0), (.int (0 : Int32))] ∧ Z.Warmed39 U.vm ∧ U.heap = h0) (fun _ _ _ _ _ => True) (fun _ U o U' => ∃ v L, o = .returned v ∧ Q_rmLC30 Z o0 k0 w0 w1 w2 fm h0 n0 v U'.heap L ∧ FrameEnd U o U' L ({ frames := 2, cells := 0, slots := 0, locals := 27 } : Room).cells ({ frames := 2, cells := 0, slots := 0, locals := 27 } : Room).slots) := by
  refine MetFree.of_bodySF (plainFor_of_name pn_java_lang_StringLatin1) hisR ?_
  intro p e s m args below meth c s₁ Bd hml0 hP hK
  obtain ⟨rfl, hZ, hh⟩ := hP
  have hx := Bd.exec
  have hby := Bd.bytes
  have hml : c.maxLocals = 2 := hml0
  have hown : s.vm.findClass "java/lang/StringLatin1" = some m.cls := findClass_of_methodNamed Bd.named
  have hnm := (name_of_methodNamed Bd.named Bd.method).1
  have hlk := Bd.notSynchronized
  have X0 : Stand p l e ({ frames := 2, cells := 0, slots := 0, locals := 27 } : Room) s m #[(.ref o0), (.int (0 : Int32))] below meth c s₁ [] 0 0 := Stand.of_body Bd
  have e0 : s₁.heap = h0 := by rw [← hh, Bd.state]; rfl
  have N0 := Fr.nil n0
  show own_G p.tables e below s (Q_rmLC30 Z o0 k0 w0 w1 w2 fm h0 n0) ({ frames := 2, cells := 0, slots := 0, locals := 27 } : Room).cells ({ frames := 2, cells := 0, slots := 0, locals := 27 } : Room).slots _
  refine own_thr (a := s₁.setTop (mkF m 0 #[.val (.ref o0), .val (.int (0 : Int32))] [])) (fun t kt => castTop (ef_rmLC30 m o0) kt) ?_
  refine own_thr (a := s₁.setTop (mkF m 2 #[.val (.ref o0), .val (.int (0 : Int32))] [(.ref o0), (.int (0 : Int32))])) (fun t kt => ?_) ?_
  · show Steps p.tables e below (s₁.setTop (mkF m 0 #[.val (.ref o0), .val (.int (0 : Int32))] [])) _
    refine XS.iloadN X0.here hx rfl (hb hby d15_0) rfl ?_
    refine XS.aloadN X0.here hx rfl (hb hby d15_1) rfl rfl ?_
    exact kt
  obtain ⟨cl1, Ar1, -, S1, M1, -, -⟩ := id V_o0
  refine own_thr (a := s₁.setTop (mkF m 3 #[.val (.ref o0), .val (.int (0 : Int32))] [(.int (3 : Int32)), (.int (0 : Int32))])) (fun t kt => ?_) ?_
  · show Steps p.tables e below (s₁.setTop (mkF m 2 #[.val (.ref o0), .val (.int (0 : Int32))] [(.ref o0), (.int (0 : Int32))])) _
    refine X0.arraylength hx (by rw [e0]; exact Ar1.1) (State.isArrayOf_alike hZ.alike Ar1.2.1) (g := (mkF m 2 #[.val (.ref o0), .val (.int (0 : Int32))] [(.ref o0), (.int (0 : Int32))])) rfl rfl (hb hby d15_2) _ ?_
    rw [len_of S1 M1]
    exact kt
  obtain ⟨_, _, ⟨T2, L2, k2, n2⟩, -, X2, ⟨Lc2, hQ2, l2, y2, z2⟩, st2⟩ := Jvm.LawKit.callS X0 hx (y := (⟨"java/lang/String", "checkIndex", "(II)V"⟩ : MethodName)) hown (mvT hZ (hw _ (List.mem_of_getElem? (i := 77) rfl))) (mvT hZ (hw _ (List.mem_of_getElem? (i := 78) rfl))) (mvT hZ (hw _ (List.mem_of_getElem? (i := 7) rfl))) (mvT hZ (hw _ (List.mem_of_getElem? (i := 79) rfl))) (by decide) (backOf (W := 0) (rmCI l Z a0 hw [] (0 : Int32) (3 : Int32) fm h0 n0 Z0 S_SIOOBE_FORMATTER hfm (by decide) (by decide)) hZ (hw _ (List.mem_of_getElem? (i := 79) rfl)) (hw _ (List.mem_of_getElem? (i := 7) rfl)) (by decide) (by decide)) (g := (mkF m 3 #[.val (.ref o0), .val (.int (0 : Int32))] [(.int (3 : Int32)), (.int (0 : Int32))])) rfl (by rw [hml]; rfl) (argsL := [(.int (0 : Int32)), (.int (3 : Int32))]) (rest := []) (lenOf pd__28II_29V rfl) rfl (by show 2 * 0 + _ ≤ _; exact Nat.le_of_eq rfl) (hb hby d15_3) (fun _ _ => ⟨rfl, e0, (by decide : 0 + 0 ≤ _), (by decide : 0 + 0 ≤ _)⟩)
  dsimp only [Pt.U, Pt.locs, Pt.cells, Pt.slots] at X2 l2 y2 z2 st2 hQ2
  obtain ⟨rfl, N2q, e2⟩ := hQ2
  obtain ⟨lc2, X2, N2⟩ := own_pack X2 l2 y2 z2 N0 N2q (C := 0) (S' := 0) rfl rfl
  refine own_thr (a := T2.setTop (mkF m 6 #[.val (.ref o0), .val (.int (0 : Int32))] [])) (fun t kt => st2 t kt) ?_
  refine own_thr (a := T2.setTop (mkF m 8 #[.val (.ref o0), .val (.int (0 : Int32))] [(.int (0 : Int32)), (.ref o0)])) (fun t kt => ?_) ?_
  · show Steps p.tables e below (T2.setTop (mkF m 6 #[.val (.ref o0), .val (.int (0 : Int32))] [])) _
    refine XS.aloadN X2.here hx rfl (hb hby d15_6) rfl rfl ?_
    refine XS.iloadN X2.here hx rfl (hb hby d15_7) rfl ?_
    exact kt
  obtain ⟨cl3, Ar3, -, S3, M3, H3, -⟩ := id V_o0
  have hin3 : ¬ ((0 : Int32) < 0 ∨ cl3.slots.size ≤ ((0 : Int32)).toNatClampNeg) := inb_of S3 ⟨by decide, by decide⟩
  have hat3 : cl3.slots[((0 : Int32)).toNatClampNeg]? = some (.int w0) := Has.at H3 hin3 rfl
  refine own_thr (a := T2.setTop (mkF m 14 #[.val (.ref o0), .val (.int (0 : Int32))] [(.int ((w0 &&& (255 : Int32)).toUInt32.toUInt16.toUInt32.toInt32))])) (fun t kt => ?_) ?_
  · show Steps p.tables e below (T2.setTop (mkF m 8 #[.val (.ref o0), .val (.int (0 : Int32))] [(.int (0 : Int32)), (.ref o0)])) _
    refine X2.baloadBytes hx (j := (0 : Int32)) (v := (.int w0)) (by rw [e2]; exact Ar3.1) (State.isArrayOf_alike hZ.alike Ar3.2.1) Ar3.2.2 hin3 hat3 (g := (mkF m 8 #[.val (.ref o0), .val (.int (0 : Int32))] [(.int (0 : Int32)), (.ref o0)])) rfl rfl (hb hby d15_8) _ ?_
    refine XS.sipush X2.here hx rfl (hb hby d15_9) ?_
    refine XS.iand X2.here hx rfl (hb hby d15_12) rfl ?_
    refine XS.i2c X2.here hx rfl (hb hby d15_13) rfl ?_
    exact kt
  exact own_end X2 hlk (v := some (.int (nar .char ((w0 &&& (255 : Int32)).toUInt32.toUInt16.toUInt32.toInt32)))) (fun h => by rw [Bd.returns] at h; cases h) (fun fs hr => retN X2 hx (t := .char) Bd.returns (by simp) (hb hby d15_14) hr) (by rw [e2]; exact ⟨rfl, N2, rfl⟩) (by decide : 0 ≤ _) (by decide : 0 ≤ _)
theorem ef_rmCA30 (m : MethodId) (o0 : Addr)  : entryFrame m #[(.ref o0), (.int (0 : Int32))] 2 = mkF m 0 #[.val (.ref o0), .val (.int (0 : Int32))] [] := by first |  (simp [entryFrame, mkF, argsToLocals, Value.category]; done) | rfl
def Q_rmCA30 (Z : State) (o0 : Addr) (sv : Addr) (ks : ClassId) (w0 : Int32) (w1 : Int32) (w2 : Int32) (cs : Int32) (fm : Value) (h0 : Heap) (n0 : Nat) (v : Option Value) (h : Heap) (L : List Loc) : Prop := v = some (.int (nar .char (nar .char ((w0 &&& (255 : Int32)).toUInt32.toUInt16.toUInt32.toInt32)))) ∧ Fr n0 L ∧ h = h0
set_option maxRecDepth 65536 in
set_option maxHeartbeats 40000000 in
theorem rmCA30 (l : Launch) (Z : State) (a0 : Array Value) (hw : ∀ d ∈ tables_1, d.before a0 Z = true) (ws : List Jvm.Cond) (o0 : Addr) (sv : Addr) (ks : ClassId) (w0 : Int32) (w1 : Int32) (w2 : Int32) (cs : Int32) (fm : Value) (h0 : Heap) (n0 : Nat) (Z0 : n0 ≤ h0.size) (E_o0 : Exa Z h0 o0 "java/lang/String") (F_value_o0 : Fld Z h0 o0 "java/lang/String" "value" "[B" (.ref sv)) (F_coder_o0 : Fld Z h0 o0 "java/lang/String" "coder" "B" (.int (0 : Int32))) (V_sv : Arv Z h0 sv ks .byte (3 : Int32) [(.int w0), (.int w1), (.int w2)] (.int (0 : Int32))) (S_COMPACT_STRINGS : Sta Z h0 "java/lang/String" "COMPACT_STRINGS" "Z" (.int cs)) (S_SIOOBE_FORMATTER : Sta Z h0 "jdk/internal/util/Preconditions" "SIOOBE_FORMATTER" "Ljava/util/function/BiFunction;" fm) (hcs : ¬ cs = (0 : Int32)) (hfm : fm.isRef = true) :
    MetFree l (⟨"java/lang/String", "charAt", "(I)C"⟩ : MethodName) (head1 (Jvm.Cond.code (⟨"java/lang/String", "charAt", "(I)C"⟩ : MethodName) jdk_42_method_56_code 2 (some .char) :: ws) ({ frames := 3, cells := 0, slots := 0, locals := 40 } : Room)) (fun a U => a = #[(.ref o0), (.int (0 : Int32))] ∧ Z.Warmed39 U.vm ∧ U.heap = h0) (fun _ _ _ _ _ => True) (fun _ U o U' => ∃ v L, o = .returned v ∧ Q_rmCA30 Z o0 sv ks w0 w1 w2 cs fm h0 n0 v U'.heap L ∧ FrameEnd U o U' L ({ frames := 3, cells := 0, slots := 0, locals := 40 } : Room).cells ({ frames := 3, cells := 0, slots := 0, locals := 40 } : Room).slots) := by
  refine MetFree.of_bodySF (plainFor_of_name pn_java_lang_String) hisR ?_
  intro p e s m args below meth c s₁ Bd hml0 hP hK
  obtain ⟨rfl, hZ, hh⟩ := hP
  have hx := Bd.exec
  have hby := Bd.bytes
  have hml : c.maxLocals = 2 := hml0
  have hown : s.vm.findClass "java/lang/String" = some m.cls := findClass_of_methodNamed Bd.named
  have hnm := (name_of_methodNamed Bd.named Bd.method).1
  have hlk := Bd.notSynchronized
  have X0 : Stand p l e ({ frames := 3, cells := 0, slots := 0, locals := 40 } : Room) s m #[(.ref o0), (.int (0 : Int32))] below meth c s₁ [] 0 0 := Stand.of_body Bd
  have e0 : s₁.heap = h0 := by rw [← hh, Bd.state]; rfl
  have N0 := Fr.nil n0
  show own_G p.tables e below s (Q_rmCA30 Z o0 sv ks w0 w1 w2 cs fm h0 n0) ({ frames := 3, cells := 0, slots := 0, locals := 40 } : Room).cells ({ frames := 3, cells := 0, slots := 0, locals := 40 } : Room).slots _
  refine own_thr (a := s₁.setTop (mkF m 0 #[.val (.ref o0), .val (.int (0 : Int32))] [])) (fun t kt => castTop (ef_rmCA30 m o0) kt) ?_
  refine own_thr (a := s₁.setTop (mkF m 1 #[.val (.ref o0), .val (.int (0 : Int32))] [(.ref o0)])) (fun t kt => ?_) ?_
  · show Steps p.tables e below (s₁.setTop (mkF m 0 #[.val (.ref o0), .val (.int (0 : Int32))] [])) _
    refine XS.aloadN X0.here hx rfl (hb hby d13_0) rfl rfl ?_
    exact kt
  obtain ⟨cq1, kq1, q1a, q1b, q1c⟩ := isOf hZ e0 E_o0
  obtain ⟨_, _, ⟨T1, L1, k1, n1⟩, -, X1, ⟨Lc1, hQ1, l1, y1, z1⟩, st1⟩ := X0.virtualBack hx (y := (⟨"java/lang/String", "isLatin1", "()Z"⟩ : MethodName)) (z := (⟨"java/lang/String", "isLatin1", "()Z"⟩ : MethodName)) hown (mvT hZ (hw _ (List.mem_of_getElem? (i := 69) rfl))) (mvT hZ (hw _ (List.mem_of_getElem? (i := 70) rfl))) (notFace_of_selects (args := #[]) (mvT hZ (hw _ (List.mem_of_getElem? (i := 72) rfl)))) (mvT hZ (hw _ (List.mem_of_getElem? (i := 72) rfl))) (mvT hZ (hw _ (List.mem_of_getElem? (i := 71) rfl))) (by decide) (backOf (W := 0) (rmIL l Z a0 hw [] o0 cs h0 n0 Z0 E_o0 F_coder_o0 S_COMPACT_STRINGS hcs) hZ (hw _ (List.mem_of_getElem? (i := 73) rfl)) (hw _ (List.mem_of_getElem? (i := 7) rfl)) (by decide) (by decide)) q1a q1c (g := (mkF m 1 #[.val (.ref o0), .val (.int (0 : Int32))] [(.ref o0)])) rfl (by rw [hml]; rfl) (Steps.refl _) (argsL := []) (rest := []) (lenOf pd__28_29Z rfl) rfl (by show 2 * 0 + _ ≤ _; exact Nat.le_of_eq rfl) (hb hby d13_1) (fun _ _ => ⟨rfl, e0, (by decide : 0 + 0 ≤ _), (by decide : 0 + 0 ≤ _)⟩)
  dsimp only [Pt.U, Pt.locs, Pt.cells, Pt.slots] at X1 l1 y1 z1 st1 hQ1
  obtain ⟨rfl, N1q, e1⟩ := hQ1
  obtain ⟨lc1, X1, N1⟩ := own_pack X1 l1 y1 z1 N0 N1q (C := 0) (S' := 0) rfl rfl
  refine own_thr (a := T1.setTop (mkF m 4 #[.val (.ref o0), .val (.int (0 : Int32))] [(.int (1 : Int32))])) (fun t kt => st1.trans kt) ?_
  refine own_thr (a := T1.setTop (mkF m 8 #[.val (.ref o0), .val (.int (0 : Int32))] [(.ref o0)])) (fun t kt => ?_) ?_
  · show Steps p.tables e below (T1.setTop (mkF m 4 #[.val (.ref o0), .val (.int (0 : Int32))] [(.int (1 : Int32))])) _
    refine XS.ifNo X1.here hx rfl (hb hby d13_4) rfl ((if0 _ _).trans (feq (by decide)).1) ?_
    refine XS.aloadN X1.here hx rfl (hb hby d13_7) rfl rfl ?_
    exact kt
  obtain ⟨T2, X2, e2, st2⟩ := getF X1 hx hZ hown (host := "") (Or.inl (hw _ (List.mem_of_getElem? (i := 27) rfl))) Via.refl e1 F_value_o0 (g := (mkF m 8 #[.val (.ref o0), .val (.int (0 : Int32))] [(.ref o0)])) rfl rfl (hb hby d13_8)
  refine own_thr (a := T2.setTop (mkF m 11 #[.val (.ref o0), .val (.int (0 : Int32))] [(.ref sv)])) (fun t kt => st2 t kt) ?_
  refine own_thr (a := T2.setTop (mkF m 12 #[.val (.ref o0), .val (.int (0 : Int32))] [(.int (0 : Int32)), (.ref sv)])) (fun t kt => ?_) ?_
  · show Steps p.tables e below (T2.setTop (mkF m 11 #[.val (.ref o0), .val (.int (0 : Int32))] [(.ref sv)])) _
    refine XS.iloadN X2.here hx rfl (hb hby d13_11) rfl ?_
    exact kt
  obtain ⟨_, _, ⟨T3, L3, k3, n3⟩, -, X3, ⟨Lc3, hQ3, l3, y3, z3⟩, st3⟩ := Jvm.LawKit.callS X2 hx (y := (⟨"java/lang/StringLatin1", "charAt", "([BI)C"⟩ : MethodName)) hown (mvT hZ (hw _ (List.mem_of_getElem? (i := 74) rfl))) (mvT hZ (hw _ (List.mem_of_getElem? (i := 75) rfl))) (mvT hZ (hw _ (List.mem_of_getElem? (i := 12) rfl))) (mvT hZ (hw _ (List.mem_of_getElem? (i := 76) rfl))) (by decide) (backOf (W := 0) (rmLC30 l Z a0 hw [] sv ks w0 w1 w2 fm h0 n0 Z0 V_sv S_SIOOBE_FORMATTER hfm) hZ (hw _ (List.mem_of_getElem? (i := 76) rfl)) (hw _ (List.mem_of_getElem? (i := 12) rfl)) (by decide) (by decide)) (g := (mkF m 12 #[.val (.ref o0), .val (.int (0 : Int32))] [(.int (0 : Int32)), (.ref sv)])) rfl (by rw [hml]; rfl) (argsL := [(.ref sv), (.int (0 : Int32))]) (rest := []) (lenOf pd__28_5bBI_29C rfl) rfl (by show 2 * 0 + _ ≤ _; exact Nat.le_of_eq rfl) (hb hby d13_12) (fun _ _ => ⟨rfl, e2, (by decide : 0 + 0 ≤ _), (by decide : 0 + 0 ≤ _)⟩)
  dsimp only [Pt.U, Pt.locs, Pt.cells, Pt.slots] at X3 l3 y3 z3 st3 hQ3
  obtain ⟨rfl, N3q, e3⟩ := hQ3
  obtain ⟨lc3, X3, N3⟩ := own_pack X3 l3 y3 z3 N1 N3q (C := 0) (S' := 0) rfl rfl
  refine own_thr (a := T3.setTop (mkF m 15 #[.val (.ref o0), .val (.int (0 : Int32))] [(.int (nar .char ((w0 &&& (255 : Int32)).toUInt32.toUInt16.toUInt32.toInt32)))])) (fun t kt => st3 t kt) ?_
  exact own_end X3 hlk (v := some (.int (nar .char (nar .char ((w0 &&& (255 : Int32)).toUInt32.toUInt16.toUInt32.toInt32))))) (fun h => by rw [Bd.returns] at h; cases h) (fun fs hr => retN X3 hx (t := .char) Bd.returns (by simp) (hb hby d13_15) hr) (by rw [e3]; exact ⟨rfl, N3, rfl⟩) (by decide : 0 ≤ _) (by decide : 0 ≤ _)
theorem ef_rmLC31 (m : MethodId) (o0 : Addr)  : entryFrame m #[(.ref o0), (.int (1 : Int32))] 2 = mkF m 0 #[.val (.ref o0), .val (.int (1 : Int32))] [] := by first |  (simp [entryFrame, mkF, argsToLocals, Value.category]; done) | rfl
def Q_rmLC31 (Z : State) (o0 : Addr) (k0 : ClassId) (w0 : Int32) (w1 : Int32) (w2 : Int32) (fm : Value) (h0 : Heap) (n0 : Nat) (v : Option Value) (h : Heap) (L : List Loc) : Prop := v = some (.int (nar .char ((w1 &&& (255 : Int32)).toUInt32.toUInt16.toUInt32.toInt32))) ∧ Fr n0 L ∧ h = h0
set_option maxRecDepth 65536 in
set_option maxHeartbeats 40000000 in
theorem rmLC31 (l : Launch) (Z : State) (a0 : Array Value) (hw : ∀ d ∈ tables_1, d.before a0 Z = true) (ws : List Jvm.Cond) (o0 : Addr) (k0 : ClassId) (w0 : Int32) (w1 : Int32) (w2 : Int32) (fm : Value) (h0 : Heap) (n0 : Nat) (Z0 : n0 ≤ h0.size) (V_o0 : Arv Z h0 o0 k0 .byte (3 : Int32) [(.int w0), (.int w1), (.int w2)] (.int (0 : Int32))) (S_SIOOBE_FORMATTER : Sta Z h0 "jdk/internal/util/Preconditions" "SIOOBE_FORMATTER" "Ljava/util/function/BiFunction;" fm) (hfm : fm.isRef = true) :
    MetFree l (⟨"java/lang/StringLatin1", "charAt", "([BI)C"⟩ : MethodName) (head1 (Jvm.Cond.code (⟨"java/lang/StringLatin1", "charAt", "([BI)C"⟩ : MethodName) jdk_43_method_2_code 2 (some .char) :: ws) ({ frames := 2, cells := 0, slots := 0, locals := 27 } : Room)) (fun a U => a = #[(.ref o0), (.int (1 : Int32))] ∧ Z.Warmed39 U.vm ∧ U.heap = h0) (fun _ _ _ _ _ => True) (fun _ U o U' => ∃ v L, o = .returned v ∧ Q_rmLC31 Z o0 k0 w0 w1 w2 fm h0 n0 v U'.heap L ∧ FrameEnd U o U' L ({ frames := 2, cells := 0, slots := 0, locals := 27 } : Room).cells ({ frames := 2, cells := 0, slots := 0, locals := 27 } : Room).slots) := by
  refine MetFree.of_bodySF (plainFor_of_name pn_java_lang_StringLatin1) hisR ?_
  intro p e s m args below meth c s₁ Bd hml0 hP hK
  obtain ⟨rfl, hZ, hh⟩ := hP
  have hx := Bd.exec
  have hby := Bd.bytes
  have hml : c.maxLocals = 2 := hml0
  have hown : s.vm.findClass "java/lang/StringLatin1" = some m.cls := findClass_of_methodNamed Bd.named
  have hnm := (name_of_methodNamed Bd.named Bd.method).1
  have hlk := Bd.notSynchronized
  have X0 : Stand p l e ({ frames := 2, cells := 0, slots := 0, locals := 27 } : Room) s m #[(.ref o0), (.int (1 : Int32))] below meth c s₁ [] 0 0 := Stand.of_body Bd
  have e0 : s₁.heap = h0 := by rw [← hh, Bd.state]; rfl
  have N0 := Fr.nil n0
  show own_G p.tables e below s (Q_rmLC31 Z o0 k0 w0 w1 w2 fm h0 n0) ({ frames := 2, cells := 0, slots := 0, locals := 27 } : Room).cells ({ frames := 2, cells := 0, slots := 0, locals := 27 } : Room).slots _
  refine own_thr (a := s₁.setTop (mkF m 0 #[.val (.ref o0), .val (.int (1 : Int32))] [])) (fun t kt => castTop (ef_rmLC31 m o0) kt) ?_
  refine own_thr (a := s₁.setTop (mkF m 2 #[.val (.ref o0), .val (.int (1 : Int32))] [(.ref o0), (.int (1 : Int32))])) (fun t kt => ?_) ?_
  · show Steps p.tables e below (s₁.setTop (mkF m 0 #[.val (.ref o0), .val (.int (1 : Int32))] [])) _
    refine XS.iloadN X0.here hx rfl (hb hby d15_0) rfl ?_
    refine XS.aloadN X0.here hx rfl (hb hby d15_1) rfl rfl ?_
    exact kt
  obtain ⟨cl1, Ar1, -, S1, M1, -, -⟩ := id V_o0
  refine own_thr (a := s₁.setTop (mkF m 3 #[.val (.ref o0), .val (.int (1 : Int32))] [(.int (3 : Int32)), (.int (1 : Int32))])) (fun t kt => ?_) ?_
  · show Steps p.tables e below (s₁.setTop (mkF m 2 #[.val (.ref o0), .val (.int (1 : Int32))] [(.ref o0), (.int (1 : Int32))])) _
    refine X0.arraylength hx (by rw [e0]; exact Ar1.1) (State.isArrayOf_alike hZ.alike Ar1.2.1) (g := (mkF m 2 #[.val (.ref o0), .val (.int (1 : Int32))] [(.ref o0), (.int (1 : Int32))])) rfl rfl (hb hby d15_2) _ ?_
    rw [len_of S1 M1]
    exact kt
  obtain ⟨_, _, ⟨T2, L2, k2, n2⟩, -, X2, ⟨Lc2, hQ2, l2, y2, z2⟩, st2⟩ := Jvm.LawKit.callS X0 hx (y := (⟨"java/lang/String", "checkIndex", "(II)V"⟩ : MethodName)) hown (mvT hZ (hw _ (List.mem_of_getElem? (i := 77) rfl))) (mvT hZ (hw _ (List.mem_of_getElem? (i := 78) rfl))) (mvT hZ (hw _ (List.mem_of_getElem? (i := 7) rfl))) (mvT hZ (hw _ (List.mem_of_getElem? (i := 79) rfl))) (by decide) (backOf (W := 0) (rmCI l Z a0 hw [] (1 : Int32) (3 : Int32) fm h0 n0 Z0 S_SIOOBE_FORMATTER hfm (by decide) (by decide)) hZ (hw _ (List.mem_of_getElem? (i := 79) rfl)) (hw _ (List.mem_of_getElem? (i := 7) rfl)) (by decide) (by decide)) (g := (mkF m 3 #[.val (.ref o0), .val (.int (1 : Int32))] [(.int (3 : Int32)), (.int (1 : Int32))])) rfl (by rw [hml]; rfl) (argsL := [(.int (1 : Int32)), (.int (3 : Int32))]) (rest := []) (lenOf pd__28II_29V rfl) rfl (by show 2 * 0 + _ ≤ _; exact Nat.le_of_eq rfl) (hb hby d15_3) (fun _ _ => ⟨rfl, e0, (by decide : 0 + 0 ≤ _), (by decide : 0 + 0 ≤ _)⟩)
  dsimp only [Pt.U, Pt.locs, Pt.cells, Pt.slots] at X2 l2 y2 z2 st2 hQ2
  obtain ⟨rfl, N2q, e2⟩ := hQ2
  obtain ⟨lc2, X2, N2⟩ := own_pack X2 l2 y2 z2 N0 N2q (C := 0) (S' := 0) rfl rfl
  refine own_thr (a := T2.setTop (mkF m 6 #[.val (.ref o0), .val (.int (1 : Int32))] [])) (fun t kt => st2 t kt) ?_
  refine own_thr (a := T2.setTop (mkF m 8 #[.val (.ref o0), .val (.int (1 : Int32))] [(.int (1 : Int32)), (.ref o0)])) (fun t kt => ?_) ?_
  · show Steps p.tables e below (T2.setTop (mkF m 6 #[.val (.ref o0), .val (.int (1 : Int32))] [])) _
    refine XS.aloadN X2.here hx rfl (hb hby d15_6) rfl rfl ?_
    refine XS.iloadN X2.here hx rfl (hb hby d15_7) rfl ?_
    exact kt
  obtain ⟨cl3, Ar3, -, S3, M3, H3, -⟩ := id V_o0
  have hin3 : ¬ ((1 : Int32) < 0 ∨ cl3.slots.size ≤ ((1 : Int32)).toNatClampNeg) := inb_of S3 ⟨by decide, by decide⟩
  have hat3 : cl3.slots[((1 : Int32)).toNatClampNeg]? = some (.int w1) := Has.at H3 hin3 rfl
  refine own_thr (a := T2.setTop (mkF m 14 #[.val (.ref o0), .val (.int (1 : Int32))] [(.int ((w1 &&& (255 : Int32)).toUInt32.toUInt16.toUInt32.toInt32))])) (fun t kt => ?_) ?_
  · show Steps p.tables e below (T2.setTop (mkF m 8 #[.val (.ref o0), .val (.int (1 : Int32))] [(.int (1 : Int32)), (.ref o0)])) _
    refine X2.baloadBytes hx (j := (1 : Int32)) (v := (.int w1)) (by rw [e2]; exact Ar3.1) (State.isArrayOf_alike hZ.alike Ar3.2.1) Ar3.2.2 hin3 hat3 (g := (mkF m 8 #[.val (.ref o0), .val (.int (1 : Int32))] [(.int (1 : Int32)), (.ref o0)])) rfl rfl (hb hby d15_8) _ ?_
    refine XS.sipush X2.here hx rfl (hb hby d15_9) ?_
    refine XS.iand X2.here hx rfl (hb hby d15_12) rfl ?_
    refine XS.i2c X2.here hx rfl (hb hby d15_13) rfl ?_
    exact kt
  exact own_end X2 hlk (v := some (.int (nar .char ((w1 &&& (255 : Int32)).toUInt32.toUInt16.toUInt32.toInt32)))) (fun h => by rw [Bd.returns] at h; cases h) (fun fs hr => retN X2 hx (t := .char) Bd.returns (by simp) (hb hby d15_14) hr) (by rw [e2]; exact ⟨rfl, N2, rfl⟩) (by decide : 0 ≤ _) (by decide : 0 ≤ _)
theorem ef_rmCA31 (m : MethodId) (o0 : Addr)  : entryFrame m #[(.ref o0), (.int (1 : Int32))] 2 = mkF m 0 #[.val (.ref o0), .val (.int (1 : Int32))] [] := by first |  (simp [entryFrame, mkF, argsToLocals, Value.category]; done) | rfl
def Q_rmCA31 (Z : State) (o0 : Addr) (sv : Addr) (ks : ClassId) (w0 : Int32) (w1 : Int32) (w2 : Int32) (cs : Int32) (fm : Value) (h0 : Heap) (n0 : Nat) (v : Option Value) (h : Heap) (L : List Loc) : Prop := v = some (.int (nar .char (nar .char ((w1 &&& (255 : Int32)).toUInt32.toUInt16.toUInt32.toInt32)))) ∧ Fr n0 L ∧ h = h0
set_option maxRecDepth 65536 in
set_option maxHeartbeats 40000000 in
theorem rmCA31 (l : Launch) (Z : State) (a0 : Array Value) (hw : ∀ d ∈ tables_1, d.before a0 Z = true) (ws : List Jvm.Cond) (o0 : Addr) (sv : Addr) (ks : ClassId) (w0 : Int32) (w1 : Int32) (w2 : Int32) (cs : Int32) (fm : Value) (h0 : Heap) (n0 : Nat) (Z0 : n0 ≤ h0.size) (E_o0 : Exa Z h0 o0 "java/lang/String") (F_value_o0 : Fld Z h0 o0 "java/lang/String" "value" "[B" (.ref sv)) (F_coder_o0 : Fld Z h0 o0 "java/lang/String" "coder" "B" (.int (0 : Int32))) (V_sv : Arv Z h0 sv ks .byte (3 : Int32) [(.int w0), (.int w1), (.int w2)] (.int (0 : Int32))) (S_COMPACT_STRINGS : Sta Z h0 "java/lang/String" "COMPACT_STRINGS" "Z" (.int cs)) (S_SIOOBE_FORMATTER : Sta Z h0 "jdk/internal/util/Preconditions" "SIOOBE_FORMATTER" "Ljava/util/function/BiFunction;" fm) (hcs : ¬ cs = (0 : Int32)) (hfm : fm.isRef = true) :
    MetFree l (⟨"java/lang/String", "charAt", "(I)C"⟩ : MethodName) (head1 (Jvm.Cond.code (⟨"java/lang/String", "charAt", "(I)C"⟩ : MethodName) jdk_42_method_56_code 2 (some .char) :: ws) ({ frames := 3, cells := 0, slots := 0, locals := 40 } : Room)) (fun a U => a = #[(.ref o0), (.int (1 : Int32))] ∧ Z.Warmed39 U.vm ∧ U.heap = h0) (fun _ _ _ _ _ => True) (fun _ U o U' => ∃ v L, o = .returned v ∧ Q_rmCA31 Z o0 sv ks w0 w1 w2 cs fm h0 n0 v U'.heap L ∧ FrameEnd U o U' L ({ frames := 3, cells := 0, slots := 0, locals := 40 } : Room).cells ({ frames := 3, cells := 0, slots := 0, locals := 40 } : Room).slots) := by
  refine MetFree.of_bodySF (plainFor_of_name pn_java_lang_String) hisR ?_
  intro p e s m args below meth c s₁ Bd hml0 hP hK
  obtain ⟨rfl, hZ, hh⟩ := hP
  have hx := Bd.exec
  have hby := Bd.bytes
  have hml : c.maxLocals = 2 := hml0
  have hown : s.vm.findClass "java/lang/String" = some m.cls := findClass_of_methodNamed Bd.named
  have hnm := (name_of_methodNamed Bd.named Bd.method).1
  have hlk := Bd.notSynchronized
  have X0 : Stand p l e ({ frames := 3, cells := 0, slots := 0, locals := 40 } : Room) s m #[(.ref o0), (.int (1 : Int32))] below meth c s₁ [] 0 0 := Stand.of_body Bd
  have e0 : s₁.heap = h0 := by rw [← hh, Bd.state]; rfl
  have N0 := Fr.nil n0
  show own_G p.tables e below s (Q_rmCA31 Z o0 sv ks w0 w1 w2 cs fm h0 n0) ({ frames := 3, cells := 0, slots := 0, locals := 40 } : Room).cells ({ frames := 3, cells := 0, slots := 0, locals := 40 } : Room).slots _
  refine own_thr (a := s₁.setTop (mkF m 0 #[.val (.ref o0), .val (.int (1 : Int32))] [])) (fun t kt => castTop (ef_rmCA31 m o0) kt) ?_
  refine own_thr (a := s₁.setTop (mkF m 1 #[.val (.ref o0), .val (.int (1 : Int32))] [(.ref o0)])) (fun t kt => ?_) ?_
  · show Steps p.tables e below (s₁.setTop (mkF m 0 #[.val (.ref o0), .val (.int (1 : Int32))] [])) _
    refine XS.aloadN X0.here hx rfl (hb hby d13_0) rfl rfl ?_
    exact kt
  obtain ⟨cq1, kq1, q1a, q1b, q1c⟩ := isOf hZ e0 E_o0
  obtain ⟨_, _, ⟨T1, L1, k1, n1⟩, -, X1, ⟨Lc1, hQ1, l1, y1, z1⟩, st1⟩ := X0.virtualBack hx (y := (⟨"java/lang/String", "isLatin1", "()Z"⟩ : MethodName)) (z := (⟨"java/lang/String", "isLatin1", "()Z"⟩ : MethodName)) hown (mvT hZ (hw _ (List.mem_of_getElem? (i := 69) rfl))) (mvT hZ (hw _ (List.mem_of_getElem? (i := 70) rfl))) (notFace_of_selects (args := #[]) (mvT hZ (hw _ (List.mem_of_getElem? (i := 72) rfl)))) (mvT hZ (hw _ (List.mem_of_getElem? (i := 72) rfl))) (mvT hZ (hw _ (List.mem_of_getElem? (i := 71) rfl))) (by decide) (backOf (W := 0) (rmIL l Z a0 hw [] o0 cs h0 n0 Z0 E_o0 F_coder_o0 S_COMPACT_STRINGS hcs) hZ (hw _ (List.mem_of_getElem? (i := 73) rfl)) (hw _ (List.mem_of_getElem? (i := 7) rfl)) (by decide) (by decide)) q1a q1c (g := (mkF m 1 #[.val (.ref o0), .val (.int (1 : Int32))] [(.ref o0)])) rfl (by rw [hml]; rfl) (Steps.refl _) (argsL := []) (rest := []) (lenOf pd__28_29Z rfl) rfl (by show 2 * 0 + _ ≤ _; exact Nat.le_of_eq rfl) (hb hby d13_1) (fun _ _ => ⟨rfl, e0, (by decide : 0 + 0 ≤ _), (by decide : 0 + 0 ≤ _)⟩)
  dsimp only [Pt.U, Pt.locs, Pt.cells, Pt.slots] at X1 l1 y1 z1 st1 hQ1
  obtain ⟨rfl, N1q, e1⟩ := hQ1
  obtain ⟨lc1, X1, N1⟩ := own_pack X1 l1 y1 z1 N0 N1q (C := 0) (S' := 0) rfl rfl
  refine own_thr (a := T1.setTop (mkF m 4 #[.val (.ref o0), .val (.int (1 : Int32))] [(.int (1 : Int32))])) (fun t kt => st1.trans kt) ?_
  refine own_thr (a := T1.setTop (mkF m 8 #[.val (.ref o0), .val (.int (1 : Int32))] [(.ref o0)])) (fun t kt => ?_) ?_
  · show Steps p.tables e below (T1.setTop (mkF m 4 #[.val (.ref o0), .val (.int (1 : Int32))] [(.int (1 : Int32))])) _
    refine XS.ifNo X1.here hx rfl (hb hby d13_4) rfl ((if0 _ _).trans (feq (by decide)).1) ?_
    refine XS.aloadN X1.here hx rfl (hb hby d13_7) rfl rfl ?_
    exact kt
  obtain ⟨T2, X2, e2, st2⟩ := getF X1 hx hZ hown (host := "") (Or.inl (hw _ (List.mem_of_getElem? (i := 27) rfl))) Via.refl e1 F_value_o0 (g := (mkF m 8 #[.val (.ref o0), .val (.int (1 : Int32))] [(.ref o0)])) rfl rfl (hb hby d13_8)
  refine own_thr (a := T2.setTop (mkF m 11 #[.val (.ref o0), .val (.int (1 : Int32))] [(.ref sv)])) (fun t kt => st2 t kt) ?_
  refine own_thr (a := T2.setTop (mkF m 12 #[.val (.ref o0), .val (.int (1 : Int32))] [(.int (1 : Int32)), (.ref sv)])) (fun t kt => ?_) ?_
  · show Steps p.tables e below (T2.setTop (mkF m 11 #[.val (.ref o0), .val (.int (1 : Int32))] [(.ref sv)])) _
    refine XS.iloadN X2.here hx rfl (hb hby d13_11) rfl ?_
    exact kt
  obtain ⟨_, _, ⟨T3, L3, k3, n3⟩, -, X3, ⟨Lc3, hQ3, l3, y3, z3⟩, st3⟩ := Jvm.LawKit.callS X2 hx (y := (⟨"java/lang/StringLatin1", "charAt", "([BI)C"⟩ : MethodName)) hown (mvT hZ (hw _ (List.mem_of_getElem? (i := 74) rfl))) (mvT hZ (hw _ (List.mem_of_getElem? (i := 75) rfl))) (mvT hZ (hw _ (List.mem_of_getElem? (i := 12) rfl))) (mvT hZ (hw _ (List.mem_of_getElem? (i := 76) rfl))) (by decide) (backOf (W := 0) (rmLC31 l Z a0 hw [] sv ks w0 w1 w2 fm h0 n0 Z0 V_sv S_SIOOBE_FORMATTER hfm) hZ (hw _ (List.mem_of_getElem? (i := 76) rfl)) (hw _ (List.mem_of_getElem? (i := 12) rfl)) (by decide) (by decide)) (g := (mkF m 12 #[.val (.ref o0), .val (.int (1 : Int32))] [(.int (1 : Int32)), (.ref sv)])) rfl (by rw [hml]; rfl) (argsL := [(.ref sv), (.int (1 : Int32))]) (rest := []) (lenOf pd__28_5bBI_29C rfl) rfl (by show 2 * 0 + _ ≤ _; exact Nat.le_of_eq rfl) (hb hby d13_12) (fun _ _ => ⟨rfl, e2, (by decide : 0 + 0 ≤ _), (by decide : 0 + 0 ≤ _)⟩)
  dsimp only [Pt.U, Pt.locs, Pt.cells, Pt.slots] at X3 l3 y3 z3 st3 hQ3
  obtain ⟨rfl, N3q, e3⟩ := hQ3
  obtain ⟨lc3, X3, N3⟩ := own_pack X3 l3 y3 z3 N1 N3q (C := 0) (S' := 0) rfl rfl
  refine own_thr (a := T3.setTop (mkF m 15 #[.val (.ref o0), .val (.int (1 : Int32))] [(.int (nar .char ((w1 &&& (255 : Int32)).toUInt32.toUInt16.toUInt32.toInt32)))])) (fun t kt => st3 t kt) ?_
  exact own_end X3 hlk (v := some (.int (nar .char (nar .char ((w1 &&& (255 : Int32)).toUInt32.toUInt16.toUInt32.toInt32))))) (fun h => by rw [Bd.returns] at h; cases h) (fun fs hr => retN X3 hx (t := .char) Bd.returns (by simp) (hb hby d13_15) hr) (by rw [e3]; exact ⟨rfl, N3, rfl⟩) (by decide : 0 ≤ _) (by decide : 0 ≤ _)
theorem ef_rmLC32 (m : MethodId) (o0 : Addr)  : entryFrame m #[(.ref o0), (.int (2 : Int32))] 2 = mkF m 0 #[.val (.ref o0), .val (.int (2 : Int32))] [] := by first |  (simp [entryFrame, mkF, argsToLocals, Value.category]; done) | rfl
def Q_rmLC32 (Z : State) (o0 : Addr) (k0 : ClassId) (w0 : Int32) (w1 : Int32) (w2 : Int32) (fm : Value) (h0 : Heap) (n0 : Nat) (v : Option Value) (h : Heap) (L : List Loc) : Prop := v = some (.int (nar .char ((w2 &&& (255 : Int32)).toUInt32.toUInt16.toUInt32.toInt32))) ∧ Fr n0 L ∧ h = h0
set_option maxRecDepth 65536 in
set_option maxHeartbeats 40000000 in
theorem rmLC32 (l : Launch) (Z : State) (a0 : Array Value) (hw : ∀ d ∈ tables_1, d.before a0 Z = true) (ws : List Jvm.Cond) (o0 : Addr) (k0 : ClassId) (w0 : Int32) (w1 : Int32) (w2 : Int32) (fm : Value) (h0 : Heap) (n0 : Nat) (Z0 : n0 ≤ h0.size) (V_o0 : Arv Z h0 o0 k0 .byte (3 : Int32) [(.int w0), (.int w1), (.int w2)] (.int (0 : Int32))) (S_SIOOBE_FORMATTER : Sta Z h0 "jdk/internal/util/Preconditions" "SIOOBE_FORMATTER" "Ljava/util/function/BiFunction;" fm) (hfm : fm.isRef = true) :
    MetFree l (⟨"java/lang/StringLatin1", "charAt", "([BI)C"⟩ : MethodName) (head1 (Jvm.Cond.code (⟨"java/lang/StringLatin1", "charAt", "([BI)C"⟩ : MethodName) jdk_43_method_2_code 2 (some .char) :: ws) ({ frames := 2, cells := 0, slots := 0, locals := 27 } : Room)) (fun a U => a = #[(.ref o0), (.int (2 : Int32))] ∧ Z.Warmed39 U.vm ∧ U.heap = h0) (fun _ _ _ _ _ => True) (fun _ U o U' => ∃ v L, o = .returned v ∧ Q_rmLC32 Z o0 k0 w0 w1 w2 fm h0 n0 v U'.heap L ∧ FrameEnd U o U' L ({ frames := 2, cells := 0, slots := 0, locals := 27 } : Room).cells ({ frames := 2, cells := 0, slots := 0, locals := 27 } : Room).slots) := by
  refine MetFree.of_bodySF (plainFor_of_name pn_java_lang_StringLatin1) hisR ?_
  intro p e s m args below meth c s₁ Bd hml0 hP hK
  obtain ⟨rfl, hZ, hh⟩ := hP
  have hx := Bd.exec
  have hby := Bd.bytes
  have hml : c.maxLocals = 2 := hml0
  have hown : s.vm.findClass "java/lang/StringLatin1" = some m.cls := findClass_of_methodNamed Bd.named
  have hnm := (name_of_methodNamed Bd.named Bd.method).1
  have hlk := Bd.notSynchronized
  have X0 : Stand p l e ({ frames := 2, cells := 0, slots := 0, locals := 27 } : Room) s m #[(.ref o0), (.int (2 : Int32))] below meth c s₁ [] 0 0 := Stand.of_body Bd
  have e0 : s₁.heap = h0 := by rw [← hh, Bd.state]; rfl
  have N0 := Fr.nil n0
  show own_G p.tables e below s (Q_rmLC32 Z o0 k0 w0 w1 w2 fm h0 n0) ({ frames := 2, cells := 0, slots := 0, locals := 27 } : Room).cells ({ frames := 2, cells := 0, slots := 0, locals := 27 } : Room).slots _
  refine own_thr (a := s₁.setTop (mkF m 0 #[.val (.ref o0), .val (.int (2 : Int32))] [])) (fun t kt => castTop (ef_rmLC32 m o0) kt) ?_
  refine own_thr (a := s₁.setTop (mkF m 2 #[.val (.ref o0), .val (.int (2 : Int32))] [(.ref o0), (.int (2 : Int32))])) (fun t kt => ?_) ?_
  · show Steps p.tables e below (s₁.setTop (mkF m 0 #[.val (.ref o0), .val (.int (2 : Int32))] [])) _
    refine XS.iloadN X0.here hx rfl (hb hby d15_0) rfl ?_
    refine XS.aloadN X0.here hx rfl (hb hby d15_1) rfl rfl ?_
    exact kt
  obtain ⟨cl1, Ar1, -, S1, M1, -, -⟩ := id V_o0
  refine own_thr (a := s₁.setTop (mkF m 3 #[.val (.ref o0), .val (.int (2 : Int32))] [(.int (3 : Int32)), (.int (2 : Int32))])) (fun t kt => ?_) ?_
  · show Steps p.tables e below (s₁.setTop (mkF m 2 #[.val (.ref o0), .val (.int (2 : Int32))] [(.ref o0), (.int (2 : Int32))])) _
    refine X0.arraylength hx (by rw [e0]; exact Ar1.1) (State.isArrayOf_alike hZ.alike Ar1.2.1) (g := (mkF m 2 #[.val (.ref o0), .val (.int (2 : Int32))] [(.ref o0), (.int (2 : Int32))])) rfl rfl (hb hby d15_2) _ ?_
    rw [len_of S1 M1]
    exact kt
  obtain ⟨_, _, ⟨T2, L2, k2, n2⟩, -, X2, ⟨Lc2, hQ2, l2, y2, z2⟩, st2⟩ := Jvm.LawKit.callS X0 hx (y := (⟨"java/lang/String", "checkIndex", "(II)V"⟩ : MethodName)) hown (mvT hZ (hw _ (List.mem_of_getElem? (i := 77) rfl))) (mvT hZ (hw _ (List.mem_of_getElem? (i := 78) rfl))) (mvT hZ (hw _ (List.mem_of_getElem? (i := 7) rfl))) (mvT hZ (hw _ (List.mem_of_getElem? (i := 79) rfl))) (by decide) (backOf (W := 0) (rmCI l Z a0 hw [] (2 : Int32) (3 : Int32) fm h0 n0 Z0 S_SIOOBE_FORMATTER hfm (by decide) (by decide)) hZ (hw _ (List.mem_of_getElem? (i := 79) rfl)) (hw _ (List.mem_of_getElem? (i := 7) rfl)) (by decide) (by decide)) (g := (mkF m 3 #[.val (.ref o0), .val (.int (2 : Int32))] [(.int (3 : Int32)), (.int (2 : Int32))])) rfl (by rw [hml]; rfl) (argsL := [(.int (2 : Int32)), (.int (3 : Int32))]) (rest := []) (lenOf pd__28II_29V rfl) rfl (by show 2 * 0 + _ ≤ _; exact Nat.le_of_eq rfl) (hb hby d15_3) (fun _ _ => ⟨rfl, e0, (by decide : 0 + 0 ≤ _), (by decide : 0 + 0 ≤ _)⟩)
  dsimp only [Pt.U, Pt.locs, Pt.cells, Pt.slots] at X2 l2 y2 z2 st2 hQ2
  obtain ⟨rfl, N2q, e2⟩ := hQ2
  obtain ⟨lc2, X2, N2⟩ := own_pack X2 l2 y2 z2 N0 N2q (C := 0) (S' := 0) rfl rfl
  refine own_thr (a := T2.setTop (mkF m 6 #[.val (.ref o0), .val (.int (2 : Int32))] [])) (fun t kt => st2 t kt) ?_
  refine own_thr (a := T2.setTop (mkF m 8 #[.val (.ref o0), .val (.int (2 : Int32))] [(.int (2 : Int32)), (.ref o0)])) (fun t kt => ?_) ?_
  · show Steps p.tables e below (T2.setTop (mkF m 6 #[.val (.ref o0), .val (.int (2 : Int32))] [])) _
    refine XS.aloadN X2.here hx rfl (hb hby d15_6) rfl rfl ?_
    refine XS.iloadN X2.here hx rfl (hb hby d15_7) rfl ?_
    exact kt
  obtain ⟨cl3, Ar3, -, S3, M3, H3, -⟩ := id V_o0
  have hin3 : ¬ ((2 : Int32) < 0 ∨ cl3.slots.size ≤ ((2 : Int32)).toNatClampNeg) := inb_of S3 ⟨by decide, by decide⟩
  have hat3 : cl3.slots[((2 : Int32)).toNatClampNeg]? = some (.int w2) := Has.at H3 hin3 rfl
  refine own_thr (a := T2.setTop (mkF m 14 #[.val (.ref o0), .val (.int (2 : Int32))] [(.int ((w2 &&& (255 : Int32)).toUInt32.toUInt16.toUInt32.toInt32))])) (fun t kt => ?_) ?_
  · show Steps p.tables e below (T2.setTop (mkF m 8 #[.val (.ref o0), .val (.int (2 : Int32))] [(.int (2 : Int32)), (.ref o0)])) _
    refine X2.baloadBytes hx (j := (2 : Int32)) (v := (.int w2)) (by rw [e2]; exact Ar3.1) (State.isArrayOf_alike hZ.alike Ar3.2.1) Ar3.2.2 hin3 hat3 (g := (mkF m 8 #[.val (.ref o0), .val (.int (2 : Int32))] [(.int (2 : Int32)), (.ref o0)])) rfl rfl (hb hby d15_8) _ ?_
    refine XS.sipush X2.here hx rfl (hb hby d15_9) ?_
    refine XS.iand X2.here hx rfl (hb hby d15_12) rfl ?_
    refine XS.i2c X2.here hx rfl (hb hby d15_13) rfl ?_
    exact kt
  exact own_end X2 hlk (v := some (.int (nar .char ((w2 &&& (255 : Int32)).toUInt32.toUInt16.toUInt32.toInt32)))) (fun h => by rw [Bd.returns] at h; cases h) (fun fs hr => retN X2 hx (t := .char) Bd.returns (by simp) (hb hby d15_14) hr) (by rw [e2]; exact ⟨rfl, N2, rfl⟩) (by decide : 0 ≤ _) (by decide : 0 ≤ _)
theorem ef_rmCA32 (m : MethodId) (o0 : Addr)  : entryFrame m #[(.ref o0), (.int (2 : Int32))] 2 = mkF m 0 #[.val (.ref o0), .val (.int (2 : Int32))] [] := by first |  (simp [entryFrame, mkF, argsToLocals, Value.category]; done) | rfl
def Q_rmCA32 (Z : State) (o0 : Addr) (sv : Addr) (ks : ClassId) (w0 : Int32) (w1 : Int32) (w2 : Int32) (cs : Int32) (fm : Value) (h0 : Heap) (n0 : Nat) (v : Option Value) (h : Heap) (L : List Loc) : Prop := v = some (.int (nar .char (nar .char ((w2 &&& (255 : Int32)).toUInt32.toUInt16.toUInt32.toInt32)))) ∧ Fr n0 L ∧ h = h0
set_option maxRecDepth 65536 in
set_option maxHeartbeats 40000000 in
theorem rmCA32 (l : Launch) (Z : State) (a0 : Array Value) (hw : ∀ d ∈ tables_1, d.before a0 Z = true) (ws : List Jvm.Cond) (o0 : Addr) (sv : Addr) (ks : ClassId) (w0 : Int32) (w1 : Int32) (w2 : Int32) (cs : Int32) (fm : Value) (h0 : Heap) (n0 : Nat) (Z0 : n0 ≤ h0.size) (E_o0 : Exa Z h0 o0 "java/lang/String") (F_value_o0 : Fld Z h0 o0 "java/lang/String" "value" "[B" (.ref sv)) (F_coder_o0 : Fld Z h0 o0 "java/lang/String" "coder" "B" (.int (0 : Int32))) (V_sv : Arv Z h0 sv ks .byte (3 : Int32) [(.int w0), (.int w1), (.int w2)] (.int (0 : Int32))) (S_COMPACT_STRINGS : Sta Z h0 "java/lang/String" "COMPACT_STRINGS" "Z" (.int cs)) (S_SIOOBE_FORMATTER : Sta Z h0 "jdk/internal/util/Preconditions" "SIOOBE_FORMATTER" "Ljava/util/function/BiFunction;" fm) (hcs : ¬ cs = (0 : Int32)) (hfm : fm.isRef = true) :
    MetFree l (⟨"java/lang/String", "charAt", "(I)C"⟩ : MethodName) (head1 (Jvm.Cond.code (⟨"java/lang/String", "charAt", "(I)C"⟩ : MethodName) jdk_42_method_56_code 2 (some .char) :: ws) ({ frames := 3, cells := 0, slots := 0, locals := 40 } : Room)) (fun a U => a = #[(.ref o0), (.int (2 : Int32))] ∧ Z.Warmed39 U.vm ∧ U.heap = h0) (fun _ _ _ _ _ => True) (fun _ U o U' => ∃ v L, o = .returned v ∧ Q_rmCA32 Z o0 sv ks w0 w1 w2 cs fm h0 n0 v U'.heap L ∧ FrameEnd U o U' L ({ frames := 3, cells := 0, slots := 0, locals := 40 } : Room).cells ({ frames := 3, cells := 0, slots := 0, locals := 40 } : Room).slots) := by
  refine MetFree.of_bodySF (plainFor_of_name pn_java_lang_String) hisR ?_
  intro p e s m args below meth c s₁ Bd hml0 hP hK
  obtain ⟨rfl, hZ, hh⟩ := hP
  have hx := Bd.exec
  have hby := Bd.bytes
  have hml : c.maxLocals = 2 := hml0
  have hown : s.vm.findClass "java/lang/String" = some m.cls := findClass_of_methodNamed Bd.named
  have hnm := (name_of_methodNamed Bd.named Bd.method).1
  have hlk := Bd.notSynchronized
  have X0 : Stand p l e ({ frames := 3, cells := 0, slots := 0, locals := 40 } : Room) s m #[(.ref o0), (.int (2 : Int32))] below meth c s₁ [] 0 0 := Stand.of_body Bd
  have e0 : s₁.heap = h0 := by rw [← hh, Bd.state]; rfl
  have N0 := Fr.nil n0
  show own_G p.tables e below s (Q_rmCA32 Z o0 sv ks w0 w1 w2 cs fm h0 n0) ({ frames := 3, cells := 0, slots := 0, locals := 40 } : Room).cells ({ frames := 3, cells := 0, slots := 0, locals := 40 } : Room).slots _
  refine own_thr (a := s₁.setTop (mkF m 0 #[.val (.ref o0), .val (.int (2 : Int32))] [])) (fun t kt => castTop (ef_rmCA32 m o0) kt) ?_
  refine own_thr (a := s₁.setTop (mkF m 1 #[.val (.ref o0), .val (.int (2 : Int32))] [(.ref o0)])) (fun t kt => ?_) ?_
  · show Steps p.tables e below (s₁.setTop (mkF m 0 #[.val (.ref o0), .val (.int (2 : Int32))] [])) _
    refine XS.aloadN X0.here hx rfl (hb hby d13_0) rfl rfl ?_
    exact kt
  obtain ⟨cq1, kq1, q1a, q1b, q1c⟩ := isOf hZ e0 E_o0
  obtain ⟨_, _, ⟨T1, L1, k1, n1⟩, -, X1, ⟨Lc1, hQ1, l1, y1, z1⟩, st1⟩ := X0.virtualBack hx (y := (⟨"java/lang/String", "isLatin1", "()Z"⟩ : MethodName)) (z := (⟨"java/lang/String", "isLatin1", "()Z"⟩ : MethodName)) hown (mvT hZ (hw _ (List.mem_of_getElem? (i := 69) rfl))) (mvT hZ (hw _ (List.mem_of_getElem? (i := 70) rfl))) (notFace_of_selects (args := #[]) (mvT hZ (hw _ (List.mem_of_getElem? (i := 72) rfl)))) (mvT hZ (hw _ (List.mem_of_getElem? (i := 72) rfl))) (mvT hZ (hw _ (List.mem_of_getElem? (i := 71) rfl))) (by decide) (backOf (W := 0) (rmIL l Z a0 hw [] o0 cs h0 n0 Z0 E_o0 F_coder_o0 S_COMPACT_STRINGS hcs) hZ (hw _ (List.mem_of_getElem? (i := 73) rfl)) (hw _ (List.mem_of_getElem? (i := 7) rfl)) (by decide) (by decide)) q1a q1c (g := (mkF m 1 #[.val (.ref o0), .val (.int (2 : Int32))] [(.ref o0)])) rfl (by rw [hml]; rfl) (Steps.refl _) (argsL := []) (rest := []) (lenOf pd__28_29Z rfl) rfl (by show 2 * 0 + _ ≤ _; exact Nat.le_of_eq rfl) (hb hby d13_1) (fun _ _ => ⟨rfl, e0, (by decide : 0 + 0 ≤ _), (by decide : 0 + 0 ≤ _)⟩)
  dsimp only [Pt.U, Pt.locs, Pt.cells, Pt.slots] at X1 l1 y1 z1 st1 hQ1
  obtain ⟨rfl, N1q, e1⟩ := hQ1
  obtain ⟨lc1, X1, N1⟩ := own_pack X1 l1 y1 z1 N0 N1q (C := 0) (S' := 0) rfl rfl
  refine own_thr (a := T1.setTop (mkF m 4 #[.val (.ref o0), .val (.int (2 : Int32))] [(.int (1 : Int32))])) (fun t kt => st1.trans kt) ?_
  refine own_thr (a := T1.setTop (mkF m 8 #[.val (.ref o0), .val (.int (2 : Int32))] [(.ref o0)])) (fun t kt => ?_) ?_
  · show Steps p.tables e below (T1.setTop (mkF m 4 #[.val (.ref o0), .val (.int (2 : Int32))] [(.int (1 : Int32))])) _
    refine XS.ifNo X1.here hx rfl (hb hby d13_4) rfl ((if0 _ _).trans (feq (by decide)).1) ?_
    refine XS.aloadN X1.here hx rfl (hb hby d13_7) rfl rfl ?_
    exact kt
  obtain ⟨T2, X2, e2, st2⟩ := getF X1 hx hZ hown (host := "") (Or.inl (hw _ (List.mem_of_getElem? (i := 27) rfl))) Via.refl e1 F_value_o0 (g := (mkF m 8 #[.val (.ref o0), .val (.int (2 : Int32))] [(.ref o0)])) rfl rfl (hb hby d13_8)
  refine own_thr (a := T2.setTop (mkF m 11 #[.val (.ref o0), .val (.int (2 : Int32))] [(.ref sv)])) (fun t kt => st2 t kt) ?_
  refine own_thr (a := T2.setTop (mkF m 12 #[.val (.ref o0), .val (.int (2 : Int32))] [(.int (2 : Int32)), (.ref sv)])) (fun t kt => ?_) ?_
  · show Steps p.tables e below (T2.setTop (mkF m 11 #[.val (.ref o0), .val (.int (2 : Int32))] [(.ref sv)])) _
    refine XS.iloadN X2.here hx rfl (hb hby d13_11) rfl ?_
    exact kt
  obtain ⟨_, _, ⟨T3, L3, k3, n3⟩, -, X3, ⟨Lc3, hQ3, l3, y3, z3⟩, st3⟩ := Jvm.LawKit.callS X2 hx (y := (⟨"java/lang/StringLatin1", "charAt", "([BI)C"⟩ : MethodName)) hown (mvT hZ (hw _ (List.mem_of_getElem? (i := 74) rfl))) (mvT hZ (hw _ (List.mem_of_getElem? (i := 75) rfl))) (mvT hZ (hw _ (List.mem_of_getElem? (i := 12) rfl))) (mvT hZ (hw _ (List.mem_of_getElem? (i := 76) rfl))) (by decide) (backOf (W := 0) (rmLC32 l Z a0 hw [] sv ks w0 w1 w2 fm h0 n0 Z0 V_sv S_SIOOBE_FORMATTER hfm) hZ (hw _ (List.mem_of_getElem? (i := 76) rfl)) (hw _ (List.mem_of_getElem? (i := 12) rfl)) (by decide) (by decide)) (g := (mkF m 12 #[.val (.ref o0), .val (.int (2 : Int32))] [(.int (2 : Int32)), (.ref sv)])) rfl (by rw [hml]; rfl) (argsL := [(.ref sv), (.int (2 : Int32))]) (rest := []) (lenOf pd__28_5bBI_29C rfl) rfl (by show 2 * 0 + _ ≤ _; exact Nat.le_of_eq rfl) (hb hby d13_12) (fun _ _ => ⟨rfl, e2, (by decide : 0 + 0 ≤ _), (by decide : 0 + 0 ≤ _)⟩)
  dsimp only [Pt.U, Pt.locs, Pt.cells, Pt.slots] at X3 l3 y3 z3 st3 hQ3
  obtain ⟨rfl, N3q, e3⟩ := hQ3
  obtain ⟨lc3, X3, N3⟩ := own_pack X3 l3 y3 z3 N1 N3q (C := 0) (S' := 0) rfl rfl
  refine own_thr (a := T3.setTop (mkF m 15 #[.val (.ref o0), .val (.int (2 : Int32))] [(.int (nar .char ((w2 &&& (255 : Int32)).toUInt32.toUInt16.toUInt32.toInt32)))])) (fun t kt => st3 t kt) ?_
  exact own_end X3 hlk (v := some (.int (nar .char (nar .char ((w2 &&& (255 : Int32)).toUInt32.toUInt16.toUInt32.toInt32))))) (fun h => by rw [Bd.returns] at h; cases h) (fun fs hr => retN X3 hx (t := .char) Bd.returns (by simp) (hb hby d13_15) hr) (by rw [e3]; exact ⟨rfl, N3, rfl⟩) (by decide : 0 ≤ _) (by decide : 0 ≤ _)
theorem ef_rmLN4 (m : MethodId) (o0 : Addr)  : entryFrame m #[(.ref o0)] 1 = mkF m 0 #[.val (.ref o0)] [] := by first |  (simp [entryFrame, mkF, argsToLocals, Value.category]; done) | rfl
def Q_rmLN4 (Z : State) (o0 : Addr) (sv : Addr) (ks : ClassId) (vs : List Value) (cs : Int32) (h0 : Heap) (n0 : Nat) (v : Option Value) (h : Heap) (L : List Loc) : Prop := v = some (.int (4 : Int32)) ∧ Fr n0 L ∧ h = h0
set_option maxRecDepth 65536 in
set_option maxHeartbeats 40000000 in
theorem rmLN4 (l : Launch) (Z : State) (a0 : Array Value) (hw : ∀ d ∈ tables_1, d.before a0 Z = true) (ws : List Jvm.Cond) (o0 : Addr) (sv : Addr) (ks : ClassId) (vs : List Value) (cs : Int32) (h0 : Heap) (n0 : Nat) (Z0 : n0 ≤ h0.size) (E_o0 : Exa Z h0 o0 "java/lang/String") (F_value_o0 : Fld Z h0 o0 "java/lang/String" "value" "[B" (.ref sv)) (F_coder_o0 : Fld Z h0 o0 "java/lang/String" "coder" "B" (.int (0 : Int32))) (V_sv : Arv Z h0 sv ks .byte (4 : Int32) vs (.int (0 : Int32))) (S_COMPACT_STRINGS : Sta Z h0 "java/lang/String" "COMPACT_STRINGS" "Z" (.int cs)) (hcs : ¬ cs = (0 : Int32)) :
    MetFree l (⟨"java/lang/String", "length", "()I"⟩ : MethodName) (head1 (Jvm.Cond.code (⟨"java/lang/String", "length", "()I"⟩ : MethodName) jdk_42_method_54_code 1 (some .int) :: ws) ({ frames := 1, cells := 0, slots := 0, locals := 13 } : Room)) (fun a U => a = #[(.ref o0)] ∧ Z.Warmed39 U.vm ∧ U.heap = h0) (fun _ _ _ _ _ => True) (fun _ U o U' => ∃ v L, o = .returned v ∧ Q_rmLN4 Z o0 sv ks vs cs h0 n0 v U'.heap L ∧ FrameEnd U o U' L ({ frames := 1, cells := 0, slots := 0, locals := 13 } : Room).cells ({ frames := 1, cells := 0, slots := 0, locals := 13 } : Room).slots) := by
  refine MetFree.of_bodySF (plainFor_of_name pn_java_lang_String) hisR ?_
  intro p e s m args below meth c s₁ Bd hml0 hP hK
  obtain ⟨rfl, hZ, hh⟩ := hP
  have hx := Bd.exec
  have hby := Bd.bytes
  have hml : c.maxLocals = 1 := hml0
  have hown : s.vm.findClass "java/lang/String" = some m.cls := findClass_of_methodNamed Bd.named
  have hnm := (name_of_methodNamed Bd.named Bd.method).1
  have hlk := Bd.notSynchronized
  have X0 : Stand p l e ({ frames := 1, cells := 0, slots := 0, locals := 13 } : Room) s m #[(.ref o0)] below meth c s₁ [] 0 0 := Stand.of_body Bd
  have e0 : s₁.heap = h0 := by rw [← hh, Bd.state]; rfl
  have N0 := Fr.nil n0
  show own_G p.tables e below s (Q_rmLN4 Z o0 sv ks vs cs h0 n0) ({ frames := 1, cells := 0, slots := 0, locals := 13 } : Room).cells ({ frames := 1, cells := 0, slots := 0, locals := 13 } : Room).slots _
  refine own_thr (a := s₁.setTop (mkF m 0 #[.val (.ref o0)] [])) (fun t kt => castTop (ef_rmLN4 m o0) kt) ?_
  refine own_thr (a := s₁.setTop (mkF m 1 #[.val (.ref o0)] [(.ref o0)])) (fun t kt => ?_) ?_
  · show Steps p.tables e below (s₁.setTop (mkF m 0 #[.val (.ref o0)] [])) _
    refine XS.aloadN X0.here hx rfl (hb hby d11_0) rfl rfl ?_
    exact kt
  obtain ⟨T1, X1, e1, st1⟩ := getF X0 hx hZ hown (host := "") (Or.inl (hw _ (List.mem_of_getElem? (i := 27) rfl))) Via.refl e0 F_value_o0 (g := (mkF m 1 #[.val (.ref o0)] [(.ref o0)])) rfl rfl (hb hby d11_1)
  refine own_thr (a := T1.setTop (mkF m 4 #[.val (.ref o0)] [(.ref sv)])) (fun t kt => st1 t kt) ?_
  obtain ⟨cl2, Ar2, -, S2, M2, -, -⟩ := id V_sv
  refine own_thr (a := T1.setTop (mkF m 6 #[.val (.ref o0)] [(.ref o0), (.int (4 : Int32))])) (fun t kt => ?_) ?_
  · show Steps p.tables e below (T1.setTop (mkF m 4 #[.val (.ref o0)] [(.ref sv)])) _
    refine X1.arraylength hx (by rw [e1]; exact Ar2.1) (State.isArrayOf_alike hZ.alike Ar2.2.1) (g := (mkF m 4 #[.val (.ref o0)] [(.ref sv)])) rfl rfl (hb hby d11_4) _ ?_
    rw [len_of S2 M2]
    refine XS.aloadN X1.here hx rfl (hb hby d11_5) rfl rfl ?_
    exact kt
  obtain ⟨cq3, kq3, q3a, q3b, q3c⟩ := isOf hZ e1 E_o0
  obtain ⟨_, _, ⟨T3, L3, k3, n3⟩, -, X3, ⟨Lc3, hQ3, l3, y3, z3⟩, st3⟩ := X1.virtualBack hx (y := (⟨"java/lang/String", "coder", "()B"⟩ : MethodName)) (z := (⟨"java/lang/String", "coder", "()B"⟩ : MethodName)) hown (mvT hZ (hw _ (List.mem_of_getElem? (i := 59) rfl))) (mvT hZ (hw _ (List.mem_of_getElem? (i := 60) rfl))) (notFace_of_selects (args := #[]) (mvT hZ (hw _ (List.mem_of_getElem? (i := 62) rfl)))) (mvT hZ (hw _ (List.mem_of_getElem? (i := 62) rfl))) (mvT hZ (hw _ (List.mem_of_getElem? (i := 61) rfl))) (by decide) (backOf (W := 1) (rmCO l Z a0 hw [] o0 cs h0 n0 Z0 E_o0 F_coder_o0 S_COMPACT_STRINGS hcs) hZ (hw _ (List.mem_of_getElem? (i := 63) rfl)) (hw _ (List.mem_of_getElem? (i := 7) rfl)) (by decide) (by decide)) q3a q3c (g := (mkF m 6 #[.val (.ref o0)] [(.ref o0), (.int (4 : Int32))])) rfl (by rw [hml]; rfl) (Steps.refl _) (argsL := []) (rest := [(.int (4 : Int32))]) (lenOf pd__28_29B rfl) rfl (by show 2 * 0 + _ ≤ _; exact Nat.le_of_eq rfl) (hb hby d11_6) (fun _ _ => ⟨rfl, e1, (by decide : 0 + 0 ≤ _), (by decide : 0 + 0 ≤ _)⟩)
  dsimp only [Pt.U, Pt.locs, Pt.cells, Pt.slots] at X3 l3 y3 z3 st3 hQ3
  obtain ⟨rfl, N3q, e3⟩ := hQ3
  obtain ⟨lc3, X3, N3⟩ := own_pack X3 l3 y3 z3 N0 N3q (C := 0) (S' := 0) rfl rfl
  refine own_thr (a := T3.setTop (mkF m 9 #[.val (.ref o0)] [(.int (0 : Int32)), (.int (4 : Int32))])) (fun t kt => st3.trans kt) ?_
  refine own_thr (a := T3.setTop (mkF m 10 #[.val (.ref o0)] [(.int (4 : Int32))])) (fun t kt => ?_) ?_
  · show Steps p.tables e below (T3.setTop (mkF m 9 #[.val (.ref o0)] [(.int (0 : Int32)), (.int (4 : Int32))])) _
    refine XS.ishr X3.here hx rfl (hb hby d11_9) rfl ?_
    exact kt
  exact own_end X3 hlk (v := some (.int (4 : Int32))) (fun h => by rw [Bd.returns] at h; cases h) (fun fs hr => retI X3 hx Bd.returns (hb hby d11_10) hr) (by rw [e3]; exact ⟨rfl, N3, rfl⟩) (by decide : 0 ≤ _) (by decide : 0 ≤ _)
theorem ef_rmEM4 (m : MethodId) (o0 : Addr)  : entryFrame m #[(.ref o0)] 1 = mkF m 0 #[.val (.ref o0)] [] := by first |  (simp [entryFrame, mkF, argsToLocals, Value.category]; done) | rfl
def Q_rmEM4 (Z : State) (o0 : Addr) (sv : Addr) (ks : ClassId) (vs : List Value) (h0 : Heap) (n0 : Nat) (v : Option Value) (h : Heap) (L : List Loc) : Prop := v = some (.int (0 : Int32)) ∧ Fr n0 L ∧ h = h0
set_option maxRecDepth 65536 in
set_option maxHeartbeats 40000000 in
theorem rmEM4 (l : Launch) (Z : State) (a0 : Array Value) (hw : ∀ d ∈ tables_1, d.before a0 Z = true) (ws : List Jvm.Cond) (o0 : Addr) (sv : Addr) (ks : ClassId) (vs : List Value) (h0 : Heap) (n0 : Nat) (Z0 : n0 ≤ h0.size) (E_o0 : Exa Z h0 o0 "java/lang/String") (F_value_o0 : Fld Z h0 o0 "java/lang/String" "value" "[B" (.ref sv)) (F_coder_o0 : Fld Z h0 o0 "java/lang/String" "coder" "B" (.int (0 : Int32))) (V_sv : Arv Z h0 sv ks .byte (4 : Int32) vs (.int (0 : Int32))) :
    MetFree l (⟨"java/lang/String", "isEmpty", "()Z"⟩ : MethodName) (head1 (Jvm.Cond.code (⟨"java/lang/String", "isEmpty", "()Z"⟩ : MethodName) jdk_42_method_55_code 1 (some .boolean) :: ws) ({ frames := 0, cells := 0, slots := 0, locals := 0 } : Room)) (fun a U => a = #[(.ref o0)] ∧ Z.Warmed39 U.vm ∧ U.heap = h0) (fun _ _ _ _ _ => True) (fun _ U o U' => ∃ v L, o = .returned v ∧ Q_rmEM4 Z o0 sv ks vs h0 n0 v U'.heap L ∧ FrameEnd U o U' L ({ frames := 0, cells := 0, slots := 0, locals := 0 } : Room).cells ({ frames := 0, cells := 0, slots := 0, locals := 0 } : Room).slots) := by
  refine MetFree.of_bodySF (plainFor_of_name pn_java_lang_String) hisR ?_
  intro p e s m args below meth c s₁ Bd hml0 hP hK
  obtain ⟨rfl, hZ, hh⟩ := hP
  have hx := Bd.exec
  have hby := Bd.bytes
  have hml : c.maxLocals = 1 := hml0
  have hown : s.vm.findClass "java/lang/String" = some m.cls := findClass_of_methodNamed Bd.named
  have hnm := (name_of_methodNamed Bd.named Bd.method).1
  have hlk := Bd.notSynchronized
  have X0 : Stand p l e ({ frames := 0, cells := 0, slots := 0, locals := 0 } : Room) s m #[(.ref o0)] below meth c s₁ [] 0 0 := Stand.of_body Bd
  have e0 : s₁.heap = h0 := by rw [← hh, Bd.state]; rfl
  have N0 := Fr.nil n0
  show own_G p.tables e below s (Q_rmEM4 Z o0 sv ks vs h0 n0) ({ frames := 0, cells := 0, slots := 0, locals := 0 } : Room).cells ({ frames := 0, cells := 0, slots := 0, locals := 0 } : Room).slots _
  refine own_thr (a := s₁.setTop (mkF m 0 #[.val (.ref o0)] [])) (fun t kt => castTop (ef_rmEM4 m o0) kt) ?_
  refine own_thr (a := s₁.setTop (mkF m 1 #[.val (.ref o0)] [(.ref o0)])) (fun t kt => ?_) ?_
  · show Steps p.tables e below (s₁.setTop (mkF m 0 #[.val (.ref o0)] [])) _
    refine XS.aloadN X0.here hx rfl (hb hby d10_0) rfl rfl ?_
    exact kt
  obtain ⟨T1, X1, e1, st1⟩ := getF X0 hx hZ hown (host := "") (Or.inl (hw _ (List.mem_of_getElem? (i := 27) rfl))) Via.refl e0 F_value_o0 (g := (mkF m 1 #[.val (.ref o0)] [(.ref o0)])) rfl rfl (hb hby d10_1)
  refine own_thr (a := T1.setTop (mkF m 4 #[.val (.ref o0)] [(.ref sv)])) (fun t kt => st1 t kt) ?_
  obtain ⟨cl2, Ar2, -, S2, M2, -, -⟩ := id V_sv
  refine own_thr (a := T1.setTop (mkF m 13 #[.val (.ref o0)] [(.int (0 : Int32))])) (fun t kt => ?_) ?_
  · show Steps p.tables e below (T1.setTop (mkF m 4 #[.val (.ref o0)] [(.ref sv)])) _
    refine X1.arraylength hx (by rw [e1]; exact Ar2.1) (State.isArrayOf_alike hZ.alike Ar2.2.1) (g := (mkF m 4 #[.val (.ref o0)] [(.ref sv)])) rfl rfl (hb hby d10_4) _ ?_
    rw [len_of S2 M2]
    refine XS.ifYes X1.here hx rfl (pc0 := 5) (pc' := 12) rfl (hb hby d10_5) rfl ((if0 _ _).trans (feq (by decide)).2) (by decide) (by decide) ?_
    refine XS.iconst X1.here hx rfl (hb hby d10_12) ?_
    exact kt
  exact own_end X1 hlk (v := some (.int (0 : Int32))) (fun h => by rw [Bd.returns] at h; cases h) (fun fs hr => retN X1 hx (t := .boolean) Bd.returns (by simp) (hb hby d10_13) hr) (by rw [e1]; exact ⟨rfl, N0, rfl⟩) (by decide : 0 ≤ _) (by decide : 0 ≤ _)
theorem ef_rmLC40 (m : MethodId) (o0 : Addr)  : entryFrame m #[(.ref o0), (.int (0 : Int32))] 2 = mkF m 0 #[.val (.ref o0), .val (.int (0 : Int32))] [] := by first |  (simp [entryFrame, mkF, argsToLocals, Value.category]; done) | rfl
def Q_rmLC40 (Z : State) (o0 : Addr) (k0 : ClassId) (w0 : Int32) (w1 : Int32) (w2 : Int32) (w3 : Int32) (fm : Value) (h0 : Heap) (n0 : Nat) (v : Option Value) (h : Heap) (L : List Loc) : Prop := v = some (.int (nar .char ((w0 &&& (255 : Int32)).toUInt32.toUInt16.toUInt32.toInt32))) ∧ Fr n0 L ∧ h = h0
set_option maxRecDepth 65536 in
set_option maxHeartbeats 40000000 in
theorem rmLC40 (l : Launch) (Z : State) (a0 : Array Value) (hw : ∀ d ∈ tables_1, d.before a0 Z = true) (ws : List Jvm.Cond) (o0 : Addr) (k0 : ClassId) (w0 : Int32) (w1 : Int32) (w2 : Int32) (w3 : Int32) (fm : Value) (h0 : Heap) (n0 : Nat) (Z0 : n0 ≤ h0.size) (V_o0 : Arv Z h0 o0 k0 .byte (4 : Int32) [(.int w0), (.int w1), (.int w2), (.int w3)] (.int (0 : Int32))) (S_SIOOBE_FORMATTER : Sta Z h0 "jdk/internal/util/Preconditions" "SIOOBE_FORMATTER" "Ljava/util/function/BiFunction;" fm) (hfm : fm.isRef = true) :
    MetFree l (⟨"java/lang/StringLatin1", "charAt", "([BI)C"⟩ : MethodName) (head1 (Jvm.Cond.code (⟨"java/lang/StringLatin1", "charAt", "([BI)C"⟩ : MethodName) jdk_43_method_2_code 2 (some .char) :: ws) ({ frames := 2, cells := 0, slots := 0, locals := 27 } : Room)) (fun a U => a = #[(.ref o0), (.int (0 : Int32))] ∧ Z.Warmed39 U.vm ∧ U.heap = h0) (fun _ _ _ _ _ => True) (fun _ U o U' => ∃ v L, o = .returned v ∧ Q_rmLC40 Z o0 k0 w0 w1 w2 w3 fm h0 n0 v U'.heap L ∧ FrameEnd U o U' L ({ frames := 2, cells := 0, slots := 0, locals := 27 } : Room).cells ({ frames := 2, cells := 0, slots := 0, locals := 27 } : Room).slots) := by
  refine MetFree.of_bodySF (plainFor_of_name pn_java_lang_StringLatin1) hisR ?_
  intro p e s m args below meth c s₁ Bd hml0 hP hK
  obtain ⟨rfl, hZ, hh⟩ := hP
  have hx := Bd.exec
  have hby := Bd.bytes
  have hml : c.maxLocals = 2 := hml0
  have hown : s.vm.findClass "java/lang/StringLatin1" = some m.cls := findClass_of_methodNamed Bd.named
  have hnm := (name_of_methodNamed Bd.named Bd.method).1
  have hlk := Bd.notSynchronized
  have X0 : Stand p l e ({ frames := 2, cells := 0, slots := 0, locals := 27 } : Room) s m #[(.ref o0), (.int (0 : Int32))] below meth c s₁ [] 0 0 := Stand.of_body Bd
  have e0 : s₁.heap = h0 := by rw [← hh, Bd.state]; rfl
  have N0 := Fr.nil n0
  show own_G p.tables e below s (Q_rmLC40 Z o0 k0 w0 w1 w2 w3 fm h0 n0) ({ frames := 2, cells := 0, slots := 0, locals := 27 } : Room).cells ({ frames := 2, cells := 0, slots := 0, locals := 27 } : Room).slots _
  refine own_thr (a := s₁.setTop (mkF m 0 #[.val (.ref o0), .val (.int (0 : Int32))] [])) (fun t kt => castTop (ef_rmLC40 m o0) kt) ?_
  refine own_thr (a := s₁.setTop (mkF m 2 #[.val (.ref o0), .val (.int (0 : Int32))] [(.ref o0), (.int (0 : Int32))])) (fun t kt => ?_) ?_
  · show Steps p.tables e below (s₁.setTop (mkF m 0 #[.val (.ref o0), .val (.int (0 : Int32))] [])) _
    refine XS.iloadN X0.here hx rfl (hb hby d15_0) rfl ?_
    refine XS.aloadN X0.here hx rfl (hb hby d15_1) rfl rfl ?_
    exact kt
  obtain ⟨cl1, Ar1, -, S1, M1, -, -⟩ := id V_o0
  refine own_thr (a := s₁.setTop (mkF m 3 #[.val (.ref o0), .val (.int (0 : Int32))] [(.int (4 : Int32)), (.int (0 : Int32))])) (fun t kt => ?_) ?_
  · show Steps p.tables e below (s₁.setTop (mkF m 2 #[.val (.ref o0), .val (.int (0 : Int32))] [(.ref o0), (.int (0 : Int32))])) _
    refine X0.arraylength hx (by rw [e0]; exact Ar1.1) (State.isArrayOf_alike hZ.alike Ar1.2.1) (g := (mkF m 2 #[.val (.ref o0), .val (.int (0 : Int32))] [(.ref o0), (.int (0 : Int32))])) rfl rfl (hb hby d15_2) _ ?_
    rw [len_of S1 M1]
    exact kt
  obtain ⟨_, _, ⟨T2, L2, k2, n2⟩, -, X2, ⟨Lc2, hQ2, l2, y2, z2⟩, st2⟩ := Jvm.LawKit.callS X0 hx (y := (⟨"java/lang/String", "checkIndex", "(II)V"⟩ : MethodName)) hown (mvT hZ (hw _ (List.mem_of_getElem? (i := 77) rfl))) (mvT hZ (hw _ (List.mem_of_getElem? (i := 78) rfl))) (mvT hZ (hw _ (List.mem_of_getElem? (i := 7) rfl))) (mvT hZ (hw _ (List.mem_of_getElem? (i := 79) rfl))) (by decide) (backOf (W := 0) (rmCI l Z a0 hw [] (0 : Int32) (4 : Int32) fm h0 n0 Z0 S_SIOOBE_FORMATTER hfm (by decide) (by decide)) hZ (hw _ (List.mem_of_getElem? (i := 79) rfl)) (hw _ (List.mem_of_getElem? (i := 7) rfl)) (by decide) (by decide)) (g := (mkF m 3 #[.val (.ref o0), .val (.int (0 : Int32))] [(.int (4 : Int32)), (.int (0 : Int32))])) rfl (by rw [hml]; rfl) (argsL := [(.int (0 : Int32)), (.int (4 : Int32))]) (rest := []) (lenOf pd__28II_29V rfl) rfl (by show 2 * 0 + _ ≤ _; exact Nat.le_of_eq rfl) (hb hby d15_3) (fun _ _ => ⟨rfl, e0, (by decide : 0 + 0 ≤ _), (by decide : 0 + 0 ≤ _)⟩)
  dsimp only [Pt.U, Pt.locs, Pt.cells, Pt.slots] at X2 l2 y2 z2 st2 hQ2
  obtain ⟨rfl, N2q, e2⟩ := hQ2
  obtain ⟨lc2, X2, N2⟩ := own_pack X2 l2 y2 z2 N0 N2q (C := 0) (S' := 0) rfl rfl
  refine own_thr (a := T2.setTop (mkF m 6 #[.val (.ref o0), .val (.int (0 : Int32))] [])) (fun t kt => st2 t kt) ?_
  refine own_thr (a := T2.setTop (mkF m 8 #[.val (.ref o0), .val (.int (0 : Int32))] [(.int (0 : Int32)), (.ref o0)])) (fun t kt => ?_) ?_
  · show Steps p.tables e below (T2.setTop (mkF m 6 #[.val (.ref o0), .val (.int (0 : Int32))] [])) _
    refine XS.aloadN X2.here hx rfl (hb hby d15_6) rfl rfl ?_
    refine XS.iloadN X2.here hx rfl (hb hby d15_7) rfl ?_
    exact kt
  obtain ⟨cl3, Ar3, -, S3, M3, H3, -⟩ := id V_o0
  have hin3 : ¬ ((0 : Int32) < 0 ∨ cl3.slots.size ≤ ((0 : Int32)).toNatClampNeg) := inb_of S3 ⟨by decide, by decide⟩
  have hat3 : cl3.slots[((0 : Int32)).toNatClampNeg]? = some (.int w0) := Has.at H3 hin3 rfl
  refine own_thr (a := T2.setTop (mkF m 14 #[.val (.ref o0), .val (.int (0 : Int32))] [(.int ((w0 &&& (255 : Int32)).toUInt32.toUInt16.toUInt32.toInt32))])) (fun t kt => ?_) ?_
  · show Steps p.tables e below (T2.setTop (mkF m 8 #[.val (.ref o0), .val (.int (0 : Int32))] [(.int (0 : Int32)), (.ref o0)])) _
    refine X2.baloadBytes hx (j := (0 : Int32)) (v := (.int w0)) (by rw [e2]; exact Ar3.1) (State.isArrayOf_alike hZ.alike Ar3.2.1) Ar3.2.2 hin3 hat3 (g := (mkF m 8 #[.val (.ref o0), .val (.int (0 : Int32))] [(.int (0 : Int32)), (.ref o0)])) rfl rfl (hb hby d15_8) _ ?_
    refine XS.sipush X2.here hx rfl (hb hby d15_9) ?_
    refine XS.iand X2.here hx rfl (hb hby d15_12) rfl ?_
    refine XS.i2c X2.here hx rfl (hb hby d15_13) rfl ?_
    exact kt
  exact own_end X2 hlk (v := some (.int (nar .char ((w0 &&& (255 : Int32)).toUInt32.toUInt16.toUInt32.toInt32)))) (fun h => by rw [Bd.returns] at h; cases h) (fun fs hr => retN X2 hx (t := .char) Bd.returns (by simp) (hb hby d15_14) hr) (by rw [e2]; exact ⟨rfl, N2, rfl⟩) (by decide : 0 ≤ _) (by decide : 0 ≤ _)
theorem ef_rmCA40 (m : MethodId) (o0 : Addr)  : entryFrame m #[(.ref o0), (.int (0 : Int32))] 2 = mkF m 0 #[.val (.ref o0), .val (.int (0 : Int32))] [] := by first |  (simp [entryFrame, mkF, argsToLocals, Value.category]; done) | rfl
def Q_rmCA40 (Z : State) (o0 : Addr) (sv : Addr) (ks : ClassId) (w0 : Int32) (w1 : Int32) (w2 : Int32) (w3 : Int32) (cs : Int32) (fm : Value) (h0 : Heap) (n0 : Nat) (v : Option Value) (h : Heap) (L : List Loc) : Prop := v = some (.int (nar .char (nar .char ((w0 &&& (255 : Int32)).toUInt32.toUInt16.toUInt32.toInt32)))) ∧ Fr n0 L ∧ h = h0
set_option maxRecDepth 65536 in
set_option maxHeartbeats 40000000 in
theorem rmCA40 (l : Launch) (Z : State) (a0 : Array Value) (hw : ∀ d ∈ tables_1, d.before a0 Z = true) (ws : List Jvm.Cond) (o0 : Addr) (sv : Addr) (ks : ClassId) (w0 : Int32) (w1 : Int32) (w2 : Int32) (w3 : Int32) (cs : Int32) (fm : Value) (h0 : Heap) (n0 : Nat) (Z0 : n0 ≤ h0.size) (E_o0 : Exa Z h0 o0 "java/lang/String") (F_value_o0 : Fld Z h0 o0 "java/lang/String" "value" "[B" (.ref sv)) (F_coder_o0 : Fld Z h0 o0 "java/lang/String" "coder" "B" (.int (0 : Int32))) (V_sv : Arv Z h0 sv ks .byte (4 : Int32) [(.int w0), (.int w1), (.int w2), (.int w3)] (.int (0 : Int32))) (S_COMPACT_STRINGS : Sta Z h0 "java/lang/String" "COMPACT_STRINGS" "Z" (.int cs)) (S_SIOOBE_FORMATTER : Sta Z h0 "jdk/internal/util/Preconditions" "SIOOBE_FORMATTER" "Ljava/util/function/BiFunction;" fm) (hcs : ¬ cs = (0 : Int32)) (hfm : fm.isRef = true) :
    MetFree l (⟨"java/lang/String", "charAt", "(I)C"⟩ : MethodName) (head1 (Jvm.Cond.code (⟨"java/lang/String", "charAt", "(I)C"⟩ : MethodName) jdk_42_method_56_code 2 (some .char) :: ws) ({ frames := 3, cells := 0, slots := 0, locals := 40 } : Room)) (fun a U => a = #[(.ref o0), (.int (0 : Int32))] ∧ Z.Warmed39 U.vm ∧ U.heap = h0) (fun _ _ _ _ _ => True) (fun _ U o U' => ∃ v L, o = .returned v ∧ Q_rmCA40 Z o0 sv ks w0 w1 w2 w3 cs fm h0 n0 v U'.heap L ∧ FrameEnd U o U' L ({ frames := 3, cells := 0, slots := 0, locals := 40 } : Room).cells ({ frames := 3, cells := 0, slots := 0, locals := 40 } : Room).slots) := by
  refine MetFree.of_bodySF (plainFor_of_name pn_java_lang_String) hisR ?_
  intro p e s m args below meth c s₁ Bd hml0 hP hK
  obtain ⟨rfl, hZ, hh⟩ := hP
  have hx := Bd.exec
  have hby := Bd.bytes
  have hml : c.maxLocals = 2 := hml0
  have hown : s.vm.findClass "java/lang/String" = some m.cls := findClass_of_methodNamed Bd.named
  have hnm := (name_of_methodNamed Bd.named Bd.method).1
  have hlk := Bd.notSynchronized
  have X0 : Stand p l e ({ frames := 3, cells := 0, slots := 0, locals := 40 } : Room) s m #[(.ref o0), (.int (0 : Int32))] below meth c s₁ [] 0 0 := Stand.of_body Bd
  have e0 : s₁.heap = h0 := by rw [← hh, Bd.state]; rfl
  have N0 := Fr.nil n0
  show own_G p.tables e below s (Q_rmCA40 Z o0 sv ks w0 w1 w2 w3 cs fm h0 n0) ({ frames := 3, cells := 0, slots := 0, locals := 40 } : Room).cells ({ frames := 3, cells := 0, slots := 0, locals := 40 } : Room).slots _
  refine own_thr (a := s₁.setTop (mkF m 0 #[.val (.ref o0), .val (.int (0 : Int32))] [])) (fun t kt => castTop (ef_rmCA40 m o0) kt) ?_
  refine own_thr (a := s₁.setTop (mkF m 1 #[.val (.ref o0), .val (.int (0 : Int32))] [(.ref o0)])) (fun t kt => ?_) ?_
  · show Steps p.tables e below (s₁.setTop (mkF m 0 #[.val (.ref o0), .val (.int (0 : Int32))] [])) _
    refine XS.aloadN X0.here hx rfl (hb hby d13_0) rfl rfl ?_
    exact kt
  obtain ⟨cq1, kq1, q1a, q1b, q1c⟩ := isOf hZ e0 E_o0
  obtain ⟨_, _, ⟨T1, L1, k1, n1⟩, -, X1, ⟨Lc1, hQ1, l1, y1, z1⟩, st1⟩ := X0.virtualBack hx (y := (⟨"java/lang/String", "isLatin1", "()Z"⟩ : MethodName)) (z := (⟨"java/lang/String", "isLatin1", "()Z"⟩ : MethodName)) hown (mvT hZ (hw _ (List.mem_of_getElem? (i := 69) rfl))) (mvT hZ (hw _ (List.mem_of_getElem? (i := 70) rfl))) (notFace_of_selects (args := #[]) (mvT hZ (hw _ (List.mem_of_getElem? (i := 72) rfl)))) (mvT hZ (hw _ (List.mem_of_getElem? (i := 72) rfl))) (mvT hZ (hw _ (List.mem_of_getElem? (i := 71) rfl))) (by decide) (backOf (W := 0) (rmIL l Z a0 hw [] o0 cs h0 n0 Z0 E_o0 F_coder_o0 S_COMPACT_STRINGS hcs) hZ (hw _ (List.mem_of_getElem? (i := 73) rfl)) (hw _ (List.mem_of_getElem? (i := 7) rfl)) (by decide) (by decide)) q1a q1c (g := (mkF m 1 #[.val (.ref o0), .val (.int (0 : Int32))] [(.ref o0)])) rfl (by rw [hml]; rfl) (Steps.refl _) (argsL := []) (rest := []) (lenOf pd__28_29Z rfl) rfl (by show 2 * 0 + _ ≤ _; exact Nat.le_of_eq rfl) (hb hby d13_1) (fun _ _ => ⟨rfl, e0, (by decide : 0 + 0 ≤ _), (by decide : 0 + 0 ≤ _)⟩)
  dsimp only [Pt.U, Pt.locs, Pt.cells, Pt.slots] at X1 l1 y1 z1 st1 hQ1
  obtain ⟨rfl, N1q, e1⟩ := hQ1
  obtain ⟨lc1, X1, N1⟩ := own_pack X1 l1 y1 z1 N0 N1q (C := 0) (S' := 0) rfl rfl
  refine own_thr (a := T1.setTop (mkF m 4 #[.val (.ref o0), .val (.int (0 : Int32))] [(.int (1 : Int32))])) (fun t kt => st1.trans kt) ?_
  refine own_thr (a := T1.setTop (mkF m 8 #[.val (.ref o0), .val (.int (0 : Int32))] [(.ref o0)])) (fun t kt => ?_) ?_
  · show Steps p.tables e below (T1.setTop (mkF m 4 #[.val (.ref o0), .val (.int (0 : Int32))] [(.int (1 : Int32))])) _
    refine XS.ifNo X1.here hx rfl (hb hby d13_4) rfl ((if0 _ _).trans (feq (by decide)).1) ?_
    refine XS.aloadN X1.here hx rfl (hb hby d13_7) rfl rfl ?_
    exact kt
  obtain ⟨T2, X2, e2, st2⟩ := getF X1 hx hZ hown (host := "") (Or.inl (hw _ (List.mem_of_getElem? (i := 27) rfl))) Via.refl e1 F_value_o0 (g := (mkF m 8 #[.val (.ref o0), .val (.int (0 : Int32))] [(.ref o0)])) rfl rfl (hb hby d13_8)
  refine own_thr (a := T2.setTop (mkF m 11 #[.val (.ref o0), .val (.int (0 : Int32))] [(.ref sv)])) (fun t kt => st2 t kt) ?_
  refine own_thr (a := T2.setTop (mkF m 12 #[.val (.ref o0), .val (.int (0 : Int32))] [(.int (0 : Int32)), (.ref sv)])) (fun t kt => ?_) ?_
  · show Steps p.tables e below (T2.setTop (mkF m 11 #[.val (.ref o0), .val (.int (0 : Int32))] [(.ref sv)])) _
    refine XS.iloadN X2.here hx rfl (hb hby d13_11) rfl ?_
    exact kt
  obtain ⟨_, _, ⟨T3, L3, k3, n3⟩, -, X3, ⟨Lc3, hQ3, l3, y3, z3⟩, st3⟩ := Jvm.LawKit.callS X2 hx (y := (⟨"java/lang/StringLatin1", "charAt", "([BI)C"⟩ : MethodName)) hown (mvT hZ (hw _ (List.mem_of_getElem? (i := 74) rfl))) (mvT hZ (hw _ (List.mem_of_getElem? (i := 75) rfl))) (mvT hZ (hw _ (List.mem_of_getElem? (i := 12) rfl))) (mvT hZ (hw _ (List.mem_of_getElem? (i := 76) rfl))) (by decide) (backOf (W := 0) (rmLC40 l Z a0 hw [] sv ks w0 w1 w2 w3 fm h0 n0 Z0 V_sv S_SIOOBE_FORMATTER hfm) hZ (hw _ (List.mem_of_getElem? (i := 76) rfl)) (hw _ (List.mem_of_getElem? (i := 12) rfl)) (by decide) (by decide)) (g := (mkF m 12 #[.val (.ref o0), .val (.int (0 : Int32))] [(.int (0 : Int32)), (.ref sv)])) rfl (by rw [hml]; rfl) (argsL := [(.ref sv), (.int (0 : Int32))]) (rest := []) (lenOf pd__28_5bBI_29C rfl) rfl (by show 2 * 0 + _ ≤ _; exact Nat.le_of_eq rfl) (hb hby d13_12) (fun _ _ => ⟨rfl, e2, (by decide : 0 + 0 ≤ _), (by decide : 0 + 0 ≤ _)⟩)
  dsimp only [Pt.U, Pt.locs, Pt.cells, Pt.slots] at X3 l3 y3 z3 st3 hQ3
  obtain ⟨rfl, N3q, e3⟩ := hQ3
  obtain ⟨lc3, X3, N3⟩ := own_pack X3 l3 y3 z3 N1 N3q (C := 0) (S' := 0) rfl rfl
  refine own_thr (a := T3.setTop (mkF m 15 #[.val (.ref o0), .val (.int (0 : Int32))] [(.int (nar .char ((w0 &&& (255 : Int32)).toUInt32.toUInt16.toUInt32.toInt32)))])) (fun t kt => st3 t kt) ?_
  exact own_end X3 hlk (v := some (.int (nar .char (nar .char ((w0 &&& (255 : Int32)).toUInt32.toUInt16.toUInt32.toInt32))))) (fun h => by rw [Bd.returns] at h; cases h) (fun fs hr => retN X3 hx (t := .char) Bd.returns (by simp) (hb hby d13_15) hr) (by rw [e3]; exact ⟨rfl, N3, rfl⟩) (by decide : 0 ≤ _) (by decide : 0 ≤ _)
theorem ef_rmLC41 (m : MethodId) (o0 : Addr)  : entryFrame m #[(.ref o0), (.int (1 : Int32))] 2 = mkF m 0 #[.val (.ref o0), .val (.int (1 : Int32))] [] := by first |  (simp [entryFrame, mkF, argsToLocals, Value.category]; done) | rfl
def Q_rmLC41 (Z : State) (o0 : Addr) (k0 : ClassId) (w0 : Int32) (w1 : Int32) (w2 : Int32) (w3 : Int32) (fm : Value) (h0 : Heap) (n0 : Nat) (v : Option Value) (h : Heap) (L : List Loc) : Prop := v = some (.int (nar .char ((w1 &&& (255 : Int32)).toUInt32.toUInt16.toUInt32.toInt32))) ∧ Fr n0 L ∧ h = h0
set_option maxRecDepth 65536 in
set_option maxHeartbeats 40000000 in
theorem rmLC41 (l : Launch) (Z : State) (a0 : Array Value) (hw : ∀ d ∈ tables_1, d.before a0 Z = true) (ws : List Jvm.Cond) (o0 : Addr) (k0 : ClassId) (w0 : Int32) (w1 : Int32) (w2 : Int32) (w3 : Int32) (fm : Value) (h0 : Heap) (n0 : Nat) (Z0 : n0 ≤ h0.size) (V_o0 : Arv Z h0 o0 k0 .byte (4 : Int32) [(.int w0), (.int w1), (.int w2), (.int w3)] (.int (0 : Int32))) (S_SIOOBE_FORMATTER : Sta Z h0 "jdk/internal/util/Preconditions" "SIOOBE_FORMATTER" "Ljava/util/function/BiFunction;" fm) (hfm : fm.isRef = true) :
    MetFree l (⟨"java/lang/StringLatin1", "charAt", "([BI)C"⟩ : MethodName) (head1 (Jvm.Cond.code (⟨"java/lang/StringLatin1", "charAt", "([BI)C"⟩ : MethodName) jdk_43_method_2_code 2 (some .char) :: ws) ({ frames := 2, cells := 0, slots := 0, locals := 27 } : Room)) (fun a U => a = #[(.ref o0), (.int (1 : Int32))] ∧ Z.Warmed39 U.vm ∧ U.heap = h0) (fun _ _ _ _ _ => True) (fun _ U o U' => ∃ v L, o = .returned v ∧ Q_rmLC41 Z o0 k0 w0 w1 w2 w3 fm h0 n0 v U'.heap L ∧ FrameEnd U o U' L ({ frames := 2, cells := 0, slots := 0, locals := 27 } : Room).cells ({ frames := 2, cells := 0, slots := 0, locals := 27 } : Room).slots) := by
  refine MetFree.of_bodySF (plainFor_of_name pn_java_lang_StringLatin1) hisR ?_
  intro p e s m args below meth c s₁ Bd hml0 hP hK
  obtain ⟨rfl, hZ, hh⟩ := hP
  have hx := Bd.exec
  have hby := Bd.bytes
  have hml : c.maxLocals = 2 := hml0
  have hown : s.vm.findClass "java/lang/StringLatin1" = some m.cls := findClass_of_methodNamed Bd.named
  have hnm := (name_of_methodNamed Bd.named Bd.method).1
  have hlk := Bd.notSynchronized
  have X0 : Stand p l e ({ frames := 2, cells := 0, slots := 0, locals := 27 } : Room) s m #[(.ref o0), (.int (1 : Int32))] below meth c s₁ [] 0 0 := Stand.of_body Bd
  have e0 : s₁.heap = h0 := by rw [← hh, Bd.state]; rfl
  have N0 := Fr.nil n0
  show own_G p.tables e below s (Q_rmLC41 Z o0 k0 w0 w1 w2 w3 fm h0 n0) ({ frames := 2, cells := 0, slots := 0, locals := 27 } : Room).cells ({ frames := 2, cells := 0, slots := 0, locals := 27 } : Room).slots _
  refine own_thr (a := s₁.setTop (mkF m 0 #[.val (.ref o0), .val (.int (1 : Int32))] [])) (fun t kt => castTop (ef_rmLC41 m o0) kt) ?_
  refine own_thr (a := s₁.setTop (mkF m 2 #[.val (.ref o0), .val (.int (1 : Int32))] [(.ref o0), (.int (1 : Int32))])) (fun t kt => ?_) ?_
  · show Steps p.tables e below (s₁.setTop (mkF m 0 #[.val (.ref o0), .val (.int (1 : Int32))] [])) _
    refine XS.iloadN X0.here hx rfl (hb hby d15_0) rfl ?_
    refine XS.aloadN X0.here hx rfl (hb hby d15_1) rfl rfl ?_
    exact kt
  obtain ⟨cl1, Ar1, -, S1, M1, -, -⟩ := id V_o0
  refine own_thr (a := s₁.setTop (mkF m 3 #[.val (.ref o0), .val (.int (1 : Int32))] [(.int (4 : Int32)), (.int (1 : Int32))])) (fun t kt => ?_) ?_
  · show Steps p.tables e below (s₁.setTop (mkF m 2 #[.val (.ref o0), .val (.int (1 : Int32))] [(.ref o0), (.int (1 : Int32))])) _
    refine X0.arraylength hx (by rw [e0]; exact Ar1.1) (State.isArrayOf_alike hZ.alike Ar1.2.1) (g := (mkF m 2 #[.val (.ref o0), .val (.int (1 : Int32))] [(.ref o0), (.int (1 : Int32))])) rfl rfl (hb hby d15_2) _ ?_
    rw [len_of S1 M1]
    exact kt
  obtain ⟨_, _, ⟨T2, L2, k2, n2⟩, -, X2, ⟨Lc2, hQ2, l2, y2, z2⟩, st2⟩ := Jvm.LawKit.callS X0 hx (y := (⟨"java/lang/String", "checkIndex", "(II)V"⟩ : MethodName)) hown (mvT hZ (hw _ (List.mem_of_getElem? (i := 77) rfl))) (mvT hZ (hw _ (List.mem_of_getElem? (i := 78) rfl))) (mvT hZ (hw _ (List.mem_of_getElem? (i := 7) rfl))) (mvT hZ (hw _ (List.mem_of_getElem? (i := 79) rfl))) (by decide) (backOf (W := 0) (rmCI l Z a0 hw [] (1 : Int32) (4 : Int32) fm h0 n0 Z0 S_SIOOBE_FORMATTER hfm (by decide) (by decide)) hZ (hw _ (List.mem_of_getElem? (i := 79) rfl)) (hw _ (List.mem_of_getElem? (i := 7) rfl)) (by decide) (by decide)) (g := (mkF m 3 #[.val (.ref o0), .val (.int (1 : Int32))] [(.int (4 : Int32)), (.int (1 : Int32))])) rfl (by rw [hml]; rfl) (argsL := [(.int (1 : Int32)), (.int (4 : Int32))]) (rest := []) (lenOf pd__28II_29V rfl) rfl (by show 2 * 0 + _ ≤ _; exact Nat.le_of_eq rfl) (hb hby d15_3) (fun _ _ => ⟨rfl, e0, (by decide : 0 + 0 ≤ _), (by decide : 0 + 0 ≤ _)⟩)
  dsimp only [Pt.U, Pt.locs, Pt.cells, Pt.slots] at X2 l2 y2 z2 st2 hQ2
  obtain ⟨rfl, N2q, e2⟩ := hQ2
  obtain ⟨lc2, X2, N2⟩ := own_pack X2 l2 y2 z2 N0 N2q (C := 0) (S' := 0) rfl rfl
  refine own_thr (a := T2.setTop (mkF m 6 #[.val (.ref o0), .val (.int (1 : Int32))] [])) (fun t kt => st2 t kt) ?_
  refine own_thr (a := T2.setTop (mkF m 8 #[.val (.ref o0), .val (.int (1 : Int32))] [(.int (1 : Int32)), (.ref o0)])) (fun t kt => ?_) ?_
  · show Steps p.tables e below (T2.setTop (mkF m 6 #[.val (.ref o0), .val (.int (1 : Int32))] [])) _
    refine XS.aloadN X2.here hx rfl (hb hby d15_6) rfl rfl ?_
    refine XS.iloadN X2.here hx rfl (hb hby d15_7) rfl ?_
    exact kt
  obtain ⟨cl3, Ar3, -, S3, M3, H3, -⟩ := id V_o0
  have hin3 : ¬ ((1 : Int32) < 0 ∨ cl3.slots.size ≤ ((1 : Int32)).toNatClampNeg) := inb_of S3 ⟨by decide, by decide⟩
  have hat3 : cl3.slots[((1 : Int32)).toNatClampNeg]? = some (.int w1) := Has.at H3 hin3 rfl
  refine own_thr (a := T2.setTop (mkF m 14 #[.val (.ref o0), .val (.int (1 : Int32))] [(.int ((w1 &&& (255 : Int32)).toUInt32.toUInt16.toUInt32.toInt32))])) (fun t kt => ?_) ?_
  · show Steps p.tables e below (T2.setTop (mkF m 8 #[.val (.ref o0), .val (.int (1 : Int32))] [(.int (1 : Int32)), (.ref o0)])) _
    refine X2.baloadBytes hx (j := (1 : Int32)) (v := (.int w1)) (by rw [e2]; exact Ar3.1) (State.isArrayOf_alike hZ.alike Ar3.2.1) Ar3.2.2 hin3 hat3 (g := (mkF m 8 #[.val (.ref o0), .val (.int (1 : Int32))] [(.int (1 : Int32)), (.ref o0)])) rfl rfl (hb hby d15_8) _ ?_
    refine XS.sipush X2.here hx rfl (hb hby d15_9) ?_
    refine XS.iand X2.here hx rfl (hb hby d15_12) rfl ?_
    refine XS.i2c X2.here hx rfl (hb hby d15_13) rfl ?_
    exact kt
  exact own_end X2 hlk (v := some (.int (nar .char ((w1 &&& (255 : Int32)).toUInt32.toUInt16.toUInt32.toInt32)))) (fun h => by rw [Bd.returns] at h; cases h) (fun fs hr => retN X2 hx (t := .char) Bd.returns (by simp) (hb hby d15_14) hr) (by rw [e2]; exact ⟨rfl, N2, rfl⟩) (by decide : 0 ≤ _) (by decide : 0 ≤ _)
theorem ef_rmCA41 (m : MethodId) (o0 : Addr)  : entryFrame m #[(.ref o0), (.int (1 : Int32))] 2 = mkF m 0 #[.val (.ref o0), .val (.int (1 : Int32))] [] := by first |  (simp [entryFrame, mkF, argsToLocals, Value.category]; done) | rfl
def Q_rmCA41 (Z : State) (o0 : Addr) (sv : Addr) (ks : ClassId) (w0 : Int32) (w1 : Int32) (w2 : Int32) (w3 : Int32) (cs : Int32) (fm : Value) (h0 : Heap) (n0 : Nat) (v : Option Value) (h : Heap) (L : List Loc) : Prop := v = some (.int (nar .char (nar .char ((w1 &&& (255 : Int32)).toUInt32.toUInt16.toUInt32.toInt32)))) ∧ Fr n0 L ∧ h = h0
set_option maxRecDepth 65536 in
set_option maxHeartbeats 40000000 in
theorem rmCA41 (l : Launch) (Z : State) (a0 : Array Value) (hw : ∀ d ∈ tables_1, d.before a0 Z = true) (ws : List Jvm.Cond) (o0 : Addr) (sv : Addr) (ks : ClassId) (w0 : Int32) (w1 : Int32) (w2 : Int32) (w3 : Int32) (cs : Int32) (fm : Value) (h0 : Heap) (n0 : Nat) (Z0 : n0 ≤ h0.size) (E_o0 : Exa Z h0 o0 "java/lang/String") (F_value_o0 : Fld Z h0 o0 "java/lang/String" "value" "[B" (.ref sv)) (F_coder_o0 : Fld Z h0 o0 "java/lang/String" "coder" "B" (.int (0 : Int32))) (V_sv : Arv Z h0 sv ks .byte (4 : Int32) [(.int w0), (.int w1), (.int w2), (.int w3)] (.int (0 : Int32))) (S_COMPACT_STRINGS : Sta Z h0 "java/lang/String" "COMPACT_STRINGS" "Z" (.int cs)) (S_SIOOBE_FORMATTER : Sta Z h0 "jdk/internal/util/Preconditions" "SIOOBE_FORMATTER" "Ljava/util/function/BiFunction;" fm) (hcs : ¬ cs = (0 : Int32)) (hfm : fm.isRef = true) :
    MetFree l (⟨"java/lang/String", "charAt", "(I)C"⟩ : MethodName) (head1 (Jvm.Cond.code (⟨"java/lang/String", "charAt", "(I)C"⟩ : MethodName) jdk_42_method_56_code 2 (some .char) :: ws) ({ frames := 3, cells := 0, slots := 0, locals := 40 } : Room)) (fun a U => a = #[(.ref o0), (.int (1 : Int32))] ∧ Z.Warmed39 U.vm ∧ U.heap = h0) (fun _ _ _ _ _ => True) (fun _ U o U' => ∃ v L, o = .returned v ∧ Q_rmCA41 Z o0 sv ks w0 w1 w2 w3 cs fm h0 n0 v U'.heap L ∧ FrameEnd U o U' L ({ frames := 3, cells := 0, slots := 0, locals := 40 } : Room).cells ({ frames := 3, cells := 0, slots := 0, locals := 40 } : Room).slots) := by
  refine MetFree.of_bodySF (plainFor_of_name pn_java_lang_String) hisR ?_
  intro p e s m args below meth c s₁ Bd hml0 hP hK
  obtain ⟨rfl, hZ, hh⟩ := hP
  have hx := Bd.exec
  have hby := Bd.bytes
  have hml : c.maxLocals = 2 := hml0
  have hown : s.vm.findClass "java/lang/String" = some m.cls := findClass_of_methodNamed Bd.named
  have hnm := (name_of_methodNamed Bd.named Bd.method).1
  have hlk := Bd.notSynchronized
  have X0 : Stand p l e ({ frames := 3, cells := 0, slots := 0, locals := 40 } : Room) s m #[(.ref o0), (.int (1 : Int32))] below meth c s₁ [] 0 0 := Stand.of_body Bd
  have e0 : s₁.heap = h0 := by rw [← hh, Bd.state]; rfl
  have N0 := Fr.nil n0
  show own_G p.tables e below s (Q_rmCA41 Z o0 sv ks w0 w1 w2 w3 cs fm h0 n0) ({ frames := 3, cells := 0, slots := 0, locals := 40 } : Room).cells ({ frames := 3, cells := 0, slots := 0, locals := 40 } : Room).slots _
  refine own_thr (a := s₁.setTop (mkF m 0 #[.val (.ref o0), .val (.int (1 : Int32))] [])) (fun t kt => castTop (ef_rmCA41 m o0) kt) ?_
  refine own_thr (a := s₁.setTop (mkF m 1 #[.val (.ref o0), .val (.int (1 : Int32))] [(.ref o0)])) (fun t kt => ?_) ?_
  · show Steps p.tables e below (s₁.setTop (mkF m 0 #[.val (.ref o0), .val (.int (1 : Int32))] [])) _
    refine XS.aloadN X0.here hx rfl (hb hby d13_0) rfl rfl ?_
    exact kt
  obtain ⟨cq1, kq1, q1a, q1b, q1c⟩ := isOf hZ e0 E_o0
  obtain ⟨_, _, ⟨T1, L1, k1, n1⟩, -, X1, ⟨Lc1, hQ1, l1, y1, z1⟩, st1⟩ := X0.virtualBack hx (y := (⟨"java/lang/String", "isLatin1", "()Z"⟩ : MethodName)) (z := (⟨"java/lang/String", "isLatin1", "()Z"⟩ : MethodName)) hown (mvT hZ (hw _ (List.mem_of_getElem? (i := 69) rfl))) (mvT hZ (hw _ (List.mem_of_getElem? (i := 70) rfl))) (notFace_of_selects (args := #[]) (mvT hZ (hw _ (List.mem_of_getElem? (i := 72) rfl)))) (mvT hZ (hw _ (List.mem_of_getElem? (i := 72) rfl))) (mvT hZ (hw _ (List.mem_of_getElem? (i := 71) rfl))) (by decide) (backOf (W := 0) (rmIL l Z a0 hw [] o0 cs h0 n0 Z0 E_o0 F_coder_o0 S_COMPACT_STRINGS hcs) hZ (hw _ (List.mem_of_getElem? (i := 73) rfl)) (hw _ (List.mem_of_getElem? (i := 7) rfl)) (by decide) (by decide)) q1a q1c (g := (mkF m 1 #[.val (.ref o0), .val (.int (1 : Int32))] [(.ref o0)])) rfl (by rw [hml]; rfl) (Steps.refl _) (argsL := []) (rest := []) (lenOf pd__28_29Z rfl) rfl (by show 2 * 0 + _ ≤ _; exact Nat.le_of_eq rfl) (hb hby d13_1) (fun _ _ => ⟨rfl, e0, (by decide : 0 + 0 ≤ _), (by decide : 0 + 0 ≤ _)⟩)
  dsimp only [Pt.U, Pt.locs, Pt.cells, Pt.slots] at X1 l1 y1 z1 st1 hQ1
  obtain ⟨rfl, N1q, e1⟩ := hQ1
  obtain ⟨lc1, X1, N1⟩ := own_pack X1 l1 y1 z1 N0 N1q (C := 0) (S' := 0) rfl rfl
  refine own_thr (a := T1.setTop (mkF m 4 #[.val (.ref o0), .val (.int (1 : Int32))] [(.int (1 : Int32))])) (fun t kt => st1.trans kt) ?_
  refine own_thr (a := T1.setTop (mkF m 8 #[.val (.ref o0), .val (.int (1 : Int32))] [(.ref o0)])) (fun t kt => ?_) ?_
  · show Steps p.tables e below (T1.setTop (mkF m 4 #[.val (.ref o0), .val (.int (1 : Int32))] [(.int (1 : Int32))])) _
    refine XS.ifNo X1.here hx rfl (hb hby d13_4) rfl ((if0 _ _).trans (feq (by decide)).1) ?_
    refine XS.aloadN X1.here hx rfl (hb hby d13_7) rfl rfl ?_
    exact kt
  obtain ⟨T2, X2, e2, st2⟩ := getF X1 hx hZ hown (host := "") (Or.inl (hw _ (List.mem_of_getElem? (i := 27) rfl))) Via.refl e1 F_value_o0 (g := (mkF m 8 #[.val (.ref o0), .val (.int (1 : Int32))] [(.ref o0)])) rfl rfl (hb hby d13_8)
  refine own_thr (a := T2.setTop (mkF m 11 #[.val (.ref o0), .val (.int (1 : Int32))] [(.ref sv)])) (fun t kt => st2 t kt) ?_
  refine own_thr (a := T2.setTop (mkF m 12 #[.val (.ref o0), .val (.int (1 : Int32))] [(.int (1 : Int32)), (.ref sv)])) (fun t kt => ?_) ?_
  · show Steps p.tables e below (T2.setTop (mkF m 11 #[.val (.ref o0), .val (.int (1 : Int32))] [(.ref sv)])) _
    refine XS.iloadN X2.here hx rfl (hb hby d13_11) rfl ?_
    exact kt
  obtain ⟨_, _, ⟨T3, L3, k3, n3⟩, -, X3, ⟨Lc3, hQ3, l3, y3, z3⟩, st3⟩ := Jvm.LawKit.callS X2 hx (y := (⟨"java/lang/StringLatin1", "charAt", "([BI)C"⟩ : MethodName)) hown (mvT hZ (hw _ (List.mem_of_getElem? (i := 74) rfl))) (mvT hZ (hw _ (List.mem_of_getElem? (i := 75) rfl))) (mvT hZ (hw _ (List.mem_of_getElem? (i := 12) rfl))) (mvT hZ (hw _ (List.mem_of_getElem? (i := 76) rfl))) (by decide) (backOf (W := 0) (rmLC41 l Z a0 hw [] sv ks w0 w1 w2 w3 fm h0 n0 Z0 V_sv S_SIOOBE_FORMATTER hfm) hZ (hw _ (List.mem_of_getElem? (i := 76) rfl)) (hw _ (List.mem_of_getElem? (i := 12) rfl)) (by decide) (by decide)) (g := (mkF m 12 #[.val (.ref o0), .val (.int (1 : Int32))] [(.int (1 : Int32)), (.ref sv)])) rfl (by rw [hml]; rfl) (argsL := [(.ref sv), (.int (1 : Int32))]) (rest := []) (lenOf pd__28_5bBI_29C rfl) rfl (by show 2 * 0 + _ ≤ _; exact Nat.le_of_eq rfl) (hb hby d13_12) (fun _ _ => ⟨rfl, e2, (by decide : 0 + 0 ≤ _), (by decide : 0 + 0 ≤ _)⟩)
  dsimp only [Pt.U, Pt.locs, Pt.cells, Pt.slots] at X3 l3 y3 z3 st3 hQ3
  obtain ⟨rfl, N3q, e3⟩ := hQ3
  obtain ⟨lc3, X3, N3⟩ := own_pack X3 l3 y3 z3 N1 N3q (C := 0) (S' := 0) rfl rfl
  refine own_thr (a := T3.setTop (mkF m 15 #[.val (.ref o0), .val (.int (1 : Int32))] [(.int (nar .char ((w1 &&& (255 : Int32)).toUInt32.toUInt16.toUInt32.toInt32)))])) (fun t kt => st3 t kt) ?_
  exact own_end X3 hlk (v := some (.int (nar .char (nar .char ((w1 &&& (255 : Int32)).toUInt32.toUInt16.toUInt32.toInt32))))) (fun h => by rw [Bd.returns] at h; cases h) (fun fs hr => retN X3 hx (t := .char) Bd.returns (by simp) (hb hby d13_15) hr) (by rw [e3]; exact ⟨rfl, N3, rfl⟩) (by decide : 0 ≤ _) (by decide : 0 ≤ _)
theorem ef_rmLC42 (m : MethodId) (o0 : Addr)  : entryFrame m #[(.ref o0), (.int (2 : Int32))] 2 = mkF m 0 #[.val (.ref o0), .val (.int (2 : Int32))] [] := by first |  (simp [entryFrame, mkF, argsToLocals, Value.category]; done) | rfl
def Q_rmLC42 (Z : State) (o0 : Addr) (k0 : ClassId) (w0 : Int32) (w1 : Int32) (w2 : Int32) (w3 : Int32) (fm : Value) (h0 : Heap) (n0 : Nat) (v : Option Value) (h : Heap) (L : List Loc) : Prop := v = some (.int (nar .char ((w2 &&& (255 : Int32)).toUInt32.toUInt16.toUInt32.toInt32))) ∧ Fr n0 L ∧ h = h0
set_option maxRecDepth 65536 in
set_option maxHeartbeats 40000000 in
theorem rmLC42 (l : Launch) (Z : State) (a0 : Array Value) (hw : ∀ d ∈ tables_1, d.before a0 Z = true) (ws : List Jvm.Cond) (o0 : Addr) (k0 : ClassId) (w0 : Int32) (w1 : Int32) (w2 : Int32) (w3 : Int32) (fm : Value) (h0 : Heap) (n0 : Nat) (Z0 : n0 ≤ h0.size) (V_o0 : Arv Z h0 o0 k0 .byte (4 : Int32) [(.int w0), (.int w1), (.int w2), (.int w3)] (.int (0 : Int32))) (S_SIOOBE_FORMATTER : Sta Z h0 "jdk/internal/util/Preconditions" "SIOOBE_FORMATTER" "Ljava/util/function/BiFunction;" fm) (hfm : fm.isRef = true) :
    MetFree l (⟨"java/lang/StringLatin1", "charAt", "([BI)C"⟩ : MethodName) (head1 (Jvm.Cond.code (⟨"java/lang/StringLatin1", "charAt", "([BI)C"⟩ : MethodName) jdk_43_method_2_code 2 (some .char) :: ws) ({ frames := 2, cells := 0, slots := 0, locals := 27 } : Room)) (fun a U => a = #[(.ref o0), (.int (2 : Int32))] ∧ Z.Warmed39 U.vm ∧ U.heap = h0) (fun _ _ _ _ _ => True) (fun _ U o U' => ∃ v L, o = .returned v ∧ Q_rmLC42 Z o0 k0 w0 w1 w2 w3 fm h0 n0 v U'.heap L ∧ FrameEnd U o U' L ({ frames := 2, cells := 0, slots := 0, locals := 27 } : Room).cells ({ frames := 2, cells := 0, slots := 0, locals := 27 } : Room).slots) := by
  refine MetFree.of_bodySF (plainFor_of_name pn_java_lang_StringLatin1) hisR ?_
  intro p e s m args below meth c s₁ Bd hml0 hP hK
  obtain ⟨rfl, hZ, hh⟩ := hP
  have hx := Bd.exec
  have hby := Bd.bytes
  have hml : c.maxLocals = 2 := hml0
  have hown : s.vm.findClass "java/lang/StringLatin1" = some m.cls := findClass_of_methodNamed Bd.named
  have hnm := (name_of_methodNamed Bd.named Bd.method).1
  have hlk := Bd.notSynchronized
  have X0 : Stand p l e ({ frames := 2, cells := 0, slots := 0, locals := 27 } : Room) s m #[(.ref o0), (.int (2 : Int32))] below meth c s₁ [] 0 0 := Stand.of_body Bd
  have e0 : s₁.heap = h0 := by rw [← hh, Bd.state]; rfl
  have N0 := Fr.nil n0
  show own_G p.tables e below s (Q_rmLC42 Z o0 k0 w0 w1 w2 w3 fm h0 n0) ({ frames := 2, cells := 0, slots := 0, locals := 27 } : Room).cells ({ frames := 2, cells := 0, slots := 0, locals := 27 } : Room).slots _
  refine own_thr (a := s₁.setTop (mkF m 0 #[.val (.ref o0), .val (.int (2 : Int32))] [])) (fun t kt => castTop (ef_rmLC42 m o0) kt) ?_
  refine own_thr (a := s₁.setTop (mkF m 2 #[.val (.ref o0), .val (.int (2 : Int32))] [(.ref o0), (.int (2 : Int32))])) (fun t kt => ?_) ?_
  · show Steps p.tables e below (s₁.setTop (mkF m 0 #[.val (.ref o0), .val (.int (2 : Int32))] [])) _
    refine XS.iloadN X0.here hx rfl (hb hby d15_0) rfl ?_
    refine XS.aloadN X0.here hx rfl (hb hby d15_1) rfl rfl ?_
    exact kt
  obtain ⟨cl1, Ar1, -, S1, M1, -, -⟩ := id V_o0
  refine own_thr (a := s₁.setTop (mkF m 3 #[.val (.ref o0), .val (.int (2 : Int32))] [(.int (4 : Int32)), (.int (2 : Int32))])) (fun t kt => ?_) ?_
  · show Steps p.tables e below (s₁.setTop (mkF m 2 #[.val (.ref o0), .val (.int (2 : Int32))] [(.ref o0), (.int (2 : Int32))])) _
    refine X0.arraylength hx (by rw [e0]; exact Ar1.1) (State.isArrayOf_alike hZ.alike Ar1.2.1) (g := (mkF m 2 #[.val (.ref o0), .val (.int (2 : Int32))] [(.ref o0), (.int (2 : Int32))])) rfl rfl (hb hby d15_2) _ ?_
    rw [len_of S1 M1]
    exact kt
  obtain ⟨_, _, ⟨T2, L2, k2, n2⟩, -, X2, ⟨Lc2, hQ2, l2, y2, z2⟩, st2⟩ := Jvm.LawKit.callS X0 hx (y := (⟨"java/lang/String", "checkIndex", "(II)V"⟩ : MethodName)) hown (mvT hZ (hw _ (List.mem_of_getElem? (i := 77) rfl))) (mvT hZ (hw _ (List.mem_of_getElem? (i := 78) rfl))) (mvT hZ (hw _ (List.mem_of_getElem? (i := 7) rfl))) (mvT hZ (hw _ (List.mem_of_getElem? (i := 79) rfl))) (by decide) (backOf (W := 0) (rmCI l Z a0 hw [] (2 : Int32) (4 : Int32) fm h0 n0 Z0 S_SIOOBE_FORMATTER hfm (by decide) (by decide)) hZ (hw _ (List.mem_of_getElem? (i := 79) rfl)) (hw _ (List.mem_of_getElem? (i := 7) rfl)) (by decide) (by decide)) (g := (mkF m 3 #[.val (.ref o0), .val (.int (2 : Int32))] [(.int (4 : Int32)), (.int (2 : Int32))])) rfl (by rw [hml]; rfl) (argsL := [(.int (2 : Int32)), (.int (4 : Int32))]) (rest := []) (lenOf pd__28II_29V rfl) rfl (by show 2 * 0 + _ ≤ _; exact Nat.le_of_eq rfl) (hb hby d15_3) (fun _ _ => ⟨rfl, e0, (by decide : 0 + 0 ≤ _), (by decide : 0 + 0 ≤ _)⟩)
  dsimp only [Pt.U, Pt.locs, Pt.cells, Pt.slots] at X2 l2 y2 z2 st2 hQ2
  obtain ⟨rfl, N2q, e2⟩ := hQ2
  obtain ⟨lc2, X2, N2⟩ := own_pack X2 l2 y2 z2 N0 N2q (C := 0) (S' := 0) rfl rfl
  refine own_thr (a := T2.setTop (mkF m 6 #[.val (.ref o0), .val (.int (2 : Int32))] [])) (fun t kt => st2 t kt) ?_
  refine own_thr (a := T2.setTop (mkF m 8 #[.val (.ref o0), .val (.int (2 : Int32))] [(.int (2 : Int32)), (.ref o0)])) (fun t kt => ?_) ?_
  · show Steps p.tables e below (T2.setTop (mkF m 6 #[.val (.ref o0), .val (.int (2 : Int32))] [])) _
    refine XS.aloadN X2.here hx rfl (hb hby d15_6) rfl rfl ?_
    refine XS.iloadN X2.here hx rfl (hb hby d15_7) rfl ?_
    exact kt
  obtain ⟨cl3, Ar3, -, S3, M3, H3, -⟩ := id V_o0
  have hin3 : ¬ ((2 : Int32) < 0 ∨ cl3.slots.size ≤ ((2 : Int32)).toNatClampNeg) := inb_of S3 ⟨by decide, by decide⟩
  have hat3 : cl3.slots[((2 : Int32)).toNatClampNeg]? = some (.int w2) := Has.at H3 hin3 rfl
  refine own_thr (a := T2.setTop (mkF m 14 #[.val (.ref o0), .val (.int (2 : Int32))] [(.int ((w2 &&& (255 : Int32)).toUInt32.toUInt16.toUInt32.toInt32))])) (fun t kt => ?_) ?_
  · show Steps p.tables e below (T2.setTop (mkF m 8 #[.val (.ref o0), .val (.int (2 : Int32))] [(.int (2 : Int32)), (.ref o0)])) _
    refine X2.baloadBytes hx (j := (2 : Int32)) (v := (.int w2)) (by rw [e2]; exact Ar3.1) (State.isArrayOf_alike hZ.alike Ar3.2.1) Ar3.2.2 hin3 hat3 (g := (mkF m 8 #[.val (.ref o0), .val (.int (2 : Int32))] [(.int (2 : Int32)), (.ref o0)])) rfl rfl (hb hby d15_8) _ ?_
    refine XS.sipush X2.here hx rfl (hb hby d15_9) ?_
    refine XS.iand X2.here hx rfl (hb hby d15_12) rfl ?_
    refine XS.i2c X2.here hx rfl (hb hby d15_13) rfl ?_
    exact kt
  exact own_end X2 hlk (v := some (.int (nar .char ((w2 &&& (255 : Int32)).toUInt32.toUInt16.toUInt32.toInt32)))) (fun h => by rw [Bd.returns] at h; cases h) (fun fs hr => retN X2 hx (t := .char) Bd.returns (by simp) (hb hby d15_14) hr) (by rw [e2]; exact ⟨rfl, N2, rfl⟩) (by decide : 0 ≤ _) (by decide : 0 ≤ _)
theorem ef_rmCA42 (m : MethodId) (o0 : Addr)  : entryFrame m #[(.ref o0), (.int (2 : Int32))] 2 = mkF m 0 #[.val (.ref o0), .val (.int (2 : Int32))] [] := by first |  (simp [entryFrame, mkF, argsToLocals, Value.category]; done) | rfl
def Q_rmCA42 (Z : State) (o0 : Addr) (sv : Addr) (ks : ClassId) (w0 : Int32) (w1 : Int32) (w2 : Int32) (w3 : Int32) (cs : Int32) (fm : Value) (h0 : Heap) (n0 : Nat) (v : Option Value) (h : Heap) (L : List Loc) : Prop := v = some (.int (nar .char (nar .char ((w2 &&& (255 : Int32)).toUInt32.toUInt16.toUInt32.toInt32)))) ∧ Fr n0 L ∧ h = h0
set_option maxRecDepth 65536 in
set_option maxHeartbeats 40000000 in
theorem rmCA42 (l : Launch) (Z : State) (a0 : Array Value) (hw : ∀ d ∈ tables_1, d.before a0 Z = true) (ws : List Jvm.Cond) (o0 : Addr) (sv : Addr) (ks : ClassId) (w0 : Int32) (w1 : Int32) (w2 : Int32) (w3 : Int32) (cs : Int32) (fm : Value) (h0 : Heap) (n0 : Nat) (Z0 : n0 ≤ h0.size) (E_o0 : Exa Z h0 o0 "java/lang/String") (F_value_o0 : Fld Z h0 o0 "java/lang/String" "value" "[B" (.ref sv)) (F_coder_o0 : Fld Z h0 o0 "java/lang/String" "coder" "B" (.int (0 : Int32))) (V_sv : Arv Z h0 sv ks .byte (4 : Int32) [(.int w0), (.int w1), (.int w2), (.int w3)] (.int (0 : Int32))) (S_COMPACT_STRINGS : Sta Z h0 "java/lang/String" "COMPACT_STRINGS" "Z" (.int cs)) (S_SIOOBE_FORMATTER : Sta Z h0 "jdk/internal/util/Preconditions" "SIOOBE_FORMATTER" "Ljava/util/function/BiFunction;" fm) (hcs : ¬ cs = (0 : Int32)) (hfm : fm.isRef = true) :
    MetFree l (⟨"java/lang/String", "charAt", "(I)C"⟩ : MethodName) (head1 (Jvm.Cond.code (⟨"java/lang/String", "charAt", "(I)C"⟩ : MethodName) jdk_42_method_56_code 2 (some .char) :: ws) ({ frames := 3, cells := 0, slots := 0, locals := 40 } : Room)) (fun a U => a = #[(.ref o0), (.int (2 : Int32))] ∧ Z.Warmed39 U.vm ∧ U.heap = h0) (fun _ _ _ _ _ => True) (fun _ U o U' => ∃ v L, o = .returned v ∧ Q_rmCA42 Z o0 sv ks w0 w1 w2 w3 cs fm h0 n0 v U'.heap L ∧ FrameEnd U o U' L ({ frames := 3, cells := 0, slots := 0, locals := 40 } : Room).cells ({ frames := 3, cells := 0, slots := 0, locals := 40 } : Room).slots) := by
  refine MetFree.of_bodySF (plainFor_of_name pn_java_lang_String) hisR ?_
  intro p e s m args below meth c s₁ Bd hml0 hP hK
  obtain ⟨rfl, hZ, hh⟩ := hP
  have hx := Bd.exec
  have hby := Bd.bytes
  have hml : c.maxLocals = 2 := hml0
  have hown : s.vm.findClass "java/lang/String" = some m.cls := findClass_of_methodNamed Bd.named
  have hnm := (name_of_methodNamed Bd.named Bd.method).1
  have hlk := Bd.notSynchronized
  have X0 : Stand p l e ({ frames := 3, cells := 0, slots := 0, locals := 40 } : Room) s m #[(.ref o0), (.int (2 : Int32))] below meth c s₁ [] 0 0 := Stand.of_body Bd
  have e0 : s₁.heap = h0 := by rw [← hh, Bd.state]; rfl
  have N0 := Fr.nil n0
  show own_G p.tables e below s (Q_rmCA42 Z o0 sv ks w0 w1 w2 w3 cs fm h0 n0) ({ frames := 3, cells := 0, slots := 0, locals := 40 } : Room).cells ({ frames := 3, cells := 0, slots := 0, locals := 40 } : Room).slots _
  refine own_thr (a := s₁.setTop (mkF m 0 #[.val (.ref o0), .val (.int (2 : Int32))] [])) (fun t kt => castTop (ef_rmCA42 m o0) kt) ?_
  refine own_thr (a := s₁.setTop (mkF m 1 #[.val (.ref o0), .val (.int (2 : Int32))] [(.ref o0)])) (fun t kt => ?_) ?_
  · show Steps p.tables e below (s₁.setTop (mkF m 0 #[.val (.ref o0), .val (.int (2 : Int32))] [])) _
    refine XS.aloadN X0.here hx rfl (hb hby d13_0) rfl rfl ?_
    exact kt
  obtain ⟨cq1, kq1, q1a, q1b, q1c⟩ := isOf hZ e0 E_o0
  obtain ⟨_, _, ⟨T1, L1, k1, n1⟩, -, X1, ⟨Lc1, hQ1, l1, y1, z1⟩, st1⟩ := X0.virtualBack hx (y := (⟨"java/lang/String", "isLatin1", "()Z"⟩ : MethodName)) (z := (⟨"java/lang/String", "isLatin1", "()Z"⟩ : MethodName)) hown (mvT hZ (hw _ (List.mem_of_getElem? (i := 69) rfl))) (mvT hZ (hw _ (List.mem_of_getElem? (i := 70) rfl))) (notFace_of_selects (args := #[]) (mvT hZ (hw _ (List.mem_of_getElem? (i := 72) rfl)))) (mvT hZ (hw _ (List.mem_of_getElem? (i := 72) rfl))) (mvT hZ (hw _ (List.mem_of_getElem? (i := 71) rfl))) (by decide) (backOf (W := 0) (rmIL l Z a0 hw [] o0 cs h0 n0 Z0 E_o0 F_coder_o0 S_COMPACT_STRINGS hcs) hZ (hw _ (List.mem_of_getElem? (i := 73) rfl)) (hw _ (List.mem_of_getElem? (i := 7) rfl)) (by decide) (by decide)) q1a q1c (g := (mkF m 1 #[.val (.ref o0), .val (.int (2 : Int32))] [(.ref o0)])) rfl (by rw [hml]; rfl) (Steps.refl _) (argsL := []) (rest := []) (lenOf pd__28_29Z rfl) rfl (by show 2 * 0 + _ ≤ _; exact Nat.le_of_eq rfl) (hb hby d13_1) (fun _ _ => ⟨rfl, e0, (by decide : 0 + 0 ≤ _), (by decide : 0 + 0 ≤ _)⟩)
  dsimp only [Pt.U, Pt.locs, Pt.cells, Pt.slots] at X1 l1 y1 z1 st1 hQ1
  obtain ⟨rfl, N1q, e1⟩ := hQ1
  obtain ⟨lc1, X1, N1⟩ := own_pack X1 l1 y1 z1 N0 N1q (C := 0) (S' := 0) rfl rfl
  refine own_thr (a := T1.setTop (mkF m 4 #[.val (.ref o0), .val (.int (2 : Int32))] [(.int (1 : Int32))])) (fun t kt => st1.trans kt) ?_
  refine own_thr (a := T1.setTop (mkF m 8 #[.val (.ref o0), .val (.int (2 : Int32))] [(.ref o0)])) (fun t kt => ?_) ?_
  · show Steps p.tables e below (T1.setTop (mkF m 4 #[.val (.ref o0), .val (.int (2 : Int32))] [(.int (1 : Int32))])) _
    refine XS.ifNo X1.here hx rfl (hb hby d13_4) rfl ((if0 _ _).trans (feq (by decide)).1) ?_
    refine XS.aloadN X1.here hx rfl (hb hby d13_7) rfl rfl ?_
    exact kt
  obtain ⟨T2, X2, e2, st2⟩ := getF X1 hx hZ hown (host := "") (Or.inl (hw _ (List.mem_of_getElem? (i := 27) rfl))) Via.refl e1 F_value_o0 (g := (mkF m 8 #[.val (.ref o0), .val (.int (2 : Int32))] [(.ref o0)])) rfl rfl (hb hby d13_8)
  refine own_thr (a := T2.setTop (mkF m 11 #[.val (.ref o0), .val (.int (2 : Int32))] [(.ref sv)])) (fun t kt => st2 t kt) ?_
  refine own_thr (a := T2.setTop (mkF m 12 #[.val (.ref o0), .val (.int (2 : Int32))] [(.int (2 : Int32)), (.ref sv)])) (fun t kt => ?_) ?_
  · show Steps p.tables e below (T2.setTop (mkF m 11 #[.val (.ref o0), .val (.int (2 : Int32))] [(.ref sv)])) _
    refine XS.iloadN X2.here hx rfl (hb hby d13_11) rfl ?_
    exact kt
  obtain ⟨_, _, ⟨T3, L3, k3, n3⟩, -, X3, ⟨Lc3, hQ3, l3, y3, z3⟩, st3⟩ := Jvm.LawKit.callS X2 hx (y := (⟨"java/lang/StringLatin1", "charAt", "([BI)C"⟩ : MethodName)) hown (mvT hZ (hw _ (List.mem_of_getElem? (i := 74) rfl))) (mvT hZ (hw _ (List.mem_of_getElem? (i := 75) rfl))) (mvT hZ (hw _ (List.mem_of_getElem? (i := 12) rfl))) (mvT hZ (hw _ (List.mem_of_getElem? (i := 76) rfl))) (by decide) (backOf (W := 0) (rmLC42 l Z a0 hw [] sv ks w0 w1 w2 w3 fm h0 n0 Z0 V_sv S_SIOOBE_FORMATTER hfm) hZ (hw _ (List.mem_of_getElem? (i := 76) rfl)) (hw _ (List.mem_of_getElem? (i := 12) rfl)) (by decide) (by decide)) (g := (mkF m 12 #[.val (.ref o0), .val (.int (2 : Int32))] [(.int (2 : Int32)), (.ref sv)])) rfl (by rw [hml]; rfl) (argsL := [(.ref sv), (.int (2 : Int32))]) (rest := []) (lenOf pd__28_5bBI_29C rfl) rfl (by show 2 * 0 + _ ≤ _; exact Nat.le_of_eq rfl) (hb hby d13_12) (fun _ _ => ⟨rfl, e2, (by decide : 0 + 0 ≤ _), (by decide : 0 + 0 ≤ _)⟩)
  dsimp only [Pt.U, Pt.locs, Pt.cells, Pt.slots] at X3 l3 y3 z3 st3 hQ3
  obtain ⟨rfl, N3q, e3⟩ := hQ3
  obtain ⟨lc3, X3, N3⟩ := own_pack X3 l3 y3 z3 N1 N3q (C := 0) (S' := 0) rfl rfl
  refine own_thr (a := T3.setTop (mkF m 15 #[.val (.ref o0), .val (.int (2 : Int32))] [(.int (nar .char ((w2 &&& (255 : Int32)).toUInt32.toUInt16.toUInt32.toInt32)))])) (fun t kt => st3 t kt) ?_
  exact own_end X3 hlk (v := some (.int (nar .char (nar .char ((w2 &&& (255 : Int32)).toUInt32.toUInt16.toUInt32.toInt32))))) (fun h => by rw [Bd.returns] at h; cases h) (fun fs hr => retN X3 hx (t := .char) Bd.returns (by simp) (hb hby d13_15) hr) (by rw [e3]; exact ⟨rfl, N3, rfl⟩) (by decide : 0 ≤ _) (by decide : 0 ≤ _)
theorem ef_rmLC43 (m : MethodId) (o0 : Addr)  : entryFrame m #[(.ref o0), (.int (3 : Int32))] 2 = mkF m 0 #[.val (.ref o0), .val (.int (3 : Int32))] [] := by first |  (simp [entryFrame, mkF, argsToLocals, Value.category]; done) | rfl
def Q_rmLC43 (Z : State) (o0 : Addr) (k0 : ClassId) (w0 : Int32) (w1 : Int32) (w2 : Int32) (w3 : Int32) (fm : Value) (h0 : Heap) (n0 : Nat) (v : Option Value) (h : Heap) (L : List Loc) : Prop := v = some (.int (nar .char ((w3 &&& (255 : Int32)).toUInt32.toUInt16.toUInt32.toInt32))) ∧ Fr n0 L ∧ h = h0
set_option maxRecDepth 65536 in
set_option maxHeartbeats 40000000 in
theorem rmLC43 (l : Launch) (Z : State) (a0 : Array Value) (hw : ∀ d ∈ tables_1, d.before a0 Z = true) (ws : List Jvm.Cond) (o0 : Addr) (k0 : ClassId) (w0 : Int32) (w1 : Int32) (w2 : Int32) (w3 : Int32) (fm : Value) (h0 : Heap) (n0 : Nat) (Z0 : n0 ≤ h0.size) (V_o0 : Arv Z h0 o0 k0 .byte (4 : Int32) [(.int w0), (.int w1), (.int w2), (.int w3)] (.int (0 : Int32))) (S_SIOOBE_FORMATTER : Sta Z h0 "jdk/internal/util/Preconditions" "SIOOBE_FORMATTER" "Ljava/util/function/BiFunction;" fm) (hfm : fm.isRef = true) :
    MetFree l (⟨"java/lang/StringLatin1", "charAt", "([BI)C"⟩ : MethodName) (head1 (Jvm.Cond.code (⟨"java/lang/StringLatin1", "charAt", "([BI)C"⟩ : MethodName) jdk_43_method_2_code 2 (some .char) :: ws) ({ frames := 2, cells := 0, slots := 0, locals := 27 } : Room)) (fun a U => a = #[(.ref o0), (.int (3 : Int32))] ∧ Z.Warmed39 U.vm ∧ U.heap = h0) (fun _ _ _ _ _ => True) (fun _ U o U' => ∃ v L, o = .returned v ∧ Q_rmLC43 Z o0 k0 w0 w1 w2 w3 fm h0 n0 v U'.heap L ∧ FrameEnd U o U' L ({ frames := 2, cells := 0, slots := 0, locals := 27 } : Room).cells ({ frames := 2, cells := 0, slots := 0, locals := 27 } : Room).slots) := by
  refine MetFree.of_bodySF (plainFor_of_name pn_java_lang_StringLatin1) hisR ?_
  intro p e s m args below meth c s₁ Bd hml0 hP hK
  obtain ⟨rfl, hZ, hh⟩ := hP
  have hx := Bd.exec
  have hby := Bd.bytes
  have hml : c.maxLocals = 2 := hml0
  have hown : s.vm.findClass "java/lang/StringLatin1" = some m.cls := findClass_of_methodNamed Bd.named
  have hnm := (name_of_methodNamed Bd.named Bd.method).1
  have hlk := Bd.notSynchronized
  have X0 : Stand p l e ({ frames := 2, cells := 0, slots := 0, locals := 27 } : Room) s m #[(.ref o0), (.int (3 : Int32))] below meth c s₁ [] 0 0 := Stand.of_body Bd
  have e0 : s₁.heap = h0 := by rw [← hh, Bd.state]; rfl
  have N0 := Fr.nil n0
  show own_G p.tables e below s (Q_rmLC43 Z o0 k0 w0 w1 w2 w3 fm h0 n0) ({ frames := 2, cells := 0, slots := 0, locals := 27 } : Room).cells ({ frames := 2, cells := 0, slots := 0, locals := 27 } : Room).slots _
  refine own_thr (a := s₁.setTop (mkF m 0 #[.val (.ref o0), .val (.int (3 : Int32))] [])) (fun t kt => castTop (ef_rmLC43 m o0) kt) ?_
  refine own_thr (a := s₁.setTop (mkF m 2 #[.val (.ref o0), .val (.int (3 : Int32))] [(.ref o0), (.int (3 : Int32))])) (fun t kt => ?_) ?_
  · show Steps p.tables e below (s₁.setTop (mkF m 0 #[.val (.ref o0), .val (.int (3 : Int32))] [])) _
    refine XS.iloadN X0.here hx rfl (hb hby d15_0) rfl ?_
    refine XS.aloadN X0.here hx rfl (hb hby d15_1) rfl rfl ?_
    exact kt
  obtain ⟨cl1, Ar1, -, S1, M1, -, -⟩ := id V_o0
  refine own_thr (a := s₁.setTop (mkF m 3 #[.val (.ref o0), .val (.int (3 : Int32))] [(.int (4 : Int32)), (.int (3 : Int32))])) (fun t kt => ?_) ?_
  · show Steps p.tables e below (s₁.setTop (mkF m 2 #[.val (.ref o0), .val (.int (3 : Int32))] [(.ref o0), (.int (3 : Int32))])) _
    refine X0.arraylength hx (by rw [e0]; exact Ar1.1) (State.isArrayOf_alike hZ.alike Ar1.2.1) (g := (mkF m 2 #[.val (.ref o0), .val (.int (3 : Int32))] [(.ref o0), (.int (3 : Int32))])) rfl rfl (hb hby d15_2) _ ?_
    rw [len_of S1 M1]
    exact kt
  obtain ⟨_, _, ⟨T2, L2, k2, n2⟩, -, X2, ⟨Lc2, hQ2, l2, y2, z2⟩, st2⟩ := Jvm.LawKit.callS X0 hx (y := (⟨"java/lang/String", "checkIndex", "(II)V"⟩ : MethodName)) hown (mvT hZ (hw _ (List.mem_of_getElem? (i := 77) rfl))) (mvT hZ (hw _ (List.mem_of_getElem? (i := 78) rfl))) (mvT hZ (hw _ (List.mem_of_getElem? (i := 7) rfl))) (mvT hZ (hw _ (List.mem_of_getElem? (i := 79) rfl))) (by decide) (backOf (W := 0) (rmCI l Z a0 hw [] (3 : Int32) (4 : Int32) fm h0 n0 Z0 S_SIOOBE_FORMATTER hfm (by decide) (by decide)) hZ (hw _ (List.mem_of_getElem? (i := 79) rfl)) (hw _ (List.mem_of_getElem? (i := 7) rfl)) (by decide) (by decide)) (g := (mkF m 3 #[.val (.ref o0), .val (.int (3 : Int32))] [(.int (4 : Int32)), (.int (3 : Int32))])) rfl (by rw [hml]; rfl) (argsL := [(.int (3 : Int32)), (.int (4 : Int32))]) (rest := []) (lenOf pd__28II_29V rfl) rfl (by show 2 * 0 + _ ≤ _; exact Nat.le_of_eq rfl) (hb hby d15_3) (fun _ _ => ⟨rfl, e0, (by decide : 0 + 0 ≤ _), (by decide : 0 + 0 ≤ _)⟩)
  dsimp only [Pt.U, Pt.locs, Pt.cells, Pt.slots] at X2 l2 y2 z2 st2 hQ2
  obtain ⟨rfl, N2q, e2⟩ := hQ2
  obtain ⟨lc2, X2, N2⟩ := own_pack X2 l2 y2 z2 N0 N2q (C := 0) (S' := 0) rfl rfl
  refine own_thr (a := T2.setTop (mkF m 6 #[.val (.ref o0), .val (.int (3 : Int32))] [])) (fun t kt => st2 t kt) ?_
  refine own_thr (a := T2.setTop (mkF m 8 #[.val (.ref o0), .val (.int (3 : Int32))] [(.int (3 : Int32)), (.ref o0)])) (fun t kt => ?_) ?_
  · show Steps p.tables e below (T2.setTop (mkF m 6 #[.val (.ref o0), .val (.int (3 : Int32))] [])) _
    refine XS.aloadN X2.here hx rfl (hb hby d15_6) rfl rfl ?_
    refine XS.iloadN X2.here hx rfl (hb hby d15_7) rfl ?_
    exact kt
  obtain ⟨cl3, Ar3, -, S3, M3, H3, -⟩ := id V_o0
  have hin3 : ¬ ((3 : Int32) < 0 ∨ cl3.slots.size ≤ ((3 : Int32)).toNatClampNeg) := inb_of S3 ⟨by decide, by decide⟩
  have hat3 : cl3.slots[((3 : Int32)).toNatClampNeg]? = some (.int w3) := Has.at H3 hin3 rfl
  refine own_thr (a := T2.setTop (mkF m 14 #[.val (.ref o0), .val (.int (3 : Int32))] [(.int ((w3 &&& (255 : Int32)).toUInt32.toUInt16.toUInt32.toInt32))])) (fun t kt => ?_) ?_
  · show Steps p.tables e below (T2.setTop (mkF m 8 #[.val (.ref o0), .val (.int (3 : Int32))] [(.int (3 : Int32)), (.ref o0)])) _
    refine X2.baloadBytes hx (j := (3 : Int32)) (v := (.int w3)) (by rw [e2]; exact Ar3.1) (State.isArrayOf_alike hZ.alike Ar3.2.1) Ar3.2.2 hin3 hat3 (g := (mkF m 8 #[.val (.ref o0), .val (.int (3 : Int32))] [(.int (3 : Int32)), (.ref o0)])) rfl rfl (hb hby d15_8) _ ?_
    refine XS.sipush X2.here hx rfl (hb hby d15_9) ?_
    refine XS.iand X2.here hx rfl (hb hby d15_12) rfl ?_
    refine XS.i2c X2.here hx rfl (hb hby d15_13) rfl ?_
    exact kt
  exact own_end X2 hlk (v := some (.int (nar .char ((w3 &&& (255 : Int32)).toUInt32.toUInt16.toUInt32.toInt32)))) (fun h => by rw [Bd.returns] at h; cases h) (fun fs hr => retN X2 hx (t := .char) Bd.returns (by simp) (hb hby d15_14) hr) (by rw [e2]; exact ⟨rfl, N2, rfl⟩) (by decide : 0 ≤ _) (by decide : 0 ≤ _)
theorem ef_rmCA43 (m : MethodId) (o0 : Addr)  : entryFrame m #[(.ref o0), (.int (3 : Int32))] 2 = mkF m 0 #[.val (.ref o0), .val (.int (3 : Int32))] [] := by first |  (simp [entryFrame, mkF, argsToLocals, Value.category]; done) | rfl
def Q_rmCA43 (Z : State) (o0 : Addr) (sv : Addr) (ks : ClassId) (w0 : Int32) (w1 : Int32) (w2 : Int32) (w3 : Int32) (cs : Int32) (fm : Value) (h0 : Heap) (n0 : Nat) (v : Option Value) (h : Heap) (L : List Loc) : Prop := v = some (.int (nar .char (nar .char ((w3 &&& (255 : Int32)).toUInt32.toUInt16.toUInt32.toInt32)))) ∧ Fr n0 L ∧ h = h0
set_option maxRecDepth 65536 in
set_option maxHeartbeats 40000000 in
theorem rmCA43 (l : Launch) (Z : State) (a0 : Array Value) (hw : ∀ d ∈ tables_1, d.before a0 Z = true) (ws : List Jvm.Cond) (o0 : Addr) (sv : Addr) (ks : ClassId) (w0 : Int32) (w1 : Int32) (w2 : Int32) (w3 : Int32) (cs : Int32) (fm : Value) (h0 : Heap) (n0 : Nat) (Z0 : n0 ≤ h0.size) (E_o0 : Exa Z h0 o0 "java/lang/String") (F_value_o0 : Fld Z h0 o0 "java/lang/String" "value" "[B" (.ref sv)) (F_coder_o0 : Fld Z h0 o0 "java/lang/String" "coder" "B" (.int (0 : Int32))) (V_sv : Arv Z h0 sv ks .byte (4 : Int32) [(.int w0), (.int w1), (.int w2), (.int w3)] (.int (0 : Int32))) (S_COMPACT_STRINGS : Sta Z h0 "java/lang/String" "COMPACT_STRINGS" "Z" (.int cs)) (S_SIOOBE_FORMATTER : Sta Z h0 "jdk/internal/util/Preconditions" "SIOOBE_FORMATTER" "Ljava/util/function/BiFunction;" fm) (hcs : ¬ cs = (0 : Int32)) (hfm : fm.isRef = true) :
    MetFree l (⟨"java/lang/String", "charAt", "(I)C"⟩ : MethodName) (head1 (Jvm.Cond.code (⟨"java/lang/String", "charAt", "(I)C"⟩ : MethodName) jdk_42_method_56_code 2 (some .char) :: ws) ({ frames := 3, cells := 0, slots := 0, locals := 40 } : Room)) (fun a U => a = #[(.ref o0), (.int (3 : Int32))] ∧ Z.Warmed39 U.vm ∧ U.heap = h0) (fun _ _ _ _ _ => True) (fun _ U o U' => ∃ v L, o = .returned v ∧ Q_rmCA43 Z o0 sv ks w0 w1 w2 w3 cs fm h0 n0 v U'.heap L ∧ FrameEnd U o U' L ({ frames := 3, cells := 0, slots := 0, locals := 40 } : Room).cells ({ frames := 3, cells := 0, slots := 0, locals := 40 } : Room).slots) := by
  refine MetFree.of_bodySF (plainFor_of_name pn_java_lang_String) hisR ?_
  intro p e s m args below meth c s₁ Bd hml0 hP hK
  obtain ⟨rfl, hZ, hh⟩ := hP
  have hx := Bd.exec
  have hby := Bd.bytes
  have hml : c.maxLocals = 2 := hml0
  have hown : s.vm.findClass "java/lang/String" = some m.cls := findClass_of_methodNamed Bd.named
  have hnm := (name_of_methodNamed Bd.named Bd.method).1
  have hlk := Bd.notSynchronized
  have X0 : Stand p l e ({ frames := 3, cells := 0, slots := 0, locals := 40 } : Room) s m #[(.ref o0), (.int (3 : Int32))] below meth c s₁ [] 0 0 := Stand.of_body Bd
  have e0 : s₁.heap = h0 := by rw [← hh, Bd.state]; rfl
  have N0 := Fr.nil n0
  show own_G p.tables e below s (Q_rmCA43 Z o0 sv ks w0 w1 w2 w3 cs fm h0 n0) ({ frames := 3, cells := 0, slots := 0, locals := 40 } : Room).cells ({ frames := 3, cells := 0, slots := 0, locals := 40 } : Room).slots _
  refine own_thr (a := s₁.setTop (mkF m 0 #[.val (.ref o0), .val (.int (3 : Int32))] [])) (fun t kt => castTop (ef_rmCA43 m o0) kt) ?_
  refine own_thr (a := s₁.setTop (mkF m 1 #[.val (.ref o0), .val (.int (3 : Int32))] [(.ref o0)])) (fun t kt => ?_) ?_
  · show Steps p.tables e below (s₁.setTop (mkF m 0 #[.val (.ref o0), .val (.int (3 : Int32))] [])) _
    refine XS.aloadN X0.here hx rfl (hb hby d13_0) rfl rfl ?_
    exact kt
  obtain ⟨cq1, kq1, q1a, q1b, q1c⟩ := isOf hZ e0 E_o0
  obtain ⟨_, _, ⟨T1, L1, k1, n1⟩, -, X1, ⟨Lc1, hQ1, l1, y1, z1⟩, st1⟩ := X0.virtualBack hx (y := (⟨"java/lang/String", "isLatin1", "()Z"⟩ : MethodName)) (z := (⟨"java/lang/String", "isLatin1", "()Z"⟩ : MethodName)) hown (mvT hZ (hw _ (List.mem_of_getElem? (i := 69) rfl))) (mvT hZ (hw _ (List.mem_of_getElem? (i := 70) rfl))) (notFace_of_selects (args := #[]) (mvT hZ (hw _ (List.mem_of_getElem? (i := 72) rfl)))) (mvT hZ (hw _ (List.mem_of_getElem? (i := 72) rfl))) (mvT hZ (hw _ (List.mem_of_getElem? (i := 71) rfl))) (by decide) (backOf (W := 0) (rmIL l Z a0 hw [] o0 cs h0 n0 Z0 E_o0 F_coder_o0 S_COMPACT_STRINGS hcs) hZ (hw _ (List.mem_of_getElem? (i := 73) rfl)) (hw _ (List.mem_of_getElem? (i := 7) rfl)) (by decide) (by decide)) q1a q1c (g := (mkF m 1 #[.val (.ref o0), .val (.int (3 : Int32))] [(.ref o0)])) rfl (by rw [hml]; rfl) (Steps.refl _) (argsL := []) (rest := []) (lenOf pd__28_29Z rfl) rfl (by show 2 * 0 + _ ≤ _; exact Nat.le_of_eq rfl) (hb hby d13_1) (fun _ _ => ⟨rfl, e0, (by decide : 0 + 0 ≤ _), (by decide : 0 + 0 ≤ _)⟩)
  dsimp only [Pt.U, Pt.locs, Pt.cells, Pt.slots] at X1 l1 y1 z1 st1 hQ1
  obtain ⟨rfl, N1q, e1⟩ := hQ1
  obtain ⟨lc1, X1, N1⟩ := own_pack X1 l1 y1 z1 N0 N1q (C := 0) (S' := 0) rfl rfl
  refine own_thr (a := T1.setTop (mkF m 4 #[.val (.ref o0), .val (.int (3 : Int32))] [(.int (1 : Int32))])) (fun t kt => st1.trans kt) ?_
  refine own_thr (a := T1.setTop (mkF m 8 #[.val (.ref o0), .val (.int (3 : Int32))] [(.ref o0)])) (fun t kt => ?_) ?_
  · show Steps p.tables e below (T1.setTop (mkF m 4 #[.val (.ref o0), .val (.int (3 : Int32))] [(.int (1 : Int32))])) _
    refine XS.ifNo X1.here hx rfl (hb hby d13_4) rfl ((if0 _ _).trans (feq (by decide)).1) ?_
    refine XS.aloadN X1.here hx rfl (hb hby d13_7) rfl rfl ?_
    exact kt
  obtain ⟨T2, X2, e2, st2⟩ := getF X1 hx hZ hown (host := "") (Or.inl (hw _ (List.mem_of_getElem? (i := 27) rfl))) Via.refl e1 F_value_o0 (g := (mkF m 8 #[.val (.ref o0), .val (.int (3 : Int32))] [(.ref o0)])) rfl rfl (hb hby d13_8)
  refine own_thr (a := T2.setTop (mkF m 11 #[.val (.ref o0), .val (.int (3 : Int32))] [(.ref sv)])) (fun t kt => st2 t kt) ?_
  refine own_thr (a := T2.setTop (mkF m 12 #[.val (.ref o0), .val (.int (3 : Int32))] [(.int (3 : Int32)), (.ref sv)])) (fun t kt => ?_) ?_
  · show Steps p.tables e below (T2.setTop (mkF m 11 #[.val (.ref o0), .val (.int (3 : Int32))] [(.ref sv)])) _
    refine XS.iloadN X2.here hx rfl (hb hby d13_11) rfl ?_
    exact kt
  obtain ⟨_, _, ⟨T3, L3, k3, n3⟩, -, X3, ⟨Lc3, hQ3, l3, y3, z3⟩, st3⟩ := Jvm.LawKit.callS X2 hx (y := (⟨"java/lang/StringLatin1", "charAt", "([BI)C"⟩ : MethodName)) hown (mvT hZ (hw _ (List.mem_of_getElem? (i := 74) rfl))) (mvT hZ (hw _ (List.mem_of_getElem? (i := 75) rfl))) (mvT hZ (hw _ (List.mem_of_getElem? (i := 12) rfl))) (mvT hZ (hw _ (List.mem_of_getElem? (i := 76) rfl))) (by decide) (backOf (W := 0) (rmLC43 l Z a0 hw [] sv ks w0 w1 w2 w3 fm h0 n0 Z0 V_sv S_SIOOBE_FORMATTER hfm) hZ (hw _ (List.mem_of_getElem? (i := 76) rfl)) (hw _ (List.mem_of_getElem? (i := 12) rfl)) (by decide) (by decide)) (g := (mkF m 12 #[.val (.ref o0), .val (.int (3 : Int32))] [(.int (3 : Int32)), (.ref sv)])) rfl (by rw [hml]; rfl) (argsL := [(.ref sv), (.int (3 : Int32))]) (rest := []) (lenOf pd__28_5bBI_29C rfl) rfl (by show 2 * 0 + _ ≤ _; exact Nat.le_of_eq rfl) (hb hby d13_12) (fun _ _ => ⟨rfl, e2, (by decide : 0 + 0 ≤ _), (by decide : 0 + 0 ≤ _)⟩)
  dsimp only [Pt.U, Pt.locs, Pt.cells, Pt.slots] at X3 l3 y3 z3 st3 hQ3
  obtain ⟨rfl, N3q, e3⟩ := hQ3
  obtain ⟨lc3, X3, N3⟩ := own_pack X3 l3 y3 z3 N1 N3q (C := 0) (S' := 0) rfl rfl
  refine own_thr (a := T3.setTop (mkF m 15 #[.val (.ref o0), .val (.int (3 : Int32))] [(.int (nar .char ((w3 &&& (255 : Int32)).toUInt32.toUInt16.toUInt32.toInt32)))])) (fun t kt => st3 t kt) ?_
  exact own_end X3 hlk (v := some (.int (nar .char (nar .char ((w3 &&& (255 : Int32)).toUInt32.toUInt16.toUInt32.toInt32))))) (fun h => by rw [Bd.returns] at h; cases h) (fun fs hr => retN X3 hx (t := .char) Bd.returns (by simp) (hb hby d13_15) hr) (by rw [e3]; exact ⟨rfl, N3, rfl⟩) (by decide : 0 ≤ _) (by decide : 0 ≤ _)
theorem d9_0 : decode jdk_31_method_11_code 0 = .ok (.aload_n 0, 1) := by decide +kernel
theorem d9_1 : decode jdk_31_method_11_code 1 = .ok (.ifnonnull 12, 3) := by decide +kernel
theorem d9_13 : decode jdk_31_method_11_code 13 = .ok (.aload_n 0, 1) := by decide +kernel
theorem d9_14 : decode jdk_31_method_11_code 14 = .ok (.areturn, 1) := by decide +kernel
theorem pn_java_util_Objects : plainName "java/util/Objects" = true := by first | (simp [plainName, overriddenIn]; done) | decide +kernel
theorem ef_rmO (m : MethodId) (o0 : Addr) (o1 : Addr)  : entryFrame m #[(.ref o0), (.ref o1)] 2 = mkF m 0 #[.val (.ref o0), .val (.ref o1)] [] := by first |  (simp [entryFrame, mkF, argsToLocals, Value.category]; done) | rfl
def Q_rmO (Z : State) (o0 : Addr) (o1 : Addr) (h0 : Heap) (n0 : Nat) (v : Option Value) (h : Heap) (L : List Loc) : Prop := v = some (.ref o0) ∧ Fr n0 L ∧ h = h0
set_option maxRecDepth 65536 in
set_option maxHeartbeats 40000000 in
theorem rmO (l : Launch) (Z : State) (a0 : Array Value) (hw : ∀ d ∈ tables_1, d.before a0 Z = true) (ws : List Jvm.Cond) (o0 : Addr) (o1 : Addr) (h0 : Heap) (n0 : Nat) (Z0 : n0 ≤ h0.size) :
    MetFree l (⟨"java/util/Objects", "requireNonNull", "(Ljava/lang/Object;Ljava/lang/String;)Ljava/lang/Object;"⟩ : MethodName) (head1 (Jvm.Cond.code (⟨"java/util/Objects", "requireNonNull", "(Ljava/lang/Object;Ljava/lang/String;)Ljava/lang/Object;"⟩ : MethodName) jdk_31_method_11_code 2 (some (.object "java/lang/Object")) :: ws) ({ frames := 0, cells := 0, slots := 0, locals := 0 } : Room)) (fun a U => a = #[(.ref o0), (.ref o1)] ∧ Z.Warmed39 U.vm ∧ U.heap = h0) (fun _ _ _ _ _ => True) (fun _ U o U' => ∃ v L, o = .returned v ∧ Q_rmO Z o0 o1 h0 n0 v U'.heap L ∧ FrameEnd U o U' L ({ frames := 0, cells := 0, slots := 0, locals := 0 } : Room).cells ({ frames := 0, cells := 0, slots := 0, locals := 0 } : Room).slots) := by
  refine MetFree.of_bodySF (plainFor_of_name pn_java_util_Objects) hisR ?_
  intro p e s m args below meth c s₁ Bd hml0 hP hK
  obtain ⟨rfl, hZ, hh⟩ := hP
  have hx := Bd.exec
  have hby := Bd.bytes
  have hml : c.maxLocals = 2 := hml0
  have hown : s.vm.findClass "java/util/Objects" = some m.cls := findClass_of_methodNamed Bd.named
  have hnm := (name_of_methodNamed Bd.named Bd.method).1
  have hlk := Bd.notSynchronized
  have X0 : Stand p l e ({ frames := 0, cells := 0, slots := 0, locals := 0 } : Room) s m #[(.ref o0), (.ref o1)] below meth c s₁ [] 0 0 := Stand.of_body Bd
  have e0 : s₁.heap = h0 := by rw [← hh, Bd.state]; rfl
  have N0 := Fr.nil n0
  show own_G p.tables e below s (Q_rmO Z o0 o1 h0 n0) ({ frames := 0, cells := 0, slots := 0, locals := 0 } : Room).cells ({ frames := 0, cells := 0, slots := 0, locals := 0 } : Room).slots _
  refine own_thr (a := s₁.setTop (mkF m 0 #[.val (.ref o0), .val (.ref o1)] [])) (fun t kt => castTop (ef_rmO m o0 o1) kt) ?_
  refine own_thr (a := s₁.setTop (mkF m 14 #[.val (.ref o0), .val (.ref o1)] [(.ref o0)])) (fun t kt => ?_) ?_
  · show Steps p.tables e below (s₁.setTop (mkF m 0 #[.val (.ref o0), .val (.ref o1)] [])) _
    refine XS.aloadN X0.here hx rfl (hb hby d9_0) rfl rfl ?_
    refine XS.ifnonnullYes X0.here hx rfl (pc0 := 1) (pc' := 13) rfl (hb hby d9_1) rfl (by decide) (by decide) ?_
    refine XS.aloadN X0.here hx rfl (hb hby d9_13) rfl rfl ?_
    exact kt
  exact own_end X0 hlk (v := some (.ref o0)) (fun h => by rw [Bd.returns] at h; cases h) (fun fs hr => retA X0 hx Bd.returns rfl rfl (hb hby d9_14) hr) (by rw [e0]; exact ⟨rfl, N0, rfl⟩) (by decide : 0 ≤ _) (by decide : 0 ≤ _)
theorem d18_0 : decode prog_8_method_9_code 0 = .ok (.iload_n 0, 1) := by decide +kernel
theorem d18_1 : decode prog_8_method_9_code 1 = .ok (.bipush 32, 2) := by decide +kernel
theorem d18_3 : decode prog_8_method_9_code 3 = .ok (.if_icmp .lt 13, 3) := by decide +kernel
theorem d18_16 : decode prog_8_method_9_code 16 = .ok (.iconst 0, 1) := by decide +kernel
theorem d18_17 : decode prog_8_method_9_code 17 = .ok (.ireturn, 1) := by decide +kernel
theorem d18_6 : decode prog_8_method_9_code 6 = .ok (.iload_n 0, 1) := by decide +kernel
theorem d18_7 : decode prog_8_method_9_code 7 = .ok (.bipush 126, 2) := by decide +kernel
theorem d18_9 : decode prog_8_method_9_code 9 = .ok (.if_icmp .gt 7, 3) := by decide +kernel
theorem d18_12 : decode prog_8_method_9_code 12 = .ok (.iconst 1, 1) := by decide +kernel
theorem d18_13 : decode prog_8_method_9_code 13 = .ok (.goto 4, 3) := by decide +kernel
theorem pn_com_example_chronoshard_chronoshard_model_Limits : plainName "com/example/chronoshard/chronoshard/model/Limits" = true := by first | (simp [plainName, overriddenIn]; done) | decide +kernel
theorem ef_rmLam (m : MethodId) (p0 : Int32)  : entryFrame m #[(.int p0)] 1 = mkF m 0 #[.val (.int p0)] [] := by first |  (simp [entryFrame, mkF, argsToLocals, Value.category]; done) | rfl
def f_rmLam (p0 : Int32) : Int32 := if p0 < (32 : Int32) then (0 : Int32) else if (126 : Int32) < p0 then (0 : Int32) else (1 : Int32)
def Q_rmLam (Z : State) (p0 : Int32) (h0 : Heap) (n0 : Nat) (v : Option Value) (h : Heap) (L : List Loc) : Prop := v = some (.int (f_rmLam p0)) ∧ Fr n0 L ∧ h = h0
set_option maxRecDepth 65536 in
set_option maxHeartbeats 40000000 in
theorem rmLam (l : Launch) (Z : State) (a0 : Array Value) (hw : ∀ d ∈ tables_1, d.before a0 Z = true) (ws : List Jvm.Cond) (p0 : Int32) (h0 : Heap) (n0 : Nat) (Z0 : n0 ≤ h0.size) :
    MetFree l (⟨"com/example/chronoshard/chronoshard/model/Limits", "lambda$checkInstanceId$1", "(I)Z"⟩ : MethodName) (head1 (Jvm.Cond.code (⟨"com/example/chronoshard/chronoshard/model/Limits", "lambda$checkInstanceId$1", "(I)Z"⟩ : MethodName) prog_8_method_9_code 1 (some .boolean) :: ws) ({ frames := 0, cells := 0, slots := 0, locals := 0 } : Room)) (fun a U => a = #[(.int p0)] ∧ Z.Warmed39 U.vm ∧ U.heap = h0) (fun _ _ _ _ _ => True) (fun _ U o U' => ∃ v L, o = .returned v ∧ Q_rmLam Z p0 h0 n0 v U'.heap L ∧ FrameEnd U o U' L ({ frames := 0, cells := 0, slots := 0, locals := 0 } : Room).cells ({ frames := 0, cells := 0, slots := 0, locals := 0 } : Room).slots) := by
  refine MetFree.of_bodySF (plainFor_of_name pn_com_example_chronoshard_chronoshard_model_Limits) hisR ?_
  intro p e s m args below meth c s₁ Bd hml0 hP hK
  obtain ⟨rfl, hZ, hh⟩ := hP
  have hx := Bd.exec
  have hby := Bd.bytes
  have hml : c.maxLocals = 1 := hml0
  have hown : s.vm.findClass "com/example/chronoshard/chronoshard/model/Limits" = some m.cls := findClass_of_methodNamed Bd.named
  have hnm := (name_of_methodNamed Bd.named Bd.method).1
  have hlk := Bd.notSynchronized
  have X0 : Stand p l e ({ frames := 0, cells := 0, slots := 0, locals := 0 } : Room) s m #[(.int p0)] below meth c s₁ [] 0 0 := Stand.of_body Bd
  have e0 : s₁.heap = h0 := by rw [← hh, Bd.state]; rfl
  have N0 := Fr.nil n0
  show own_G p.tables e below s (Q_rmLam Z p0 h0 n0) ({ frames := 0, cells := 0, slots := 0, locals := 0 } : Room).cells ({ frames := 0, cells := 0, slots := 0, locals := 0 } : Room).slots _
  refine own_thr (a := s₁.setTop (mkF m 0 #[.val (.int p0)] [])) (fun t kt => castTop (ef_rmLam m p0) kt) ?_
  refine own_thr (a := s₁.setTop (mkF m 3 #[.val (.int p0)] [(.int (32 : Int32)), (.int p0)])) (fun t kt => ?_) ?_
  · show Steps p.tables e below (s₁.setTop (mkF m 0 #[.val (.int p0)] [])) _
    refine XS.iloadN X0.here hx rfl (hb hby d18_0) rfl ?_
    refine XS.bipush X0.here hx rfl (hb hby d18_1) ?_
    exact kt
  by_cases hc1 : p0 < (32 : Int32)
  · refine own_thr (a := s₁.setTop (mkF m 17 #[.val (.int p0)] [(.int (0 : Int32))])) (fun t kt => ?_) ?_
    · show Steps p.tables e below (s₁.setTop (mkF m 3 #[.val (.int p0)] [(.int (32 : Int32)), (.int p0)])) _
      refine XS.icmpYes X0.here hx rfl (pc0 := 3) (pc' := 16) rfl (hb hby d18_3) rfl (tlt hc1).1 (by decide) (by decide) ?_
      refine XS.iconst X0.here hx rfl (hb hby d18_16) ?_
      exact kt
    exact own_end X0 hlk (v := some (.int (0 : Int32))) (fun h => by rw [Bd.returns] at h; cases h) (fun fs hr => retN X0 hx (t := .boolean) Bd.returns (by simp) (hb hby d18_17) hr) (by rw [e0]; exact ⟨(by rw [f_rmLam, if_pos hc1]), N0, rfl⟩) (by decide : 0 ≤ _) (by decide : 0 ≤ _)
  · refine own_thr (a := s₁.setTop (mkF m 9 #[.val (.int p0)] [(.int (126 : Int32)), (.int p0)])) (fun t kt => ?_) ?_
    · show Steps p.tables e below (s₁.setTop (mkF m 3 #[.val (.int p0)] [(.int (32 : Int32)), (.int p0)])) _
      refine XS.icmpNo X0.here hx rfl (hb hby d18_3) rfl (flt hc1).1 ?_
      refine XS.iloadN X0.here hx rfl (hb hby d18_6) rfl ?_
      refine XS.bipush X0.here hx rfl (hb hby d18_7) ?_
      exact kt
    by_cases hc2 : (126 : Int32) < p0
    · refine own_thr (a := s₁.setTop (mkF m 17 #[.val (.int p0)] [(.int (0 : Int32))])) (fun t kt => ?_) ?_
      · show Steps p.tables e below (s₁.setTop (mkF m 9 #[.val (.int p0)] [(.int (126 : Int32)), (.int p0)])) _
        refine XS.icmpYes X0.here hx rfl (pc0 := 9) (pc' := 16) rfl (hb hby d18_9) rfl (tlt hc2).2.2.1 (by decide) (by decide) ?_
        refine XS.iconst X0.here hx rfl (hb hby d18_16) ?_
        exact kt
      exact own_end X0 hlk (v := some (.int (0 : Int32))) (fun h => by rw [Bd.returns] at h; cases h) (fun fs hr => retN X0 hx (t := .boolean) Bd.returns (by simp) (hb hby d18_17) hr) (by rw [e0]; exact ⟨(by rw [f_rmLam, if_neg hc1, if_pos hc2]), N0, rfl⟩) (by decide : 0 ≤ _) (by decide : 0 ≤ _)
    · refine own_thr (a := s₁.setTop (mkF m 17 #[.val (.int p0)] [(.int (1 : Int32))])) (fun t kt => ?_) ?_
      · show Steps p.tables e below (s₁.setTop (mkF m 9 #[.val (.int p0)] [(.int (126 : Int32)), (.int p0)])) _
        refine XS.icmpNo X0.here hx rfl (hb hby d18_9) rfl (flt hc2).2.2.1 ?_
        refine XS.iconst X0.here hx rfl (hb hby d18_12) ?_
        refine XS.goto X0.here hx rfl (pc0 := 13) (pc' := 17) rfl (hb hby d18_13) (by decide) (by decide) ?_
        exact kt
      exact own_end X0 hlk (v := some (.int (1 : Int32))) (fun h => by rw [Bd.returns] at h; cases h) (fun fs hr => retN X0 hx (t := .boolean) Bd.returns (by simp) (hb hby d18_17) hr) (by rw [e0]; exact ⟨(by rw [f_rmLam, if_neg hc1, if_neg hc2]), N0, rfl⟩) (by decide : 0 ≤ _) (by decide : 0 ≤ _)
theorem own_l1 {c : Int32} (H : 32 ≤ c.toInt ∧ c.toInt ≤ 126) : f_rmLam c = 1 := by
  have h0 : (32 : Int32).toInt = 32 := rfl
  have h1 : (126 : Int32).toInt = 126 := rfl
  unfold f_rmLam
  rw [if_neg (by rw [Int32.lt_iff_toInt_lt]; omega), if_neg (by rw [Int32.lt_iff_toInt_lt]; omega)]
theorem d8_0 : decode prog_8_method_7_code 0 = .ok (.aload_n 1, 1) := by decide +kernel
theorem d8_1 : decode prog_8_method_7_code 1 = .ok (.aload_n 0, 1) := by decide +kernel
theorem pd__28Ljava_2flang_2fObject_3bLjava_2flang_2fString_3b_29Ljava_2flang_2fObject_3b : parseMethodDescriptor "(Ljava/lang/Object;Ljava/lang/String;)Ljava/lang/Object;" = some ⟨[(.object "java/lang/Object"), (.object "java/lang/String")], some (.object "java/lang/Object")⟩ := by decide +kernel
theorem d8_2 : decode prog_8_method_7_code 2 = .ok (.invokestatic 35, 3) := by decide +kernel
theorem d8_5 : decode prog_8_method_7_code 5 = .ok (.pop, 1) := by decide +kernel
theorem d8_6 : decode prog_8_method_7_code 6 = .ok (.aload_n 1, 1) := by decide +kernel
theorem d8_7 : decode prog_8_method_7_code 7 = .ok (.invokevirtual 51, 3) := by decide +kernel
theorem d8_10 : decode prog_8_method_7_code 10 = .ok (.ifCond .ne 11, 3) := by decide +kernel
theorem d8_13 : decode prog_8_method_7_code 13 = .ok (.aload_n 1, 1) := by decide +kernel
theorem pd__28_29I : parseMethodDescriptor "()I" = some ⟨[], some .int⟩ := by decide +kernel
theorem d8_14 : decode prog_8_method_7_code 14 = .ok (.invokevirtual 57, 3) := by decide +kernel
theorem d8_17 : decode prog_8_method_7_code 17 = .ok (.iload_n 2, 1) := by decide +kernel
theorem d8_18 : decode prog_8_method_7_code 18 = .ok (.if_icmp .le 22, 3) := by decide +kernel
theorem d8_40 : decode prog_8_method_7_code 40 = .ok (.iconst 0, 1) := by decide +kernel
theorem d8_41 : decode prog_8_method_7_code 41 = .ok (.istore 5, 2) := by decide +kernel
theorem d8_43 : decode prog_8_method_7_code 43 = .ok (.iload 5, 2) := by decide +kernel
theorem d8_45 : decode prog_8_method_7_code 45 = .ok (.aload_n 1, 1) := by decide +kernel
theorem d8_46 : decode prog_8_method_7_code 46 = .ok (.invokevirtual 57, 3) := by decide +kernel
theorem d8_49 : decode prog_8_method_7_code 49 = .ok (.if_icmp .ge 34, 3) := by decide +kernel
theorem d8_52 : decode prog_8_method_7_code 52 = .ok (.aload 4, 2) := by decide +kernel
theorem d8_54 : decode prog_8_method_7_code 54 = .ok (.aload_n 1, 1) := by decide +kernel
theorem d8_55 : decode prog_8_method_7_code 55 = .ok (.iload 5, 2) := by decide +kernel
theorem pd__28I_29C : parseMethodDescriptor "(I)C" = some ⟨[.int], some .char⟩ := by decide +kernel
theorem d8_57 : decode prog_8_method_7_code 57 = .ok (.invokevirtual 64, 3) := by decide +kernel
theorem pd__28I_29Z : parseMethodDescriptor "(I)Z" = some ⟨[.int], some .boolean⟩ := by decide +kernel
theorem d8_60 : decode prog_8_method_7_code 60 = .ok (.invokeinterface 68 2, 5) := by decide +kernel
theorem d8_65 : decode prog_8_method_7_code 65 = .ok (.ifCond .ne 12, 3) := by decide +kernel
theorem d8_77 : decode prog_8_method_7_code 77 = .ok (.iinc 5 1, 3) := by decide +kernel
theorem d8_80 : decode prog_8_method_7_code 80 = .ok (.goto (-37), 3) := by decide +kernel
theorem d8_83 : decode prog_8_method_7_code 83 = .ok (.aload_n 1, 1) := by decide +kernel
theorem d8_84 : decode prog_8_method_7_code 84 = .ok (.areturn, 1) := by decide +kernel
theorem ef_rmT1 (m : MethodId) (o0 : Addr) (o1 : Addr) (o3 : Addr) (fa : Addr)  : entryFrame m #[(.ref o0), (.ref o1), (.int (200 : Int32)), (.ref o3), (.ref fa)] 6 = mkF m 0 #[.val (.ref o0), .val (.ref o1), .val (.int (200 : Int32)), .val (.ref o3), .val (.ref fa), .unset] [] := by first |  (simp [entryFrame, mkF, argsToLocals, Value.category]; done) | rfl
def Q_rmT1 (Z : State) (o0 : Addr) (o1 : Addr) (o3 : Addr) (fa : Addr) (sv : Addr) (ks : ClassId) (w0 : Int32) (cs : Int32) (fm : Value) (cK : ClassId) (h0 : Heap) (n0 : Nat) (v : Option Value) (h : Heap) (L : List Loc) : Prop := v = some (.ref o1) ∧ Fr n0 L ∧ h = h0
set_option maxRecDepth 65536 in
set_option maxHeartbeats 40000000 in
theorem rmT1 (l : Launch) (Z : State) (a0 : Array Value) (hw : ∀ d ∈ tables_1, d.before a0 Z = true) (ws : List Jvm.Cond) (o0 : Addr) (o1 : Addr) (o3 : Addr) (fa : Addr) (sv : Addr) (ks : ClassId) (w0 : Int32) (cs : Int32) (fm : Value) (cK : ClassId) (h0 : Heap) (n0 : Nat) (Z0 : n0 ≤ h0.size) (E_o1 : Exa Z h0 o1 "java/lang/String") (F_value_o1 : Fld Z h0 o1 "java/lang/String" "value" "[B" (.ref sv)) (F_coder_o1 : Fld Z h0 o1 "java/lang/String" "coder" "B" (.int (0 : Int32))) (V_sv : Arv Z h0 sv ks .byte (1 : Int32) [(.int w0)] (.int (0 : Int32))) (S_cs : Sta Z Z.heap "java/lang/String" "COMPACT_STRINGS" "Z" (.int cs)) (hcs : ¬ cs = (0 : Int32)) (S_fm : Sta Z Z.heap "jdk/internal/util/Preconditions" "SIOOBE_FORMATTER" "Ljava/util/function/BiFunction;" fm) (hfm : fm.isRef = true) (hO : Old Z n0 h0) (hfn : Jvm.LamKit.own_Fn Z "com/example/chronoshard/chronoshard/model/Limits" own_sig fa cK) (Hw0 : 32 ≤ w0.toInt ∧ w0.toInt ≤ 126) :
    MetFree l (⟨"com/example/chronoshard/chronoshard/model/Limits", "checkText", "(Ljava/lang/String;Ljava/lang/String;ILjava/lang/String;Ljava/util/function/IntPredicate;)Ljava/lang/String;"⟩ : MethodName) (head1 (Jvm.Cond.code (⟨"com/example/chronoshard/chronoshard/model/Limits", "checkText", "(Ljava/lang/String;Ljava/lang/String;ILjava/lang/String;Ljava/util/function/IntPredicate;)Ljava/lang/String;"⟩ : MethodName) prog_8_method_7_code 6 (some (.object "java/lang/String")) :: ws) ({ frames := 4, cells := 0, slots := 0, locals := 54 } : Room)) (fun a U => a = #[(.ref o0), (.ref o1), (.int (200 : Int32)), (.ref o3), (.ref fa)] ∧ Z.Warmed39 U.vm ∧ U.heap = h0) (fun _ _ _ _ _ => True) (fun _ U o U' => ∃ v L, o = .returned v ∧ Q_rmT1 Z o0 o1 o3 fa sv ks w0 cs fm cK h0 n0 v U'.heap L ∧ FrameEnd U o U' L ({ frames := 4, cells := 0, slots := 0, locals := 54 } : Room).cells ({ frames := 4, cells := 0, slots := 0, locals := 54 } : Room).slots) := by
  refine MetFree.of_bodySF (plainFor_of_name pn_com_example_chronoshard_chronoshard_model_Limits) hisR ?_
  intro p e s m args below meth c s₁ Bd hml0 hP hK
  obtain ⟨rfl, hZ, hh⟩ := hP
  have hx := Bd.exec
  have hby := Bd.bytes
  have hml : c.maxLocals = 6 := hml0
  have hown : s.vm.findClass "com/example/chronoshard/chronoshard/model/Limits" = some m.cls := findClass_of_methodNamed Bd.named
  have hnm := (name_of_methodNamed Bd.named Bd.method).1
  have hlk := Bd.notSynchronized
  have X0 : Stand p l e ({ frames := 4, cells := 0, slots := 0, locals := 54 } : Room) s m #[(.ref o0), (.ref o1), (.int (200 : Int32)), (.ref o3), (.ref fa)] below meth c s₁ [] 0 0 := Stand.of_body Bd
  have e0 : s₁.heap = h0 := by rw [← hh, Bd.state]; rfl
  have N0 := Fr.nil n0
  show own_G p.tables e below s (Q_rmT1 Z o0 o1 o3 fa sv ks w0 cs fm cK h0 n0) ({ frames := 4, cells := 0, slots := 0, locals := 54 } : Room).cells ({ frames := 4, cells := 0, slots := 0, locals := 54 } : Room).slots _
  refine own_thr (a := s₁.setTop (mkF m 0 #[.val (.ref o0), .val (.ref o1), .val (.int (200 : Int32)), .val (.ref o3), .val (.ref fa), .unset] [])) (fun t kt => castTop (ef_rmT1 m o0 o1 o3 fa) kt) ?_
  refine own_thr (a := s₁.setTop (mkF m 2 #[.val (.ref o0), .val (.ref o1), .val (.int (200 : Int32)), .val (.ref o3), .val (.ref fa), .unset] [(.ref o0), (.ref o1)])) (fun t kt => ?_) ?_
  · show Steps p.tables e below (s₁.setTop (mkF m 0 #[.val (.ref o0), .val (.ref o1), .val (.int (200 : Int32)), .val (.ref o3), .val (.ref fa), .unset] [])) _
    refine XS.aloadN X0.here hx rfl (hb hby d8_0) rfl rfl ?_
    refine XS.aloadN X0.here hx rfl (hb hby d8_1) rfl rfl ?_
    exact kt
  obtain ⟨_, _, ⟨T1, L1, k1, n1⟩, -, X1, ⟨Lc1, hQ1, l1, y1, z1⟩, st1⟩ := Jvm.LawKit.callS X0 hx (y := (⟨"java/util/Objects", "requireNonNull", "(Ljava/lang/Object;Ljava/lang/String;)Ljava/lang/Object;"⟩ : MethodName)) hown (mvT hZ (hw _ (List.mem_of_getElem? (i := 45) rfl))) (mvT hZ (hw _ (List.mem_of_getElem? (i := 46) rfl))) (mvT hZ (hw _ (List.mem_of_getElem? (i := 47) rfl))) (mvT hZ (hw _ (List.mem_of_getElem? (i := 48) rfl))) (by decide) (backOf (W := 0) (rmO l Z a0 hw [] o1 o0 h0 n0 Z0) hZ (hw _ (List.mem_of_getElem? (i := 48) rfl)) (hw _ (List.mem_of_getElem? (i := 47) rfl)) (by decide) (by decide)) (g := (mkF m 2 #[.val (.ref o0), .val (.ref o1), .val (.int (200 : Int32)), .val (.ref o3), .val (.ref fa), .unset] [(.ref o0), (.ref o1)])) rfl (by rw [hml]; rfl) (argsL := [(.ref o1), (.ref o0)]) (rest := []) (lenOf pd__28Ljava_2flang_2fObject_3bLjava_2flang_2fString_3b_29Ljava_2flang_2fObject_3b rfl) rfl (by show 2 * 0 + _ ≤ _; exact Nat.le_of_eq rfl) (hb hby d8_2) (fun _ _ => ⟨rfl, e0, (by decide : 0 + 0 ≤ _), (by decide : 0 + 0 ≤ _)⟩)
  dsimp only [Pt.U, Pt.locs, Pt.cells, Pt.slots] at X1 l1 y1 z1 st1 hQ1
  obtain ⟨rfl, N1q, e1⟩ := hQ1
  obtain ⟨lc1, X1, N1⟩ := own_pack X1 l1 y1 z1 N0 N1q (C := 0) (S' := 0) rfl rfl
  refine own_thr (a := T1.setTop (mkF m 5 #[.val (.ref o0), .val (.ref o1), .val (.int (200 : Int32)), .val (.ref o3), .val (.ref fa), .unset] [(.ref o1)])) (fun t kt => st1 t kt) ?_
  refine own_thr (a := T1.setTop (mkF m 7 #[.val (.ref o0), .val (.ref o1), .val (.int (200 : Int32)), .val (.ref o3), .val (.ref fa), .unset] [(.ref o1)])) (fun t kt => ?_) ?_
  · show Steps p.tables e below (T1.setTop (mkF m 5 #[.val (.ref o0), .val (.ref o1), .val (.int (200 : Int32)), .val (.ref o3), .val (.ref fa), .unset] [(.ref o1)])) _
    refine XS.pop X1.here hx rfl (hb hby d8_5) rfl rfl ?_
    refine XS.aloadN X1.here hx rfl (hb hby d8_6) rfl rfl ?_
    exact kt
  obtain ⟨cq2, kq2, q2a, q2b, q2c⟩ := isOf hZ e1 E_o1
  obtain ⟨_, _, ⟨T2, L2, k2, n2⟩, -, X2, ⟨Lc2, hQ2, l2, y2, z2⟩, st2⟩ := X1.virtualBack hx (y := (⟨"java/lang/String", "isEmpty", "()Z"⟩ : MethodName)) (z := (⟨"java/lang/String", "isEmpty", "()Z"⟩ : MethodName)) hown (mvT hZ (hw _ (List.mem_of_getElem? (i := 49) rfl))) (mvT hZ (hw _ (List.mem_of_getElem? (i := 50) rfl))) (notFace_of_selects (args := #[]) (mvT hZ (hw _ (List.mem_of_getElem? (i := 52) rfl)))) (mvT hZ (hw _ (List.mem_of_getElem? (i := 52) rfl))) (mvT hZ (hw _ (List.mem_of_getElem? (i := 51) rfl))) (by decide) (backOf (W := 0) (rmEM1 l Z a0 hw [] o1 sv ks [(.int w0)] h0 n0 Z0 E_o1 F_value_o1 F_coder_o1 V_sv) hZ (hw _ (List.mem_of_getElem? (i := 53) rfl)) (hw _ (List.mem_of_getElem? (i := 7) rfl)) (by decide) (by decide)) q2a q2c (g := (mkF m 7 #[.val (.ref o0), .val (.ref o1), .val (.int (200 : Int32)), .val (.ref o3), .val (.ref fa), .unset] [(.ref o1)])) rfl (by rw [hml]; rfl) (Steps.refl _) (argsL := []) (rest := []) (lenOf pd__28_29Z rfl) rfl (by show 2 * 0 + _ ≤ _; exact Nat.le_of_eq rfl) (hb hby d8_7) (fun _ _ => ⟨rfl, e1, (by decide : 0 + 0 ≤ _), (by decide : 0 + 0 ≤ _)⟩)
  dsimp only [Pt.U, Pt.locs, Pt.cells, Pt.slots] at X2 l2 y2 z2 st2 hQ2
  obtain ⟨rfl, N2q, e2⟩ := hQ2
  obtain ⟨lc2, X2, N2⟩ := own_pack X2 l2 y2 z2 N1 N2q (C := 0) (S' := 0) rfl rfl
  refine own_thr (a := T2.setTop (mkF m 10 #[.val (.ref o0), .val (.ref o1), .val (.int (200 : Int32)), .val (.ref o3), .val (.ref fa), .unset] [(.int (0 : Int32))])) (fun t kt => st2.trans kt) ?_
  have S3 := S_cs.ext hO.2
  refine own_thr (a := T2.setTop (mkF m 14 #[.val (.ref o0), .val (.ref o1), .val (.int (200 : Int32)), .val (.ref o3), .val (.ref fa), .unset] [(.ref o1)])) (fun t kt => ?_) ?_
  · show Steps p.tables e below (T2.setTop (mkF m 10 #[.val (.ref o0), .val (.ref o1), .val (.int (200 : Int32)), .val (.ref o3), .val (.ref fa), .unset] [(.int (0 : Int32))])) _
    refine XS.ifNo X2.here hx rfl (hb hby d8_10) rfl ((if0 _ _).trans (teq rfl).2) ?_
    refine XS.aloadN X2.here hx rfl (hb hby d8_13) rfl rfl ?_
    exact kt
  obtain ⟨cq4, kq4, q4a, q4b, q4c⟩ := isOf hZ e2 E_o1
  obtain ⟨_, _, ⟨T4, L4, k4, n4⟩, -, X4, ⟨Lc4, hQ4, l4, y4, z4⟩, st4⟩ := X2.virtualBack hx (y := (⟨"java/lang/String", "length", "()I"⟩ : MethodName)) (z := (⟨"java/lang/String", "length", "()I"⟩ : MethodName)) hown (mvT hZ (hw _ (List.mem_of_getElem? (i := 54) rfl))) (mvT hZ (hw _ (List.mem_of_getElem? (i := 55) rfl))) (notFace_of_selects (args := #[]) (mvT hZ (hw _ (List.mem_of_getElem? (i := 57) rfl)))) (mvT hZ (hw _ (List.mem_of_getElem? (i := 57) rfl))) (mvT hZ (hw _ (List.mem_of_getElem? (i := 56) rfl))) (by decide) (backOf (W := 0) (rmLN1 l Z a0 hw [] o1 sv ks [(.int w0)] cs h0 n0 Z0 E_o1 F_value_o1 F_coder_o1 V_sv S3 hcs) hZ (hw _ (List.mem_of_getElem? (i := 58) rfl)) (hw _ (List.mem_of_getElem? (i := 7) rfl)) (by decide) (by decide)) q4a q4c (g := (mkF m 14 #[.val (.ref o0), .val (.ref o1), .val (.int (200 : Int32)), .val (.ref o3), .val (.ref fa), .unset] [(.ref o1)])) rfl (by rw [hml]; rfl) (Steps.refl _) (argsL := []) (rest := []) (lenOf pd__28_29I rfl) rfl (by show 2 * 0 + _ ≤ _; exact Nat.le_of_eq rfl) (hb hby d8_14) (fun _ _ => ⟨rfl, e2, (by decide : 0 + 0 ≤ _), (by decide : 0 + 0 ≤ _)⟩)
  dsimp only [Pt.U, Pt.locs, Pt.cells, Pt.slots] at X4 l4 y4 z4 st4 hQ4
  obtain ⟨rfl, N4q, e4⟩ := hQ4
  obtain ⟨lc4, X4, N4⟩ := own_pack X4 l4 y4 z4 N2 N4q (C := 0) (S' := 0) rfl rfl
  refine own_thr (a := T4.setTop (mkF m 17 #[.val (.ref o0), .val (.ref o1), .val (.int (200 : Int32)), .val (.ref o3), .val (.ref fa), .unset] [(.int (1 : Int32))])) (fun t kt => st4.trans kt) ?_
  have S5 := S_cs.ext hO.2
  refine own_thr (a := T4.setTop (mkF m 46 #[.val (.ref o0), .val (.ref o1), .val (.int (200 : Int32)), .val (.ref o3), .val (.ref fa), .val (.int (0 : Int32))] [(.ref o1), (.int (0 : Int32))])) (fun t kt => ?_) ?_
  · show Steps p.tables e below (T4.setTop (mkF m 17 #[.val (.ref o0), .val (.ref o1), .val (.int (200 : Int32)), .val (.ref o3), .val (.ref fa), .unset] [(.int (1 : Int32))])) _
    refine XS.iloadN X4.here hx rfl (hb hby d8_17) rfl ?_
    refine XS.icmpYes X4.here hx rfl (pc0 := 18) (pc' := 40) rfl (hb hby d8_18) rfl (flt (by decide)).2.2.2 (by decide) (by decide) ?_
    refine XS.iconst X4.here hx rfl (hb hby d8_40) ?_
    refine XS.istore X4.here hx rfl (hb hby d8_41) rfl (l' := #[.val (.ref o0), .val (.ref o1), .val (.int (200 : Int32)), .val (.ref o3), .val (.ref fa), .val (.int (0 : Int32))]) rfl ?_
    refine XS.iload X4.here hx rfl (hb hby d8_43) rfl ?_
    refine XS.aloadN X4.here hx rfl (hb hby d8_45) rfl rfl ?_
    exact kt
  obtain ⟨cq6, kq6, q6a, q6b, q6c⟩ := isOf hZ e4 E_o1
  obtain ⟨_, _, ⟨T6, L6, k6, n6⟩, -, X6, ⟨Lc6, hQ6, l6, y6, z6⟩, st6⟩ := X4.virtualBack hx (y := (⟨"java/lang/String", "length", "()I"⟩ : MethodName)) (z := (⟨"java/lang/String", "length", "()I"⟩ : MethodName)) hown (mvT hZ (hw _ (List.mem_of_getElem? (i := 54) rfl))) (mvT hZ (hw _ (List.mem_of_getElem? (i := 55) rfl))) (notFace_of_selects (args := #[]) (mvT hZ (hw _ (List.mem_of_getElem? (i := 57) rfl)))) (mvT hZ (hw _ (List.mem_of_getElem? (i := 57) rfl))) (mvT hZ (hw _ (List.mem_of_getElem? (i := 56) rfl))) (by decide) (backOf (W := 1) (rmLN1 l Z a0 hw [] o1 sv ks [(.int w0)] cs h0 n0 Z0 E_o1 F_value_o1 F_coder_o1 V_sv S5 hcs) hZ (hw _ (List.mem_of_getElem? (i := 58) rfl)) (hw _ (List.mem_of_getElem? (i := 7) rfl)) (by decide) (by decide)) q6a q6c (g := (mkF m 46 #[.val (.ref o0), .val (.ref o1), .val (.int (200 : Int32)), .val (.ref o3), .val (.ref fa), .val (.int (0 : Int32))] [(.ref o1), (.int (0 : Int32))])) rfl (by rw [hml]; rfl) (Steps.refl _) (argsL := []) (rest := [(.int (0 : Int32))]) (lenOf pd__28_29I rfl) rfl (by show 2 * 0 + _ ≤ _; exact Nat.le_of_eq rfl) (hb hby d8_46) (fun _ _ => ⟨rfl, e4, (by decide : 0 + 0 ≤ _), (by decide : 0 + 0 ≤ _)⟩)
  dsimp only [Pt.U, Pt.locs, Pt.cells, Pt.slots] at X6 l6 y6 z6 st6 hQ6
  obtain ⟨rfl, N6q, e6⟩ := hQ6
  obtain ⟨lc6, X6, N6⟩ := own_pack X6 l6 y6 z6 N4 N6q (C := 0) (S' := 0) rfl rfl
  refine own_thr (a := T6.setTop (mkF m 49 #[.val (.ref o0), .val (.ref o1), .val (.int (200 : Int32)), .val (.ref o3), .val (.ref fa), .val (.int (0 : Int32))] [(.int (1 : Int32)), (.int (0 : Int32))])) (fun t kt => st6.trans kt) ?_
  have S7 := S_cs.ext hO.2
  have S8 := S_fm.ext hO.2
  refine own_thr (a := T6.setTop (mkF m 57 #[.val (.ref o0), .val (.ref o1), .val (.int (200 : Int32)), .val (.ref o3), .val (.ref fa), .val (.int (0 : Int32))] [(.int (0 : Int32)), (.ref o1), (.ref fa)])) (fun t kt => ?_) ?_
  · show Steps p.tables e below (T6.setTop (mkF m 49 #[.val (.ref o0), .val (.ref o1), .val (.int (200 : Int32)), .val (.ref o3), .val (.ref fa), .val (.int (0 : Int32))] [(.int (1 : Int32)), (.int (0 : Int32))])) _
    refine XS.icmpNo X6.here hx rfl (hb hby d8_49) rfl (tlt (by decide)).2.1 ?_
    refine XS.aload X6.here hx rfl (hb hby d8_52) rfl rfl ?_
    refine XS.aloadN X6.here hx rfl (hb hby d8_54) rfl rfl ?_
    refine XS.iload X6.here hx rfl (hb hby d8_55) rfl ?_
    exact kt
  obtain ⟨cq9, kq9, q9a, q9b, q9c⟩ := isOf hZ e6 E_o1
  obtain ⟨_, _, ⟨T9, L9, k9, n9⟩, -, X9, ⟨Lc9, hQ9, l9, y9, z9⟩, st9⟩ := X6.virtualBack hx (y := (⟨"java/lang/String", "charAt", "(I)C"⟩ : MethodName)) (z := (⟨"java/lang/String", "charAt", "(I)C"⟩ : MethodName)) hown (mvT hZ (hw _ (List.mem_of_getElem? (i := 64) rfl))) (mvT hZ (hw _ (List.mem_of_getElem? (i := 65) rfl))) (notFace_of_selects (args := #[]) (mvT hZ (hw _ (List.mem_of_getElem? (i := 67) rfl)))) (mvT hZ (hw _ (List.mem_of_getElem? (i := 67) rfl))) (mvT hZ (hw _ (List.mem_of_getElem? (i := 66) rfl))) (by decide) (backOf (W := 1) (rmCA10 l Z a0 hw [] o1 sv ks w0 cs fm h0 n0 Z0 E_o1 F_value_o1 F_coder_o1 V_sv S7 S8 hcs hfm) hZ (hw _ (List.mem_of_getElem? (i := 68) rfl)) (hw _ (List.mem_of_getElem? (i := 7) rfl)) (by decide) (by decide)) q9a q9c (g := (mkF m 57 #[.val (.ref o0), .val (.ref o1), .val (.int (200 : Int32)), .val (.ref o3), .val (.ref fa), .val (.int (0 : Int32))] [(.int (0 : Int32)), (.ref o1), (.ref fa)])) rfl (by rw [hml]; rfl) (Steps.refl _) (argsL := [(.int (0 : Int32))]) (rest := [(.ref fa)]) (lenOf pd__28I_29C rfl) rfl (by show 2 * 0 + _ ≤ _; exact Nat.le_of_eq rfl) (hb hby d8_57) (fun _ _ => ⟨rfl, e6, (by decide : 0 + 0 ≤ _), (by decide : 0 + 0 ≤ _)⟩)
  dsimp only [Pt.U, Pt.locs, Pt.cells, Pt.slots] at X9 l9 y9 z9 st9 hQ9
  obtain ⟨rfl, N9q, e9⟩ := hQ9
  obtain ⟨lc9, X9, N9⟩ := own_pack X9 l9 y9 z9 N6 N9q (C := 0) (S' := 0) rfl rfl
  refine own_thr (a := T9.setTop (mkF m 60 #[.val (.ref o0), .val (.ref o1), .val (.int (200 : Int32)), .val (.ref o3), .val (.ref fa), .val (.int (0 : Int32))] [(.int (nar .char (nar .char ((w0 &&& (255 : Int32)).toUInt32.toUInt16.toUInt32.toInt32)))), (.ref fa)])) (fun t kt => st9.trans kt) ?_
  rw [show (nar .char (nar .char ((w0 &&& (255 : Int32)).toUInt32.toUInt16.toUInt32.toInt32))) = w0 from own_ch Hw0]
  obtain ⟨T10, L10, X10, N10q, e10, st10⟩ := Jvm.LamKit.own_lam X9 hx hZ (own := "com/example/chronoshard/chronoshard/model/Limits") (host := "com/example/chronoshard/chronoshard/model/Limits") (index := 68) (count := 2) (xi := (⟨"java/util/function/IntPredicate", "test", "(I)Z"⟩ : MethodName)) (y := (⟨"com/example/chronoshard/chronoshard/model/Limits", "lambda$checkInstanceId$1", "(I)Z"⟩ : MethodName)) (σ := own_sig) (argsL := [.int w0]) (argsT := [.int w0]) (rest := []) (val := (.int (1 : Int32))) (n0 := n0) (rmLam l Z a0 hw [] w0 h0 n0 Z0) (fun v h' L q => ⟨by rw [q.1, own_l1 Hw0], q.2⟩) hown (mvT hZ (hw _ (List.mem_of_getElem? (i := 85) rfl))) (mvT hZ (hw _ (List.mem_of_getElem? (i := 86) rfl))) (mvT hZ (hw _ (List.mem_of_getElem? (i := 87) rfl))) (mvT hZ (hw _ (List.mem_of_getElem? (i := 89) rfl))) (mvT hZ (hw _ (List.mem_of_getElem? (i := 88) rfl))) (mvT hZ (hw _ (List.mem_of_getElem? (i := 33) rfl))) (by decide +kernel) (by decide +kernel) (by decide) hfn hO e9 own_fwd own_g1 own_g4 (g := (mkF m 60 #[.val (.ref o0), .val (.ref o1), .val (.int (200 : Int32)), .val (.ref o3), .val (.ref fa), .val (.int (0 : Int32))] [(.int w0), (.ref fa)])) rfl (by rw [hml]; rfl) (L0 := #[.val (.ref fa), .val (.int w0)]) (lenOf pd__28I_29Z rfl) (lenOf pd__28I_29Z rfl) rfl (hb hby d8_60) (fun _ => rfl) rfl (fun U ck bl target hU hck _ _ k => XS.iloadN hU hx rfl (hb hck own_g0) rfl k) (Or.inl ⟨.boolean, _, rfl, Or.inr (Or.inl rfl), rfl, rfl, rfl⟩) (by decide) (by show 2 * 0 + 0 + (2 + 11) + ((1 + 11) + 0) ≤ _; decide) (Nat.zero_le _) (Nat.zero_le _)
  obtain ⟨lc10, X10, N10⟩ := own_pack X10 rfl rfl rfl N9 N10q (C := 0) (S' := 0) rfl rfl
  refine own_thr (a := T10.setTop (mkF m 65 #[.val (.ref o0), .val (.ref o1), .val (.int (200 : Int32)), .val (.ref o3), .val (.ref fa), .val (.int (0 : Int32))] [(.int (1 : Int32))])) (fun t kt => st10 t kt) ?_
  have S11 := S_cs.ext hO.2
  refine own_thr (a := T10.setTop (mkF m 46 #[.val (.ref o0), .val (.ref o1), .val (.int (200 : Int32)), .val (.ref o3), .val (.ref fa), .val (.int (1 : Int32))] [(.ref o1), (.int (1 : Int32))])) (fun t kt => ?_) ?_
  · show Steps p.tables e below (T10.setTop (mkF m 65 #[.val (.ref o0), .val (.ref o1), .val (.int (200 : Int32)), .val (.ref o3), .val (.ref fa), .val (.int (0 : Int32))] [(.int (1 : Int32))])) _
    refine XS.ifYes X10.here hx rfl (pc0 := 65) (pc' := 77) rfl (hb hby d8_65) rfl ((if0 _ _).trans (feq (by decide)).2) (by decide) (by decide) ?_
    refine XS.iinc X10.here hx rfl (hb hby d8_77) rfl (l' := #[.val (.ref o0), .val (.ref o1), .val (.int (200 : Int32)), .val (.ref o3), .val (.ref fa), .val (.int (1 : Int32))]) rfl ?_
    refine XS.goto X10.here hx rfl (pc0 := 80) (pc' := 43) rfl (hb hby d8_80) (by decide) (by decide) ?_
    refine XS.iload X10.here hx rfl (hb hby d8_43) rfl ?_
    refine XS.aloadN X10.here hx rfl (hb hby d8_45) rfl rfl ?_
    exact kt
  obtain ⟨cq12, kq12, q12a, q12b, q12c⟩ := isOf hZ e10 E_o1
  obtain ⟨_, _, ⟨T12, L12, k12, n12⟩, -, X12, ⟨Lc12, hQ12, l12, y12, z12⟩, st12⟩ := X10.virtualBack hx (y := (⟨"java/lang/String", "length", "()I"⟩ : MethodName)) (z := (⟨"java/lang/String", "length", "()I"⟩ : MethodName)) hown (mvT hZ (hw _ (List.mem_of_getElem? (i := 54) rfl))) (mvT hZ (hw _ (List.mem_of_getElem? (i := 55) rfl))) (notFace_of_selects (args := #[]) (mvT hZ (hw _ (List.mem_of_getElem? (i := 57) rfl)))) (mvT hZ (hw _ (List.mem_of_getElem? (i := 57) rfl))) (mvT hZ (hw _ (List.mem_of_getElem? (i := 56) rfl))) (by decide) (backOf (W := 1) (rmLN1 l Z a0 hw [] o1 sv ks [(.int w0)] cs h0 n0 Z0 E_o1 F_value_o1 F_coder_o1 V_sv S11 hcs) hZ (hw _ (List.mem_of_getElem? (i := 58) rfl)) (hw _ (List.mem_of_getElem? (i := 7) rfl)) (by decide) (by decide)) q12a q12c (g := (mkF m 46 #[.val (.ref o0), .val (.ref o1), .val (.int (200 : Int32)), .val (.ref o3), .val (.ref fa), .val (.int (1 : Int32))] [(.ref o1), (.int (1 : Int32))])) rfl (by rw [hml]; rfl) (Steps.refl _) (argsL := []) (rest := [(.int (1 : Int32))]) (lenOf pd__28_29I rfl) rfl (by show 2 * 0 + _ ≤ _; exact Nat.le_of_eq rfl) (hb hby d8_46) (fun _ _ => ⟨rfl, e10, (by decide : 0 + 0 ≤ _), (by decide : 0 + 0 ≤ _)⟩)
  dsimp only [Pt.U, Pt.locs, Pt.cells, Pt.slots] at X12 l12 y12 z12 st12 hQ12
  obtain ⟨rfl, N12q, e12⟩ := hQ12
  obtain ⟨lc12, X12, N12⟩ := own_pack X12 l12 y12 z12 N10 N12q (C := 0) (S' := 0) rfl rfl
  refine own_thr (a := T12.setTop (mkF m 49 #[.val (.ref o0), .val (.ref o1), .val (.int (200 : Int32)), .val (.ref o3), .val (.ref fa), .val (.int (1 : Int32))] [(.int (1 : Int32)), (.int (1 : Int32))])) (fun t kt => st12.trans kt) ?_
  refine own_thr (a := T12.setTop (mkF m 84 #[.val (.ref o0), .val (.ref o1), .val (.int (200 : Int32)), .val (.ref o3), .val (.ref fa), .val (.int (1 : Int32))] [(.ref o1)])) (fun t kt => ?_) ?_
  · show Steps p.tables e below (T12.setTop (mkF m 49 #[.val (.ref o0), .val (.ref o1), .val (.int (200 : Int32)), .val (.ref o3), .val (.ref fa), .val (.int (1 : Int32))] [(.int (1 : Int32)), (.int (1 : Int32))])) _
    refine XS.icmpYes X12.here hx rfl (pc0 := 49) (pc' := 83) rfl (hb hby d8_49) rfl (flt (by decide)).2.1 (by decide) (by decide) ?_
    refine XS.aloadN X12.here hx rfl (hb hby d8_83) rfl rfl ?_
    exact kt
  exact own_end X12 hlk (v := some (.ref o1)) (fun h => by rw [Bd.returns] at h; cases h) (fun fs hr => retA X12 hx Bd.returns rfl rfl (hb hby d8_84) hr) (by rw [e12]; exact ⟨rfl, N12, rfl⟩) (by decide : 0 ≤ _) (by decide : 0 ≤ _)
theorem d7_0 : decode prog_8_method_5_code 0 = .ok (.ldc 25, 2) := by decide +kernel
theorem d7_2 : decode prog_8_method_5_code 2 = .ok (.aload_n 0, 1) := by decide +kernel
theorem d7_3 : decode prog_8_method_5_code 3 = .ok (.sipush 200, 3) := by decide +kernel
theorem d7_6 : decode prog_8_method_5_code 6 = .ok (.ldc 27, 2) := by decide +kernel
theorem d7_8 : decode prog_8_method_5_code 8 = .ok (.invokedynamic 29, 5) := by decide +kernel
theorem pd__28Ljava_2flang_2fString_3bLjava_2flang_2fString_3bILjava_2flang_2fString_3bLjava_2futil_2ffunction_2fIntPredicate_3b_29Ljava_2flang_2fString_3b : parseMethodDescriptor "(Ljava/lang/String;Ljava/lang/String;ILjava/lang/String;Ljava/util/function/IntPredicate;)Ljava/lang/String;" = some ⟨[(.object "java/lang/String"), (.object "java/lang/String"), .int, (.object "java/lang/String"), (.object "java/util/function/IntPredicate")], some (.object "java/lang/String")⟩ := by decide +kernel
theorem d7_13 : decode prog_8_method_5_code 13 = .ok (.invokestatic 17, 3) := by decide +kernel
theorem d7_16 : decode prog_8_method_5_code 16 = .ok (.areturn, 1) := by decide +kernel
theorem ef_rmC1 (m : MethodId) (o0 : Addr)  : entryFrame m #[(.ref o0)] 1 = mkF m 0 #[.val (.ref o0)] [] := by first |  (simp [entryFrame, mkF, argsToLocals, Value.category]; done) | rfl
def Q_rmC1 (Z : State) (o0 : Addr) (sv : Addr) (ks : ClassId) (w0 : Int32) (cs : Int32) (fm : Value) (h0 : Heap) (n0 : Nat) (v : Option Value) (h : Heap) (L : List Loc) : Prop := v = some (.ref o0) ∧ Fr n0 L ∧ Keep h0 h []
set_option maxRecDepth 65536 in
set_option maxHeartbeats 40000000 in
theorem rmC1 (l : Launch) (Z : State) (a0 : Array Value) (hw : ∀ d ∈ tables_1, d.before a0 Z = true) (ws : List Jvm.Cond) (o0 : Addr) (sv : Addr) (ks : ClassId) (w0 : Int32) (cs : Int32) (fm : Value) (h0 : Heap) (n0 : Nat) (Z0 : n0 ≤ h0.size) (E_o0 : Exa Z h0 o0 "java/lang/String") (F_v : Fld Z h0 o0 "java/lang/String" "value" "[B" (.ref sv)) (F_c : Fld Z h0 o0 "java/lang/String" "coder" "B" (.int (0 : Int32))) (V_sv : Arv Z h0 sv ks .byte (1 : Int32) [(.int w0)] (.int (0 : Int32))) (S_cs : Sta Z Z.heap "java/lang/String" "COMPACT_STRINGS" "Z" (.int cs)) (hcs : ¬ cs = (0 : Int32)) (S_fm : Sta Z Z.heap "jdk/internal/util/Preconditions" "SIOOBE_FORMATTER" "Ljava/util/function/BiFunction;" fm) (hfm : fm.isRef = true) (hO : Old Z n0 h0) (Hw0 : 32 ≤ w0.toInt ∧ w0.toInt ≤ 126) :
    MetFree l (⟨"com/example/chronoshard/chronoshard/model/Limits", "checkInstanceId", "(Ljava/lang/String;)Ljava/lang/String;"⟩ : MethodName) (head1 (Jvm.Cond.code (⟨"com/example/chronoshard/chronoshard/model/Limits", "checkInstanceId", "(Ljava/lang/String;)Ljava/lang/String;"⟩ : MethodName) prog_8_method_5_code 1 (some (.object "java/lang/String")) :: ws) ({ frames := 5, cells := 4, slots := 168, locals := 3076 } : Room)) (fun a U => a = #[(.ref o0)] ∧ Z.Warmed39 U.vm ∧ U.heap = h0) (fun _ _ _ _ _ => True) (fun _ U o U' => ∃ v L, o = .returned v ∧ Q_rmC1 Z o0 sv ks w0 cs fm h0 n0 v U'.heap L ∧ ReturnedEndW U o U' L ({ frames := 5, cells := 4, slots := 168, locals := 3076 } : Room).cells ({ frames := 5, cells := 4, slots := 168, locals := 3076 } : Room).slots) := by
  refine MetFree.of_bodySF (plainFor_of_name pn_com_example_chronoshard_chronoshard_model_Limits) hisR ?_
  intro p e s m args below meth c s₁ Bd hml0 hP hK
  obtain ⟨rfl, hZ, hh⟩ := hP
  have hx := Bd.exec
  have hby := Bd.bytes
  have hml : c.maxLocals = 1 := hml0
  have hown : s.vm.findClass "com/example/chronoshard/chronoshard/model/Limits" = some m.cls := findClass_of_methodNamed Bd.named
  have hnm := (name_of_methodNamed Bd.named Bd.method).1
  have hlk := Bd.notSynchronized
  have X0 : Stand p l e ({ frames := 5, cells := 4, slots := 168, locals := 3076 } : Room) (s.setVm s.vm) m #[(.ref o0)] below meth c s₁ [] 0 0 := Stand.of_body Bd
  have e0 : s₁.heap = h0 := by rw [← hh, Bd.state]; rfl
  have N0 := Fr.nil n0
  show own_GW p.tables e below s (Q_rmC1 Z o0 sv ks w0 cs fm h0 n0) ({ frames := 5, cells := 4, slots := 168, locals := 3076 } : Room).cells ({ frames := 5, cells := 4, slots := 168, locals := 3076 } : Room).slots _
  have hS0 : s.Since s.vm 0 := (State.WarmedH.refl s).since 0
  refine own_thrW (a := s₁.setTop (mkF m 0 #[.val (.ref o0)] [])) (fun t kt => castTop (ef_rmC1 m o0) kt) ?_
  obtain ⟨b1, T1, h1, kk1, X1, e1, E1, hS1, hk1, hZ1, hown1, st1⟩ := ldcS X0 hx hZ hown (hw _ (List.mem_of_getElem? (i := 35) rfl)) (fun a ha => hw a (own_sa a ha)) e0 hS0 (Nat.zero_le _) (g := (mkF m 0 #[.val (.ref o0)] [])) rfl (hb hby d7_0) (n := 44) (by decide) (by decide) (by decide : 0 + 2 ≤ _) (by decide : 0 + 48 ≤ _)
  have Z2 : n0 ≤ h1.size := Nat.le_trans Z0 E1.1
  have Z2h : h0.size ≤ h1.size := Nat.le_trans (Nat.le_refl h0.size) E1.1
  refine own_thrW (a := T1.setTop (mkF m 2 #[.val (.ref o0)] [(.ref b1)])) (fun t kt => st1 t kt) ?_
  refine own_thrW (a := T1.setTop (mkF m 6 #[.val (.ref o0)] [(.int (200 : Int32)), (.ref o0), (.ref b1)])) (fun t kt => ?_) ?_
  · show Steps p.tables e below (T1.setTop (mkF m 2 #[.val (.ref o0)] [(.ref b1)])) _
    refine XS.aloadN X1.here hx rfl (hb hby d7_2) rfl rfl ?_
    refine XS.sipush X1.here hx rfl (hb hby d7_3) ?_
    exact kt
  obtain ⟨b3, T3, h3, kk3, X3, e3, E3, hS3, hk3, hZ3, hown3, st3⟩ := ldcS X1 hx hZ1 hown1 (hw _ (List.mem_of_getElem? (i := 38) rfl)) (fun a ha => hw a (own_sa a ha)) e1 hS1 hk1 (g := (mkF m 6 #[.val (.ref o0)] [(.int (200 : Int32)), (.ref o0), (.ref b1)])) rfl (hb hby d7_6) (n := 116) (by decide) (by decide) (by decide : 2 + 2 ≤ _) (by decide : 48 + 120 ≤ _)
  have Z4 : n0 ≤ h3.size := Nat.le_trans Z2 E3.1
  have Z4h : h0.size ≤ h3.size := Nat.le_trans Z2h E3.1
  refine own_thrW (a := T3.setTop (mkF m 8 #[.val (.ref o0)] [(.ref b3), (.int (200 : Int32)), (.ref o0), (.ref b1)])) (fun t kt => st3 t kt) ?_
  obtain ⟨fa, cK, hfn, st5⟩ := Jvm.LamKit.own_site X3 hx hZ3 (x := (⟨"com/example/chronoshard/chronoshard/model/Limits", "checkInstanceId", "(Ljava/lang/String;)Ljava/lang/String;"⟩ : MethodName)) (σ := own_sig) (by rw [State.methodNamed?_setVm hS3.1.alike]; exact Bd.named) (hw _ (List.mem_of_getElem? (i := 39) rfl)) rfl (g := (mkF m 8 #[.val (.ref o0)] [(.ref b3), (.int (200 : Int32)), (.ref o0), (.ref b1)])) rfl rfl (by rw [hml]; rfl) (hb hby d7_8) (by show 2 * 0 + 4 + 3072 ≤ _; decide)
  refine own_thrW (a := T3.setTop (mkF m 13 #[.val (.ref o0)] [(.ref fa), (.ref b3), (.int (200 : Int32)), (.ref o0), (.ref b1)])) (fun t kt => st5 t kt) ?_
  obtain ⟨_, _, ⟨T6, L6, k6, n6⟩, -, X6, ⟨Lc6, hQ6, l6, y6, z6⟩, st6⟩ := Jvm.LawKit.callS X3 hx (y := (⟨"com/example/chronoshard/chronoshard/model/Limits", "checkText", "(Ljava/lang/String;Ljava/lang/String;ILjava/lang/String;Ljava/util/function/IntPredicate;)Ljava/lang/String;"⟩ : MethodName)) hown3 (mvT hZ3 (hw _ (List.mem_of_getElem? (i := 42) rfl))) (mvT hZ3 (hw _ (List.mem_of_getElem? (i := 43) rfl))) (mvT hZ3 (hw _ (List.mem_of_getElem? (i := 33) rfl))) (mvT hZ3 (hw _ (List.mem_of_getElem? (i := 44) rfl))) (by decide) (backOf (W := 0) (rmT1 l Z a0 hw [] b1 o0 b3 fa sv ks w0 cs fm cK h3 n0 Z4 ((E_o0.ext E1).ext E3) ((F_v.ext E1).ext E3) ((F_c.ext E1).ext E3) ((V_sv.ext E1).ext E3) S_cs hcs S_fm hfm ((hO.ext E1).ext E3) hfn Hw0) hZ3 (hw _ (List.mem_of_getElem? (i := 44) rfl)) (hw _ (List.mem_of_getElem? (i := 33) rfl)) (by decide) (by decide)) (g := (mkF m 13 #[.val (.ref o0)] [(.ref fa), (.ref b3), (.int (200 : Int32)), (.ref o0), (.ref b1)])) rfl (by rw [hml]; rfl) (argsL := [(.ref b1), (.ref o0), (.int (200 : Int32)), (.ref b3), (.ref fa)]) (rest := []) (lenOf pd__28Ljava_2flang_2fString_3bLjava_2flang_2fString_3bILjava_2flang_2fString_3bLjava_2futil_2ffunction_2fIntPredicate_3b_29Ljava_2flang_2fString_3b rfl) rfl (by show 2 * 0 + _ ≤ _; exact Nat.le_of_eq rfl) (hb hby d7_13) (fun _ _ => ⟨rfl, e3, (by decide : 4 + 0 ≤ _), (by decide : 168 + 0 ≤ _)⟩)
  dsimp only [Pt.U, Pt.locs, Pt.cells, Pt.slots] at X6 l6 y6 z6 st6 hQ6
  obtain ⟨rfl, N6q, e6⟩ := hQ6
  obtain ⟨lc6, X6, N6⟩ := own_pack X6 l6 y6 z6 N0 N6q (C := 4) (S' := 168) rfl rfl
  refine own_thrW (a := T6.setTop (mkF m 16 #[.val (.ref o0)] [(.ref o0)])) (fun t kt => st6 t kt) ?_
  exact own_endW X6 hS3 (by rw [e6]; exact hk3) hlk (v := some (.ref o0)) (fun h => by rw [Bd.returns] at h; cases h) (fun fs hr => retA X6 hx Bd.returns rfl rfl (hb hby d7_16) hr) (by rw [e6]; exact ⟨rfl, N6, (((Keep.refl h0 []).ext E1).ext E3)⟩) (by decide : 4 ≤ _) (by decide : 168 ≤ _)
theorem ef_rmT2 (m : MethodId) (o0 : Addr) (o1 : Addr) (o3 : Addr) (fa : Addr)  : entryFrame m #[(.ref o0), (.ref o1), (.int (200 : Int32)), (.ref o3), (.ref fa)] 6 = mkF m 0 #[.val (.ref o0), .val (.ref o1), .val (.int (200 : Int32)), .val (.ref o3), .val (.ref fa), .unset] [] := by first |  (simp [entryFrame, mkF, argsToLocals, Value.category]; done) | rfl
def Q_rmT2 (Z : State) (o0 : Addr) (o1 : Addr) (o3 : Addr) (fa : Addr) (sv : Addr) (ks : ClassId) (w0 : Int32) (w1 : Int32) (cs : Int32) (fm : Value) (cK : ClassId) (h0 : Heap) (n0 : Nat) (v : Option Value) (h : Heap) (L : List Loc) : Prop := v = some (.ref o1) ∧ Fr n0 L ∧ h = h0
set_option maxRecDepth 65536 in
set_option maxHeartbeats 40000000 in
theorem rmT2 (l : Launch) (Z : State) (a0 : Array Value) (hw : ∀ d ∈ tables_1, d.before a0 Z = true) (ws : List Jvm.Cond) (o0 : Addr) (o1 : Addr) (o3 : Addr) (fa : Addr) (sv : Addr) (ks : ClassId) (w0 : Int32) (w1 : Int32) (cs : Int32) (fm : Value) (cK : ClassId) (h0 : Heap) (n0 : Nat) (Z0 : n0 ≤ h0.size) (E_o1 : Exa Z h0 o1 "java/lang/String") (F_value_o1 : Fld Z h0 o1 "java/lang/String" "value" "[B" (.ref sv)) (F_coder_o1 : Fld Z h0 o1 "java/lang/String" "coder" "B" (.int (0 : Int32))) (V_sv : Arv Z h0 sv ks .byte (2 : Int32) [(.int w0), (.int w1)] (.int (0 : Int32))) (S_cs : Sta Z Z.heap "java/lang/String" "COMPACT_STRINGS" "Z" (.int cs)) (hcs : ¬ cs = (0 : Int32)) (S_fm : Sta Z Z.heap "jdk/internal/util/Preconditions" "SIOOBE_FORMATTER" "Ljava/util/function/BiFunction;" fm) (hfm : fm.isRef = true) (hO : Old Z n0 h0) (hfn : Jvm.LamKit.own_Fn Z "com/example/chronoshard/chronoshard/model/Limits" own_sig fa cK) (Hw0 : 32 ≤ w0.toInt ∧ w0.toInt ≤ 126) (Hw1 : 32 ≤ w1.toInt ∧ w1.toInt ≤ 126) :
    MetFree l (⟨"com/example/chronoshard/chronoshard/model/Limits", "checkText", "(Ljava/lang/String;Ljava/lang/String;ILjava/lang/String;Ljava/util/function/IntPredicate;)Ljava/lang/String;"⟩ : MethodName) (head1 (Jvm.Cond.code (⟨"com/example/chronoshard/chronoshard/model/Limits", "checkText", "(Ljava/lang/String;Ljava/lang/String;ILjava/lang/String;Ljava/util/function/IntPredicate;)Ljava/lang/String;"⟩ : MethodName) prog_8_method_7_code 6 (some (.object "java/lang/String")) :: ws) ({ frames := 4, cells := 0, slots := 0, locals := 54 } : Room)) (fun a U => a = #[(.ref o0), (.ref o1), (.int (200 : Int32)), (.ref o3), (.ref fa)] ∧ Z.Warmed39 U.vm ∧ U.heap = h0) (fun _ _ _ _ _ => True) (fun _ U o U' => ∃ v L, o = .returned v ∧ Q_rmT2 Z o0 o1 o3 fa sv ks w0 w1 cs fm cK h0 n0 v U'.heap L ∧ FrameEnd U o U' L ({ frames := 4, cells := 0, slots := 0, locals := 54 } : Room).cells ({ frames := 4, cells := 0, slots := 0, locals := 54 } : Room).slots) := by
  refine MetFree.of_bodySF (plainFor_of_name pn_com_example_chronoshard_chronoshard_model_Limits) hisR ?_
  intro p e s m args below meth c s₁ Bd hml0 hP hK
  obtain ⟨rfl, hZ, hh⟩ := hP
  have hx := Bd.exec
  have hby := Bd.bytes
  have hml : c.maxLocals = 6 := hml0
  have hown : s.vm.findClass "com/example/chronoshard/chronoshard/model/Limits" = some m.cls := findClass_of_methodNamed Bd.named
  have hnm := (name_of_methodNamed Bd.named Bd.method).1
  have hlk := Bd.notSynchronized
  have X0 : Stand p l e ({ frames := 4, cells := 0, slots := 0, locals := 54 } : Room) s m #[(.ref o0), (.ref o1), (.int (200 : Int32)), (.ref o3), (.ref fa)] below meth c s₁ [] 0 0 := Stand.of_body Bd
  have e0 : s₁.heap = h0 := by rw [← hh, Bd.state]; rfl
  have N0 := Fr.nil n0
  show own_G p.tables e below s (Q_rmT2 Z o0 o1 o3 fa sv ks w0 w1 cs fm cK h0 n0) ({ frames := 4, cells := 0, slots := 0, locals := 54 } : Room).cells ({ frames := 4, cells := 0, slots := 0, locals := 54 } : Room).slots _
  refine own_thr (a := s₁.setTop (mkF m 0 #[.val (.ref o0), .val (.ref o1), .val (.int (200 : Int32)), .val (.ref o3), .val (.ref fa), .unset] [])) (fun t kt => castTop (ef_rmT2 m o0 o1 o3 fa) kt) ?_
  refine own_thr (a := s₁.setTop (mkF m 2 #[.val (.ref o0), .val (.ref o1), .val (.int (200 : Int32)), .val (.ref o3), .val (.ref fa), .unset] [(.ref o0), (.ref o1)])) (fun t kt => ?_) ?_
  · show Steps p.tables e below (s₁.setTop (mkF m 0 #[.val (.ref o0), .val (.ref o1), .val (.int (200 : Int32)), .val (.ref o3), .val (.ref fa), .unset] [])) _
    refine XS.aloadN X0.here hx rfl (hb hby d8_0) rfl rfl ?_
    refine XS.aloadN X0.here hx rfl (hb hby d8_1) rfl rfl ?_
    exact kt
  obtain ⟨_, _, ⟨T1, L1, k1, n1⟩, -, X1, ⟨Lc1, hQ1, l1, y1, z1⟩, st1⟩ := Jvm.LawKit.callS X0 hx (y := (⟨"java/util/Objects", "requireNonNull", "(Ljava/lang/Object;Ljava/lang/String;)Ljava/lang/Object;"⟩ : MethodName)) hown (mvT hZ (hw _ (List.mem_of_getElem? (i := 45) rfl))) (mvT hZ (hw _ (List.mem_of_getElem? (i := 46) rfl))) (mvT hZ (hw _ (List.mem_of_getElem? (i := 47) rfl))) (mvT hZ (hw _ (List.mem_of_getElem? (i := 48) rfl))) (by decide) (backOf (W := 0) (rmO l Z a0 hw [] o1 o0 h0 n0 Z0) hZ (hw _ (List.mem_of_getElem? (i := 48) rfl)) (hw _ (List.mem_of_getElem? (i := 47) rfl)) (by decide) (by decide)) (g := (mkF m 2 #[.val (.ref o0), .val (.ref o1), .val (.int (200 : Int32)), .val (.ref o3), .val (.ref fa), .unset] [(.ref o0), (.ref o1)])) rfl (by rw [hml]; rfl) (argsL := [(.ref o1), (.ref o0)]) (rest := []) (lenOf pd__28Ljava_2flang_2fObject_3bLjava_2flang_2fString_3b_29Ljava_2flang_2fObject_3b rfl) rfl (by show 2 * 0 + _ ≤ _; exact Nat.le_of_eq rfl) (hb hby d8_2) (fun _ _ => ⟨rfl, e0, (by decide : 0 + 0 ≤ _), (by decide : 0 + 0 ≤ _)⟩)
  dsimp only [Pt.U, Pt.locs, Pt.cells, Pt.slots] at X1 l1 y1 z1 st1 hQ1
  obtain ⟨rfl, N1q, e1⟩ := hQ1
  obtain ⟨lc1, X1, N1⟩ := own_pack X1 l1 y1 z1 N0 N1q (C := 0) (S' := 0) rfl rfl
  refine own_thr (a := T1.setTop (mkF m 5 #[.val (.ref o0), .val (.ref o1), .val (.int (200 : Int32)), .val (.ref o3), .val (.ref fa), .unset] [(.ref o1)])) (fun t kt => st1 t kt) ?_
  refine own_thr (a := T1.setTop (mkF m 7 #[.val (.ref o0), .val (.ref o1), .val (.int (200 : Int32)), .val (.ref o3), .val (.ref fa), .unset] [(.ref o1)])) (fun t kt => ?_) ?_
  · show Steps p.tables e below (T1.setTop (mkF m 5 #[.val (.ref o0), .val (.ref o1), .val (.int (200 : Int32)), .val (.ref o3), .val (.ref fa), .unset] [(.ref o1)])) _
    refine XS.pop X1.here hx rfl (hb hby d8_5) rfl rfl ?_
    refine XS.aloadN X1.here hx rfl (hb hby d8_6) rfl rfl ?_
    exact kt
  obtain ⟨cq2, kq2, q2a, q2b, q2c⟩ := isOf hZ e1 E_o1
  obtain ⟨_, _, ⟨T2, L2, k2, n2⟩, -, X2, ⟨Lc2, hQ2, l2, y2, z2⟩, st2⟩ := X1.virtualBack hx (y := (⟨"java/lang/String", "isEmpty", "()Z"⟩ : MethodName)) (z := (⟨"java/lang/String", "isEmpty", "()Z"⟩ : MethodName)) hown (mvT hZ (hw _ (List.mem_of_getElem? (i := 49) rfl))) (mvT hZ (hw _ (List.mem_of_getElem? (i := 50) rfl))) (notFace_of_selects (args := #[]) (mvT hZ (hw _ (List.mem_of_getElem? (i := 52) rfl)))) (mvT hZ (hw _ (List.mem_of_getElem? (i := 52) rfl))) (mvT hZ (hw _ (List.mem_of_getElem? (i := 51) rfl))) (by decide) (backOf (W := 0) (rmEM2 l Z a0 hw [] o1 sv ks [(.int w0), (.int w1)] h0 n0 Z0 E_o1 F_value_o1 F_coder_o1 V_sv) hZ (hw _ (List.mem_of_getElem? (i := 53) rfl)) (hw _ (List.mem_of_getElem? (i := 7) rfl)) (by decide) (by decide)) q2a q2c (g := (mkF m 7 #[.val (.ref o0), .val (.ref o1), .val (.int (200 : Int32)), .val (.ref o3), .val (.ref fa), .unset] [(.ref o1)])) rfl (by rw [hml]; rfl) (Steps.refl _) (argsL := []) (rest := []) (lenOf pd__28_29Z rfl) rfl (by show 2 * 0 + _ ≤ _; exact Nat.le_of_eq rfl) (hb hby d8_7) (fun _ _ => ⟨rfl, e1, (by decide : 0 + 0 ≤ _), (by decide : 0 + 0 ≤ _)⟩)
  dsimp only [Pt.U, Pt.locs, Pt.cells, Pt.slots] at X2 l2 y2 z2 st2 hQ2
  obtain ⟨rfl, N2q, e2⟩ := hQ2
  obtain ⟨lc2, X2, N2⟩ := own_pack X2 l2 y2 z2 N1 N2q (C := 0) (S' := 0) rfl rfl
  refine own_thr (a := T2.setTop (mkF m 10 #[.val (.ref o0), .val (.ref o1), .val (.int (200 : Int32)), .val (.ref o3), .val (.ref fa), .unset] [(.int (0 : Int32))])) (fun t kt => st2.trans kt) ?_
  have S3 := S_cs.ext hO.2
  refine own_thr (a := T2.setTop (mkF m 14 #[.val (.ref o0), .val (.ref o1), .val (.int (200 : Int32)), .val (.ref o3), .val (.ref fa), .unset] [(.ref o1)])) (fun t kt => ?_) ?_
  · show Steps p.tables e below (T2.setTop (mkF m 10 #[.val (.ref o0), .val (.ref o1), .val (.int (200 : Int32)), .val (.ref o3), .val (.ref fa), .unset] [(.int (0 : Int32))])) _
    refine XS.ifNo X2.here hx rfl (hb hby d8_10) rfl ((if0 _ _).trans (teq rfl).2) ?_
    refine XS.aloadN X2.here hx rfl (hb hby d8_13) rfl rfl ?_
    exact kt
  obtain ⟨cq4, kq4, q4a, q4b, q4c⟩ := isOf hZ e2 E_o1
  obtain ⟨_, _, ⟨T4, L4, k4, n4⟩, -, X4, ⟨Lc4, hQ4, l4, y4, z4⟩, st4⟩ := X2.virtualBack hx (y := (⟨"java/lang/String", "length", "()I"⟩ : MethodName)) (z := (⟨"java/lang/String", "length", "()I"⟩ : MethodName)) hown (mvT hZ (hw _ (List.mem_of_getElem? (i := 54) rfl))) (mvT hZ (hw _ (List.mem_of_getElem? (i := 55) rfl))) (notFace_of_selects (args := #[]) (mvT hZ (hw _ (List.mem_of_getElem? (i := 57) rfl)))) (mvT hZ (hw _ (List.mem_of_getElem? (i := 57) rfl))) (mvT hZ (hw _ (List.mem_of_getElem? (i := 56) rfl))) (by decide) (backOf (W := 0) (rmLN2 l Z a0 hw [] o1 sv ks [(.int w0), (.int w1)] cs h0 n0 Z0 E_o1 F_value_o1 F_coder_o1 V_sv S3 hcs) hZ (hw _ (List.mem_of_getElem? (i := 58) rfl)) (hw _ (List.mem_of_getElem? (i := 7) rfl)) (by decide) (by decide)) q4a q4c (g := (mkF m 14 #[.val (.ref o0), .val (.ref o1), .val (.int (200 : Int32)), .val (.ref o3), .val (.ref fa), .unset] [(.ref o1)])) rfl (by rw [hml]; rfl) (Steps.refl _) (argsL := []) (rest := []) (lenOf pd__28_29I rfl) rfl (by show 2 * 0 + _ ≤ _; exact Nat.le_of_eq rfl) (hb hby d8_14) (fun _ _ => ⟨rfl, e2, (by decide : 0 + 0 ≤ _), (by decide : 0 + 0 ≤ _)⟩)
  dsimp only [Pt.U, Pt.locs, Pt.cells, Pt.slots] at X4 l4 y4 z4 st4 hQ4
  obtain ⟨rfl, N4q, e4⟩ := hQ4
  obtain ⟨lc4, X4, N4⟩ := own_pack X4 l4 y4 z4 N2 N4q (C := 0) (S' := 0) rfl rfl
  refine own_thr (a := T4.setTop (mkF m 17 #[.val (.ref o0), .val (.ref o1), .val (.int (200 : Int32)), .val (.ref o3), .val (.ref fa), .unset] [(.int (2 : Int32))])) (fun t kt => st4.trans kt) ?_
  have S5 := S_cs.ext hO.2
  refine own_thr (a := T4.setTop (mkF m 46 #[.val (.ref o0), .val (.ref o1), .val (.int (200 : Int32)), .val (.ref o3), .val (.ref fa), .val (.int (0 : Int32))] [(.ref o1), (.int (0 : Int32))])) (fun t kt => ?_) ?_
  · show Steps p.tables e below (T4.setTop (mkF m 17 #[.val (.ref o0), .val (.ref o1), .val (.int (200 : Int32)), .val (.ref o3), .val (.ref fa), .unset] [(.int (2 : Int32))])) _
    refine XS.iloadN X4.here hx rfl (hb hby d8_17) rfl ?_
    refine XS.icmpYes X4.here hx rfl (pc0 := 18) (pc' := 40) rfl (hb hby d8_18) rfl (flt (by decide)).2.2.2 (by decide) (by decide) ?_
    refine XS.iconst X4.here hx rfl (hb hby d8_40) ?_
    refine XS.istore X4.here hx rfl (hb hby d8_41) rfl (l' := #[.val (.ref o0), .val (.ref o1), .val (.int (200 : Int32)), .val (.ref o3), .val (.ref fa), .val (.int (0 : Int32))]) rfl ?_
    refine XS.iload X4.here hx rfl (hb hby d8_43) rfl ?_
    refine XS.aloadN X4.here hx rfl (hb hby d8_45) rfl rfl ?_
    exact kt
  obtain ⟨cq6, kq6, q6a, q6b, q6c⟩ := isOf hZ e4 E_o1
  obtain ⟨_, _, ⟨T6, L6, k6, n6⟩, -, X6, ⟨Lc6, hQ6, l6, y6, z6⟩, st6⟩ := X4.virtualBack hx (y := (⟨"java/lang/String", "length", "()I"⟩ : MethodName)) (z := (⟨"java/lang/String", "length", "()I"⟩ : MethodName)) hown (mvT hZ (hw _ (List.mem_of_getElem? (i := 54) rfl))) (mvT hZ (hw _ (List.mem_of_getElem? (i := 55) rfl))) (notFace_of_selects (args := #[]) (mvT hZ (hw _ (List.mem_of_getElem? (i := 57) rfl)))) (mvT hZ (hw _ (List.mem_of_getElem? (i := 57) rfl))) (mvT hZ (hw _ (List.mem_of_getElem? (i := 56) rfl))) (by decide) (backOf (W := 1) (rmLN2 l Z a0 hw [] o1 sv ks [(.int w0), (.int w1)] cs h0 n0 Z0 E_o1 F_value_o1 F_coder_o1 V_sv S5 hcs) hZ (hw _ (List.mem_of_getElem? (i := 58) rfl)) (hw _ (List.mem_of_getElem? (i := 7) rfl)) (by decide) (by decide)) q6a q6c (g := (mkF m 46 #[.val (.ref o0), .val (.ref o1), .val (.int (200 : Int32)), .val (.ref o3), .val (.ref fa), .val (.int (0 : Int32))] [(.ref o1), (.int (0 : Int32))])) rfl (by rw [hml]; rfl) (Steps.refl _) (argsL := []) (rest := [(.int (0 : Int32))]) (lenOf pd__28_29I rfl) rfl (by show 2 * 0 + _ ≤ _; exact Nat.le_of_eq rfl) (hb hby d8_46) (fun _ _ => ⟨rfl, e4, (by decide : 0 + 0 ≤ _), (by decide : 0 + 0 ≤ _)⟩)
  dsimp only [Pt.U, Pt.locs, Pt.cells, Pt.slots] at X6 l6 y6 z6 st6 hQ6
  obtain ⟨rfl, N6q, e6⟩ := hQ6
  obtain ⟨lc6, X6, N6⟩ := own_pack X6 l6 y6 z6 N4 N6q (C := 0) (S' := 0) rfl rfl
  refine own_thr (a := T6.setTop (mkF m 49 #[.val (.ref o0), .val (.ref o1), .val (.int (200 : Int32)), .val (.ref o3), .val (.ref fa), .val (.int (0 : Int32))] [(.int (2 : Int32)), (.int (0 : Int32))])) (fun t kt => st6.trans kt) ?_
  have S7 := S_cs.ext hO.2
  have S8 := S_fm.ext hO.2
  refine own_thr (a := T6.setTop (mkF m 57 #[.val (.ref o0), .val (.ref o1), .val (.int (200 : Int32)), .val (.ref o3), .val (.ref fa), .val (.int (0 : Int32))] [(.int (0 : Int32)), (.ref o1), (.ref fa)])) (fun t kt => ?_) ?_
  · show Steps p.tables e below (T6.setTop (mkF m 49 #[.val (.ref o0), .val (.ref o1), .val (.int (200 : Int32)), .val (.ref o3), .val (.ref fa), .val (.int (0 : Int32))] [(.int (2 : Int32)), (.int (0 : Int32))])) _
    refine XS.icmpNo X6.here hx rfl (hb hby d8_49) rfl (tlt (by decide)).2.1 ?_
    refine XS.aload X6.here hx rfl (hb hby d8_52) rfl rfl ?_
    refine XS.aloadN X6.here hx rfl (hb hby d8_54) rfl rfl ?_
    refine XS.iload X6.here hx rfl (hb hby d8_55) rfl ?_
    exact kt
  obtain ⟨cq9, kq9, q9a, q9b, q9c⟩ := isOf hZ e6 E_o1
  obtain ⟨_, _, ⟨T9, L9, k9, n9⟩, -, X9, ⟨Lc9, hQ9, l9, y9, z9⟩, st9⟩ := X6.virtualBack hx (y := (⟨"java/lang/String", "charAt", "(I)C"⟩ : MethodName)) (z := (⟨"java/lang/String", "charAt", "(I)C"⟩ : MethodName)) hown (mvT hZ (hw _ (List.mem_of_getElem? (i := 64) rfl))) (mvT hZ (hw _ (List.mem_of_getElem? (i := 65) rfl))) (notFace_of_selects (args := #[]) (mvT hZ (hw _ (List.mem_of_getElem? (i := 67) rfl)))) (mvT hZ (hw _ (List.mem_of_getElem? (i := 67) rfl))) (mvT hZ (hw _ (List.mem_of_getElem? (i := 66) rfl))) (by decide) (backOf (W := 1) (rmCA20 l Z a0 hw [] o1 sv ks w0 w1 cs fm h0 n0 Z0 E_o1 F_value_o1 F_coder_o1 V_sv S7 S8 hcs hfm) hZ (hw _ (List.mem_of_getElem? (i := 68) rfl)) (hw _ (List.mem_of_getElem? (i := 7) rfl)) (by decide) (by decide)) q9a q9c (g := (mkF m 57 #[.val (.ref o0), .val (.ref o1), .val (.int (200 : Int32)), .val (.ref o3), .val (.ref fa), .val (.int (0 : Int32))] [(.int (0 : Int32)), (.ref o1), (.ref fa)])) rfl (by rw [hml]; rfl) (Steps.refl _) (argsL := [(.int (0 : Int32))]) (rest := [(.ref fa)]) (lenOf pd__28I_29C rfl) rfl (by show 2 * 0 + _ ≤ _; exact Nat.le_of_eq rfl) (hb hby d8_57) (fun _ _ => ⟨rfl, e6, (by decide : 0 + 0 ≤ _), (by decide : 0 + 0 ≤ _)⟩)
  dsimp only [Pt.U, Pt.locs, Pt.cells, Pt.slots] at X9 l9 y9 z9 st9 hQ9
  obtain ⟨rfl, N9q, e9⟩ := hQ9
  obtain ⟨lc9, X9, N9⟩ := own_pack X9 l9 y9 z9 N6 N9q (C := 0) (S' := 0) rfl rfl
  refine own_thr (a := T9.setTop (mkF m 60 #[.val (.ref o0), .val (.ref o1), .val (.int (200 : Int32)), .val (.ref o3), .val (.ref fa), .val (.int (0 : Int32))] [(.int (nar .char (nar .char ((w0 &&& (255 : Int32)).toUInt32.toUInt16.toUInt32.toInt32)))), (.ref fa)])) (fun t kt => st9.trans kt) ?_
  rw [show (nar .char (nar .char ((w0 &&& (255 : Int32)).toUInt32.toUInt16.toUInt32.toInt32))) = w0 from own_ch Hw0]
  obtain ⟨T10, L10, X10, N10q, e10, st10⟩ := Jvm.LamKit.own_lam X9 hx hZ (own := "com/example/chronoshard/chronoshard/model/Limits") (host := "com/example/chronoshard/chronoshard/model/Limits") (index := 68) (count := 2) (xi := (⟨"java/util/function/IntPredicate", "test", "(I)Z"⟩ : MethodName)) (y := (⟨"com/example/chronoshard/chronoshard/model/Limits", "lambda$checkInstanceId$1", "(I)Z"⟩ : MethodName)) (σ := own_sig) (argsL := [.int w0]) (argsT := [.int w0]) (rest := []) (val := (.int (1 : Int32))) (n0 := n0) (rmLam l Z a0 hw [] w0 h0 n0 Z0) (fun v h' L q => ⟨by rw [q.1, own_l1 Hw0], q.2⟩) hown (mvT hZ (hw _ (List.mem_of_getElem? (i := 85) rfl))) (mvT hZ (hw _ (List.mem_of_getElem? (i := 86) rfl))) (mvT hZ (hw _ (List.mem_of_getElem? (i := 87) rfl))) (mvT hZ (hw _ (List.mem_of_getElem? (i := 89) rfl))) (mvT hZ (hw _ (List.mem_of_getElem? (i := 88) rfl))) (mvT hZ (hw _ (List.mem_of_getElem? (i := 33) rfl))) (by decide +kernel) (by decide +kernel) (by decide) hfn hO e9 own_fwd own_g1 own_g4 (g := (mkF m 60 #[.val (.ref o0), .val (.ref o1), .val (.int (200 : Int32)), .val (.ref o3), .val (.ref fa), .val (.int (0 : Int32))] [(.int w0), (.ref fa)])) rfl (by rw [hml]; rfl) (L0 := #[.val (.ref fa), .val (.int w0)]) (lenOf pd__28I_29Z rfl) (lenOf pd__28I_29Z rfl) rfl (hb hby d8_60) (fun _ => rfl) rfl (fun U ck bl target hU hck _ _ k => XS.iloadN hU hx rfl (hb hck own_g0) rfl k) (Or.inl ⟨.boolean, _, rfl, Or.inr (Or.inl rfl), rfl, rfl, rfl⟩) (by decide) (by show 2 * 0 + 0 + (2 + 11) + ((1 + 11) + 0) ≤ _; decide) (Nat.zero_le _) (Nat.zero_le _)
  obtain ⟨lc10, X10, N10⟩ := own_pack X10 rfl rfl rfl N9 N10q (C := 0) (S' := 0) rfl rfl
  refine own_thr (a := T10.setTop (mkF m 65 #[.val (.ref o0), .val (.ref o1), .val (.int (200 : Int32)), .val (.ref o3), .val (.ref fa), .val (.int (0 : Int32))] [(.int (1 : Int32))])) (fun t kt => st10 t kt) ?_
  have S11 := S_cs.ext hO.2
  refine own_thr (a := T10.setTop (mkF m 46 #[.val (.ref o0), .val (.ref o1), .val (.int (200 : Int32)), .val (.ref o3), .val (.ref fa), .val (.int (1 : Int32))] [(.ref o1), (.int (1 : Int32))])) (fun t kt => ?_) ?_
  · show Steps p.tables e below (T10.setTop (mkF m 65 #[.val (.ref o0), .val (.ref o1), .val (.int (200 : Int32)), .val (.ref o3), .val (.ref fa), .val (.int (0 : Int32))] [(.int (1 : Int32))])) _
    refine XS.ifYes X10.here hx rfl (pc0 := 65) (pc' := 77) rfl (hb hby d8_65) rfl ((if0 _ _).trans (feq (by decide)).2) (by decide) (by decide) ?_
    refine XS.iinc X10.here hx rfl (hb hby d8_77) rfl (l' := #[.val (.ref o0), .val (.ref o1), .val (.int (200 : Int32)), .val (.ref o3), .val (.ref fa), .val (.int (1 : Int32))]) rfl ?_
    refine XS.goto X10.here hx rfl (pc0 := 80) (pc' := 43) rfl (hb hby d8_80) (by decide) (by decide) ?_
    refine XS.iload X10.here hx rfl (hb hby d8_43) rfl ?_
    refine XS.aloadN X10.here hx rfl (hb hby d8_45) rfl rfl ?_
    exact kt
  obtain ⟨cq12, kq12, q12a, q12b, q12c⟩ := isOf hZ e10 E_o1
  obtain ⟨_, _, ⟨T12, L12, k12, n12⟩, -, X12, ⟨Lc12, hQ12, l12, y12, z12⟩, st12⟩ := X10.virtualBack hx (y := (⟨"java/lang/String", "length", "()I"⟩ : MethodName)) (z := (⟨"java/lang/String", "length", "()I"⟩ : MethodName)) hown (mvT hZ (hw _ (List.mem_of_getElem? (i := 54) rfl))) (mvT hZ (hw _ (List.mem_of_getElem? (i := 55) rfl))) (notFace_of_selects (args := #[]) (mvT hZ (hw _ (List.mem_of_getElem? (i := 57) rfl)))) (mvT hZ (hw _ (List.mem_of_getElem? (i := 57) rfl))) (mvT hZ (hw _ (List.mem_of_getElem? (i := 56) rfl))) (by decide) (backOf (W := 1) (rmLN2 l Z a0 hw [] o1 sv ks [(.int w0), (.int w1)] cs h0 n0 Z0 E_o1 F_value_o1 F_coder_o1 V_sv S11 hcs) hZ (hw _ (List.mem_of_getElem? (i := 58) rfl)) (hw _ (List.mem_of_getElem? (i := 7) rfl)) (by decide) (by decide)) q12a q12c (g := (mkF m 46 #[.val (.ref o0), .val (.ref o1), .val (.int (200 : Int32)), .val (.ref o3), .val (.ref fa), .val (.int (1 : Int32))] [(.ref o1), (.int (1 : Int32))])) rfl (by rw [hml]; rfl) (Steps.refl _) (argsL := []) (rest := [(.int (1 : Int32))]) (lenOf pd__28_29I rfl) rfl (by show 2 * 0 + _ ≤ _; exact Nat.le_of_eq rfl) (hb hby d8_46) (fun _ _ => ⟨rfl, e10, (by decide : 0 + 0 ≤ _), (by decide : 0 + 0 ≤ _)⟩)
  dsimp only [Pt.U, Pt.locs, Pt.cells, Pt.slots] at X12 l12 y12 z12 st12 hQ12
  obtain ⟨rfl, N12q, e12⟩ := hQ12
  obtain ⟨lc12, X12, N12⟩ := own_pack X12 l12 y12 z12 N10 N12q (C := 0) (S' := 0) rfl rfl
  refine own_thr (a := T12.setTop (mkF m 49 #[.val (.ref o0), .val (.ref o1), .val (.int (200 : Int32)), .val (.ref o3), .val (.ref fa), .val (.int (1 : Int32))] [(.int (2 : Int32)), (.int (1 : Int32))])) (fun t kt => st12.trans kt) ?_
  have S13 := S_cs.ext hO.2
  have S14 := S_fm.ext hO.2
  refine own_thr (a := T12.setTop (mkF m 57 #[.val (.ref o0), .val (.ref o1), .val (.int (200 : Int32)), .val (.ref o3), .val (.ref fa), .val (.int (1 : Int32))] [(.int (1 : Int32)), (.ref o1), (.ref fa)])) (fun t kt => ?_) ?_
  · show Steps p.tables e below (T12.setTop (mkF m 49 #[.val (.ref o0), .val (.ref o1), .val (.int (200 : Int32)), .val (.ref o3), .val (.ref fa), .val (.int (1 : Int32))] [(.int (2 : Int32)), (.int (1 : Int32))])) _
    refine XS.icmpNo X12.here hx rfl (hb hby d8_49) rfl (tlt (by decide)).2.1 ?_
    refine XS.aload X12.here hx rfl (hb hby d8_52) rfl rfl ?_
    refine XS.aloadN X12.here hx rfl (hb hby d8_54) rfl rfl ?_
    refine XS.iload X12.here hx rfl (hb hby d8_55) rfl ?_
    exact kt
  obtain ⟨cq15, kq15, q15a, q15b, q15c⟩ := isOf hZ e12 E_o1
  obtain ⟨_, _, ⟨T15, L15, k15, n15⟩, -, X15, ⟨Lc15, hQ15, l15, y15, z15⟩, st15⟩ := X12.virtualBack hx (y := (⟨"java/lang/String", "charAt", "(I)C"⟩ : MethodName)) (z := (⟨"java/lang/String", "charAt", "(I)C"⟩ : MethodName)) hown (mvT hZ (hw _ (List.mem_of_getElem? (i := 64) rfl))) (mvT hZ (hw _ (List.mem_of_getElem? (i := 65) rfl))) (notFace_of_selects (args := #[]) (mvT hZ (hw _ (List.mem_of_getElem? (i := 67) rfl)))) (mvT hZ (hw _ (List.mem_of_getElem? (i := 67) rfl))) (mvT hZ (hw _ (List.mem_of_getElem? (i := 66) rfl))) (by decide) (backOf (W := 1) (rmCA21 l Z a0 hw [] o1 sv ks w0 w1 cs fm h0 n0 Z0 E_o1 F_value_o1 F_coder_o1 V_sv S13 S14 hcs hfm) hZ (hw _ (List.mem_of_getElem? (i := 68) rfl)) (hw _ (List.mem_of_getElem? (i := 7) rfl)) (by decide) (by decide)) q15a q15c (g := (mkF m 57 #[.val (.ref o0), .val (.ref o1), .val (.int (200 : Int32)), .val (.ref o3), .val (.ref fa), .val (.int (1 : Int32))] [(.int (1 : Int32)), (.ref o1), (.ref fa)])) rfl (by rw [hml]; rfl) (Steps.refl _) (argsL := [(.int (1 : Int32))]) (rest := [(.ref fa)]) (lenOf pd__28I_29C rfl) rfl (by show 2 * 0 + _ ≤ _; exact Nat.le_of_eq rfl) (hb hby d8_57) (fun _ _ => ⟨rfl, e12, (by decide : 0 + 0 ≤ _), (by decide : 0 + 0 ≤ _)⟩)
  dsimp only [Pt.U, Pt.locs, Pt.cells, Pt.slots] at X15 l15 y15 z15 st15 hQ15
  obtain ⟨rfl, N15q, e15⟩ := hQ15
  obtain ⟨lc15, X15, N15⟩ := own_pack X15 l15 y15 z15 N12 N15q (C := 0) (S' := 0) rfl rfl
  refine own_thr (a := T15.setTop (mkF m 60 #[.val (.ref o0), .val (.ref o1), .val (.int (200 : Int32)), .val (.ref o3), .val (.ref fa), .val (.int (1 : Int32))] [(.int (nar .char (nar .char ((w1 &&& (255 : Int32)).toUInt32.toUInt16.toUInt32.toInt32)))), (.ref fa)])) (fun t kt => st15.trans kt) ?_
  rw [show (nar .char (nar .char ((w1 &&& (255 : Int32)).toUInt32.toUInt16.toUInt32.toInt32))) = w1 from own_ch Hw1]
  obtain ⟨T16, L16, X16, N16q, e16, st16⟩ := Jvm.LamKit.own_lam X15 hx hZ (own := "com/example/chronoshard/chronoshard/model/Limits") (host := "com/example/chronoshard/chronoshard/model/Limits") (index := 68) (count := 2) (xi := (⟨"java/util/function/IntPredicate", "test", "(I)Z"⟩ : MethodName)) (y := (⟨"com/example/chronoshard/chronoshard/model/Limits", "lambda$checkInstanceId$1", "(I)Z"⟩ : MethodName)) (σ := own_sig) (argsL := [.int w1]) (argsT := [.int w1]) (rest := []) (val := (.int (1 : Int32))) (n0 := n0) (rmLam l Z a0 hw [] w1 h0 n0 Z0) (fun v h' L q => ⟨by rw [q.1, own_l1 Hw1], q.2⟩) hown (mvT hZ (hw _ (List.mem_of_getElem? (i := 85) rfl))) (mvT hZ (hw _ (List.mem_of_getElem? (i := 86) rfl))) (mvT hZ (hw _ (List.mem_of_getElem? (i := 87) rfl))) (mvT hZ (hw _ (List.mem_of_getElem? (i := 89) rfl))) (mvT hZ (hw _ (List.mem_of_getElem? (i := 88) rfl))) (mvT hZ (hw _ (List.mem_of_getElem? (i := 33) rfl))) (by decide +kernel) (by decide +kernel) (by decide) hfn hO e15 own_fwd own_g1 own_g4 (g := (mkF m 60 #[.val (.ref o0), .val (.ref o1), .val (.int (200 : Int32)), .val (.ref o3), .val (.ref fa), .val (.int (1 : Int32))] [(.int w1), (.ref fa)])) rfl (by rw [hml]; rfl) (L0 := #[.val (.ref fa), .val (.int w1)]) (lenOf pd__28I_29Z rfl) (lenOf pd__28I_29Z rfl) rfl (hb hby d8_60) (fun _ => rfl) rfl (fun U ck bl target hU hck _ _ k => XS.iloadN hU hx rfl (hb hck own_g0) rfl k) (Or.inl ⟨.boolean, _, rfl, Or.inr (Or.inl rfl), rfl, rfl, rfl⟩) (by decide) (by show 2 * 0 + 0 + (2 + 11) + ((1 + 11) + 0) ≤ _; decide) (Nat.zero_le _) (Nat.zero_le _)
  obtain ⟨lc16, X16, N16⟩ := own_pack X16 rfl rfl rfl N15 N16q (C := 0) (S' := 0) rfl rfl
  refine own_thr (a := T16.setTop (mkF m 65 #[.val (.ref o0), .val (.ref o1), .val (.int (200 : Int32)), .val (.ref o3), .val (.ref fa), .val (.int (1 : Int32))] [(.int (1 : Int32))])) (fun t kt => st16 t kt) ?_
  have S17 := S_cs.ext hO.2
  refine own_thr (a := T16.setTop (mkF m 46 #[.val (.ref o0), .val (.ref o1), .val (.int (200 : Int32)), .val (.ref o3), .val (.ref fa), .val (.int (2 : Int32))] [(.ref o1), (.int (2 : Int32))])) (fun t kt => ?_) ?_
  · show Steps p.tables e below (T16.setTop (mkF m 65 #[.val (.ref o0), .val (.ref o1), .val (.int (200 : Int32)), .val (.ref o3), .val (.ref fa), .val (.int (1 : Int32))] [(.int (1 : Int32))])) _
    refine XS.ifYes X16.here hx rfl (pc0 := 65) (pc' := 77) rfl (hb hby d8_65) rfl ((if0 _ _).trans (feq (by decide)).2) (by decide) (by decide) ?_
    refine XS.iinc X16.here hx rfl (hb hby d8_77) rfl (l' := #[.val (.ref o0), .val (.ref o1), .val (.int (200 : Int32)), .val (.ref o3), .val (.ref fa), .val (.int (2 : Int32))]) rfl ?_
    refine XS.goto X16.here hx rfl (pc0 := 80) (pc' := 43) rfl (hb hby d8_80) (by decide) (by decide) ?_
    refine XS.iload X16.here hx rfl (hb hby d8_43) rfl ?_
    refine XS.aloadN X16.here hx rfl (hb hby d8_45) rfl rfl ?_
    exact kt
  obtain ⟨cq18, kq18, q18a, q18b, q18c⟩ := isOf hZ e16 E_o1
  obtain ⟨_, _, ⟨T18, L18, k18, n18⟩, -, X18, ⟨Lc18, hQ18, l18, y18, z18⟩, st18⟩ := X16.virtualBack hx (y := (⟨"java/lang/String", "length", "()I"⟩ : MethodName)) (z := (⟨"java/lang/String", "length", "()I"⟩ : MethodName)) hown (mvT hZ (hw _ (List.mem_of_getElem? (i := 54) rfl))) (mvT hZ (hw _ (List.mem_of_getElem? (i := 55) rfl))) (notFace_of_selects (args := #[]) (mvT hZ (hw _ (List.mem_of_getElem? (i := 57) rfl)))) (mvT hZ (hw _ (List.mem_of_getElem? (i := 57) rfl))) (mvT hZ (hw _ (List.mem_of_getElem? (i := 56) rfl))) (by decide) (backOf (W := 1) (rmLN2 l Z a0 hw [] o1 sv ks [(.int w0), (.int w1)] cs h0 n0 Z0 E_o1 F_value_o1 F_coder_o1 V_sv S17 hcs) hZ (hw _ (List.mem_of_getElem? (i := 58) rfl)) (hw _ (List.mem_of_getElem? (i := 7) rfl)) (by decide) (by decide)) q18a q18c (g := (mkF m 46 #[.val (.ref o0), .val (.ref o1), .val (.int (200 : Int32)), .val (.ref o3), .val (.ref fa), .val (.int (2 : Int32))] [(.ref o1), (.int (2 : Int32))])) rfl (by rw [hml]; rfl) (Steps.refl _) (argsL := []) (rest := [(.int (2 : Int32))]) (lenOf pd__28_29I rfl) rfl (by show 2 * 0 + _ ≤ _; exact Nat.le_of_eq rfl) (hb hby d8_46) (fun _ _ => ⟨rfl, e16, (by decide : 0 + 0 ≤ _), (by decide : 0 + 0 ≤ _)⟩)
  dsimp only [Pt.U, Pt.locs, Pt.cells, Pt.slots] at X18 l18 y18 z18 st18 hQ18
  obtain ⟨rfl, N18q, e18⟩ := hQ18
  obtain ⟨lc18, X18, N18⟩ := own_pack X18 l18 y18 z18 N16 N18q (C := 0) (S' := 0) rfl rfl
  refine own_thr (a := T18.setTop (mkF m 49 #[.val (.ref o0), .val (.ref o1), .val (.int (200 : Int32)), .val (.ref o3), .val (.ref fa), .val (.int (2 : Int32))] [(.int (2 : Int32)), (.int (2 : Int32))])) (fun t kt => st18.trans kt) ?_
  refine own_thr (a := T18.setTop (mkF m 84 #[.val (.ref o0), .val (.ref o1), .val (.int (200 : Int32)), .val (.ref o3), .val (.ref fa), .val (.int (2 : Int32))] [(.ref o1)])) (fun t kt => ?_) ?_
  · show Steps p.tables e below (T18.setTop (mkF m 49 #[.val (.ref o0), .val (.ref o1), .val (.int (200 : Int32)), .val (.ref o3), .val (.ref fa), .val (.int (2 : Int32))] [(.int (2 : Int32)), (.int (2 : Int32))])) _
    refine XS.icmpYes X18.here hx rfl (pc0 := 49) (pc' := 83) rfl (hb hby d8_49) rfl (flt (by decide)).2.1 (by decide) (by decide) ?_
    refine XS.aloadN X18.here hx rfl (hb hby d8_83) rfl rfl ?_
    exact kt
  exact own_end X18 hlk (v := some (.ref o1)) (fun h => by rw [Bd.returns] at h; cases h) (fun fs hr => retA X18 hx Bd.returns rfl rfl (hb hby d8_84) hr) (by rw [e18]; exact ⟨rfl, N18, rfl⟩) (by decide : 0 ≤ _) (by decide : 0 ≤ _)
theorem ef_rmC2 (m : MethodId) (o0 : Addr)  : entryFrame m #[(.ref o0)] 1 = mkF m 0 #[.val (.ref o0)] [] := by first |  (simp [entryFrame, mkF, argsToLocals, Value.category]; done) | rfl
def Q_rmC2 (Z : State) (o0 : Addr) (sv : Addr) (ks : ClassId) (w0 : Int32) (w1 : Int32) (cs : Int32) (fm : Value) (h0 : Heap) (n0 : Nat) (v : Option Value) (h : Heap) (L : List Loc) : Prop := v = some (.ref o0) ∧ Fr n0 L ∧ Keep h0 h []
set_option maxRecDepth 65536 in
set_option maxHeartbeats 40000000 in
theorem rmC2 (l : Launch) (Z : State) (a0 : Array Value) (hw : ∀ d ∈ tables_1, d.before a0 Z = true) (ws : List Jvm.Cond) (o0 : Addr) (sv : Addr) (ks : ClassId) (w0 : Int32) (w1 : Int32) (cs : Int32) (fm : Value) (h0 : Heap) (n0 : Nat) (Z0 : n0 ≤ h0.size) (E_o0 : Exa Z h0 o0 "java/lang/String") (F_v : Fld Z h0 o0 "java/lang/String" "value" "[B" (.ref sv)) (F_c : Fld Z h0 o0 "java/lang/String" "coder" "B" (.int (0 : Int32))) (V_sv : Arv Z h0 sv ks .byte (2 : Int32) [(.int w0), (.int w1)] (.int (0 : Int32))) (S_cs : Sta Z Z.heap "java/lang/String" "COMPACT_STRINGS" "Z" (.int cs)) (hcs : ¬ cs = (0 : Int32)) (S_fm : Sta Z Z.heap "jdk/internal/util/Preconditions" "SIOOBE_FORMATTER" "Ljava/util/function/BiFunction;" fm) (hfm : fm.isRef = true) (hO : Old Z n0 h0) (Hw0 : 32 ≤ w0.toInt ∧ w0.toInt ≤ 126) (Hw1 : 32 ≤ w1.toInt ∧ w1.toInt ≤ 126) :
    MetFree l (⟨"com/example/chronoshard/chronoshard/model/Limits", "checkInstanceId", "(Ljava/lang/String;)Ljava/lang/String;"⟩ : MethodName) (head1 (Jvm.Cond.code (⟨"com/example/chronoshard/chronoshard/model/Limits", "checkInstanceId", "(Ljava/lang/String;)Ljava/lang/String;"⟩ : MethodName) prog_8_method_5_code 1 (some (.object "java/lang/String")) :: ws) ({ frames := 5, cells := 4, slots := 168, locals := 3076 } : Room)) (fun a U => a = #[(.ref o0)] ∧ Z.Warmed39 U.vm ∧ U.heap = h0) (fun _ _ _ _ _ => True) (fun _ U o U' => ∃ v L, o = .returned v ∧ Q_rmC2 Z o0 sv ks w0 w1 cs fm h0 n0 v U'.heap L ∧ ReturnedEndW U o U' L ({ frames := 5, cells := 4, slots := 168, locals := 3076 } : Room).cells ({ frames := 5, cells := 4, slots := 168, locals := 3076 } : Room).slots) := by
  refine MetFree.of_bodySF (plainFor_of_name pn_com_example_chronoshard_chronoshard_model_Limits) hisR ?_
  intro p e s m args below meth c s₁ Bd hml0 hP hK
  obtain ⟨rfl, hZ, hh⟩ := hP
  have hx := Bd.exec
  have hby := Bd.bytes
  have hml : c.maxLocals = 1 := hml0
  have hown : s.vm.findClass "com/example/chronoshard/chronoshard/model/Limits" = some m.cls := findClass_of_methodNamed Bd.named
  have hnm := (name_of_methodNamed Bd.named Bd.method).1
  have hlk := Bd.notSynchronized
  have X0 : Stand p l e ({ frames := 5, cells := 4, slots := 168, locals := 3076 } : Room) (s.setVm s.vm) m #[(.ref o0)] below meth c s₁ [] 0 0 := Stand.of_body Bd
  have e0 : s₁.heap = h0 := by rw [← hh, Bd.state]; rfl
  have N0 := Fr.nil n0
  show own_GW p.tables e below s (Q_rmC2 Z o0 sv ks w0 w1 cs fm h0 n0) ({ frames := 5, cells := 4, slots := 168, locals := 3076 } : Room).cells ({ frames := 5, cells := 4, slots := 168, locals := 3076 } : Room).slots _
  have hS0 : s.Since s.vm 0 := (State.WarmedH.refl s).since 0
  refine own_thrW (a := s₁.setTop (mkF m 0 #[.val (.ref o0)] [])) (fun t kt => castTop (ef_rmC2 m o0) kt) ?_
  obtain ⟨b1, T1, h1, kk1, X1, e1, E1, hS1, hk1, hZ1, hown1, st1⟩ := ldcS X0 hx hZ hown (hw _ (List.mem_of_getElem? (i := 35) rfl)) (fun a ha => hw a (own_sa a ha)) e0 hS0 (Nat.zero_le _) (g := (mkF m 0 #[.val (.ref o0)] [])) rfl (hb hby d7_0) (n := 44) (by decide) (by decide) (by decide : 0 + 2 ≤ _) (by decide : 0 + 48 ≤ _)
  have Z2 : n0 ≤ h1.size := Nat.le_trans Z0 E1.1
  have Z2h : h0.size ≤ h1.size := Nat.le_trans (Nat.le_refl h0.size) E1.1
  refine own_thrW (a := T1.setTop (mkF m 2 #[.val (.ref o0)] [(.ref b1)])) (fun t kt => st1 t kt) ?_
  refine own_thrW (a := T1.setTop (mkF m 6 #[.val (.ref o0)] [(.int (200 : Int32)), (.ref o0), (.ref b1)])) (fun t kt => ?_) ?_
  · show Steps p.tables e below (T1.setTop (mkF m 2 #[.val (.ref o0)] [(.ref b1)])) _
    refine XS.aloadN X1.here hx rfl (hb hby d7_2) rfl rfl ?_
    refine XS.sipush X1.here hx rfl (hb hby d7_3) ?_
    exact kt
  obtain ⟨b3, T3, h3, kk3, X3, e3, E3, hS3, hk3, hZ3, hown3, st3⟩ := ldcS X1 hx hZ1 hown1 (hw _ (List.mem_of_getElem? (i := 38) rfl)) (fun a ha => hw a (own_sa a ha)) e1 hS1 hk1 (g := (mkF m 6 #[.val (.ref o0)] [(.int (200 : Int32)), (.ref o0), (.ref b1)])) rfl (hb hby d7_6) (n := 116) (by decide) (by decide) (by decide : 2 + 2 ≤ _) (by decide : 48 + 120 ≤ _)
  have Z4 : n0 ≤ h3.size := Nat.le_trans Z2 E3.1
  have Z4h : h0.size ≤ h3.size := Nat.le_trans Z2h E3.1
  refine own_thrW (a := T3.setTop (mkF m 8 #[.val (.ref o0)] [(.ref b3), (.int (200 : Int32)), (.ref o0), (.ref b1)])) (fun t kt => st3 t kt) ?_
  obtain ⟨fa, cK, hfn, st5⟩ := Jvm.LamKit.own_site X3 hx hZ3 (x := (⟨"com/example/chronoshard/chronoshard/model/Limits", "checkInstanceId", "(Ljava/lang/String;)Ljava/lang/String;"⟩ : MethodName)) (σ := own_sig) (by rw [State.methodNamed?_setVm hS3.1.alike]; exact Bd.named) (hw _ (List.mem_of_getElem? (i := 39) rfl)) rfl (g := (mkF m 8 #[.val (.ref o0)] [(.ref b3), (.int (200 : Int32)), (.ref o0), (.ref b1)])) rfl rfl (by rw [hml]; rfl) (hb hby d7_8) (by show 2 * 0 + 4 + 3072 ≤ _; decide)
  refine own_thrW (a := T3.setTop (mkF m 13 #[.val (.ref o0)] [(.ref fa), (.ref b3), (.int (200 : Int32)), (.ref o0), (.ref b1)])) (fun t kt => st5 t kt) ?_
  obtain ⟨_, _, ⟨T6, L6, k6, n6⟩, -, X6, ⟨Lc6, hQ6, l6, y6, z6⟩, st6⟩ := Jvm.LawKit.callS X3 hx (y := (⟨"com/example/chronoshard/chronoshard/model/Limits", "checkText", "(Ljava/lang/String;Ljava/lang/String;ILjava/lang/String;Ljava/util/function/IntPredicate;)Ljava/lang/String;"⟩ : MethodName)) hown3 (mvT hZ3 (hw _ (List.mem_of_getElem? (i := 42) rfl))) (mvT hZ3 (hw _ (List.mem_of_getElem? (i := 43) rfl))) (mvT hZ3 (hw _ (List.mem_of_getElem? (i := 33) rfl))) (mvT hZ3 (hw _ (List.mem_of_getElem? (i := 44) rfl))) (by decide) (backOf (W := 0) (rmT2 l Z a0 hw [] b1 o0 b3 fa sv ks w0 w1 cs fm cK h3 n0 Z4 ((E_o0.ext E1).ext E3) ((F_v.ext E1).ext E3) ((F_c.ext E1).ext E3) ((V_sv.ext E1).ext E3) S_cs hcs S_fm hfm ((hO.ext E1).ext E3) hfn Hw0 Hw1) hZ3 (hw _ (List.mem_of_getElem? (i := 44) rfl)) (hw _ (List.mem_of_getElem? (i := 33) rfl)) (by decide) (by decide)) (g := (mkF m 13 #[.val (.ref o0)] [(.ref fa), (.ref b3), (.int (200 : Int32)), (.ref o0), (.ref b1)])) rfl (by rw [hml]; rfl) (argsL := [(.ref b1), (.ref o0), (.int (200 : Int32)), (.ref b3), (.ref fa)]) (rest := []) (lenOf pd__28Ljava_2flang_2fString_3bLjava_2flang_2fString_3bILjava_2flang_2fString_3bLjava_2futil_2ffunction_2fIntPredicate_3b_29Ljava_2flang_2fString_3b rfl) rfl (by show 2 * 0 + _ ≤ _; exact Nat.le_of_eq rfl) (hb hby d7_13) (fun _ _ => ⟨rfl, e3, (by decide : 4 + 0 ≤ _), (by decide : 168 + 0 ≤ _)⟩)
  dsimp only [Pt.U, Pt.locs, Pt.cells, Pt.slots] at X6 l6 y6 z6 st6 hQ6
  obtain ⟨rfl, N6q, e6⟩ := hQ6
  obtain ⟨lc6, X6, N6⟩ := own_pack X6 l6 y6 z6 N0 N6q (C := 4) (S' := 168) rfl rfl
  refine own_thrW (a := T6.setTop (mkF m 16 #[.val (.ref o0)] [(.ref o0)])) (fun t kt => st6 t kt) ?_
  exact own_endW X6 hS3 (by rw [e6]; exact hk3) hlk (v := some (.ref o0)) (fun h => by rw [Bd.returns] at h; cases h) (fun fs hr => retA X6 hx Bd.returns rfl rfl (hb hby d7_16) hr) (by rw [e6]; exact ⟨rfl, N6, (((Keep.refl h0 []).ext E1).ext E3)⟩) (by decide : 4 ≤ _) (by decide : 168 ≤ _)
theorem ef_rmT3 (m : MethodId) (o0 : Addr) (o1 : Addr) (o3 : Addr) (fa : Addr)  : entryFrame m #[(.ref o0), (.ref o1), (.int (200 : Int32)), (.ref o3), (.ref fa)] 6 = mkF m 0 #[.val (.ref o0), .val (.ref o1), .val (.int (200 : Int32)), .val (.ref o3), .val (.ref fa), .unset] [] := by first |  (simp [entryFrame, mkF, argsToLocals, Value.category]; done) | rfl
def Q_rmT3 (Z : State) (o0 : Addr) (o1 : Addr) (o3 : Addr) (fa : Addr) (sv : Addr) (ks : ClassId) (w0 : Int32) (w1 : Int32) (w2 : Int32) (cs : Int32) (fm : Value) (cK : ClassId) (h0 : Heap) (n0 : Nat) (v : Option Value) (h : Heap) (L : List Loc) : Prop := v = some (.ref o1) ∧ Fr n0 L ∧ h = h0
set_option maxRecDepth 65536 in
set_option maxHeartbeats 40000000 in
theorem rmT3 (l : Launch) (Z : State) (a0 : Array Value) (hw : ∀ d ∈ tables_1, d.before a0 Z = true) (ws : List Jvm.Cond) (o0 : Addr) (o1 : Addr) (o3 : Addr) (fa : Addr) (sv : Addr) (ks : ClassId) (w0 : Int32) (w1 : Int32) (w2 : Int32) (cs : Int32) (fm : Value) (cK : ClassId) (h0 : Heap) (n0 : Nat) (Z0 : n0 ≤ h0.size) (E_o1 : Exa Z h0 o1 "java/lang/String") (F_value_o1 : Fld Z h0 o1 "java/lang/String" "value" "[B" (.ref sv)) (F_coder_o1 : Fld Z h0 o1 "java/lang/String" "coder" "B" (.int (0 : Int32))) (V_sv : Arv Z h0 sv ks .byte (3 : Int32) [(.int w0), (.int w1), (.int w2)] (.int (0 : Int32))) (S_cs : Sta Z Z.heap "java/lang/String" "COMPACT_STRINGS" "Z" (.int cs)) (hcs : ¬ cs = (0 : Int32)) (S_fm : Sta Z Z.heap "jdk/internal/util/Preconditions" "SIOOBE_FORMATTER" "Ljava/util/function/BiFunction;" fm) (hfm : fm.isRef = true) (hO : Old Z n0 h0) (hfn : Jvm.LamKit.own_Fn Z "com/example/chronoshard/chronoshard/model/Limits" own_sig fa cK) (Hw0 : 32 ≤ w0.toInt ∧ w0.toInt ≤ 126) (Hw1 : 32 ≤ w1.toInt ∧ w1.toInt ≤ 126) (Hw2 : 32 ≤ w2.toInt ∧ w2.toInt ≤ 126) :
    MetFree l (⟨"com/example/chronoshard/chronoshard/model/Limits", "checkText", "(Ljava/lang/String;Ljava/lang/String;ILjava/lang/String;Ljava/util/function/IntPredicate;)Ljava/lang/String;"⟩ : MethodName) (head1 (Jvm.Cond.code (⟨"com/example/chronoshard/chronoshard/model/Limits", "checkText", "(Ljava/lang/String;Ljava/lang/String;ILjava/lang/String;Ljava/util/function/IntPredicate;)Ljava/lang/String;"⟩ : MethodName) prog_8_method_7_code 6 (some (.object "java/lang/String")) :: ws) ({ frames := 4, cells := 0, slots := 0, locals := 54 } : Room)) (fun a U => a = #[(.ref o0), (.ref o1), (.int (200 : Int32)), (.ref o3), (.ref fa)] ∧ Z.Warmed39 U.vm ∧ U.heap = h0) (fun _ _ _ _ _ => True) (fun _ U o U' => ∃ v L, o = .returned v ∧ Q_rmT3 Z o0 o1 o3 fa sv ks w0 w1 w2 cs fm cK h0 n0 v U'.heap L ∧ FrameEnd U o U' L ({ frames := 4, cells := 0, slots := 0, locals := 54 } : Room).cells ({ frames := 4, cells := 0, slots := 0, locals := 54 } : Room).slots) := by
  refine MetFree.of_bodySF (plainFor_of_name pn_com_example_chronoshard_chronoshard_model_Limits) hisR ?_
  intro p e s m args below meth c s₁ Bd hml0 hP hK
  obtain ⟨rfl, hZ, hh⟩ := hP
  have hx := Bd.exec
  have hby := Bd.bytes
  have hml : c.maxLocals = 6 := hml0
  have hown : s.vm.findClass "com/example/chronoshard/chronoshard/model/Limits" = some m.cls := findClass_of_methodNamed Bd.named
  have hnm := (name_of_methodNamed Bd.named Bd.method).1
  have hlk := Bd.notSynchronized
  have X0 : Stand p l e ({ frames := 4, cells := 0, slots := 0, locals := 54 } : Room) s m #[(.ref o0), (.ref o1), (.int (200 : Int32)), (.ref o3), (.ref fa)] below meth c s₁ [] 0 0 := Stand.of_body Bd
  have e0 : s₁.heap = h0 := by rw [← hh, Bd.state]; rfl
  have N0 := Fr.nil n0
  show own_G p.tables e below s (Q_rmT3 Z o0 o1 o3 fa sv ks w0 w1 w2 cs fm cK h0 n0) ({ frames := 4, cells := 0, slots := 0, locals := 54 } : Room).cells ({ frames := 4, cells := 0, slots := 0, locals := 54 } : Room).slots _
  refine own_thr (a := s₁.setTop (mkF m 0 #[.val (.ref o0), .val (.ref o1), .val (.int (200 : Int32)), .val (.ref o3), .val (.ref fa), .unset] [])) (fun t kt => castTop (ef_rmT3 m o0 o1 o3 fa) kt) ?_
  refine own_thr (a := s₁.setTop (mkF m 2 #[.val (.ref o0), .val (.ref o1), .val (.int (200 : Int32)), .val (.ref o3), .val (.ref fa), .unset] [(.ref o0), (.ref o1)])) (fun t kt => ?_) ?_
  · show Steps p.tables e below (s₁.setTop (mkF m 0 #[.val (.ref o0), .val (.ref o1), .val (.int (200 : Int32)), .val (.ref o3), .val (.ref fa), .unset] [])) _
    refine XS.aloadN X0.here hx rfl (hb hby d8_0) rfl rfl ?_
    refine XS.aloadN X0.here hx rfl (hb hby d8_1) rfl rfl ?_
    exact kt
  obtain ⟨_, _, ⟨T1, L1, k1, n1⟩, -, X1, ⟨Lc1, hQ1, l1, y1, z1⟩, st1⟩ := Jvm.LawKit.callS X0 hx (y := (⟨"java/util/Objects", "requireNonNull", "(Ljava/lang/Object;Ljava/lang/String;)Ljava/lang/Object;"⟩ : MethodName)) hown (mvT hZ (hw _ (List.mem_of_getElem? (i := 45) rfl))) (mvT hZ (hw _ (List.mem_of_getElem? (i := 46) rfl))) (mvT hZ (hw _ (List.mem_of_getElem? (i := 47) rfl))) (mvT hZ (hw _ (List.mem_of_getElem? (i := 48) rfl))) (by decide) (backOf (W := 0) (rmO l Z a0 hw [] o1 o0 h0 n0 Z0) hZ (hw _ (List.mem_of_getElem? (i := 48) rfl)) (hw _ (List.mem_of_getElem? (i := 47) rfl)) (by decide) (by decide)) (g := (mkF m 2 #[.val (.ref o0), .val (.ref o1), .val (.int (200 : Int32)), .val (.ref o3), .val (.ref fa), .unset] [(.ref o0), (.ref o1)])) rfl (by rw [hml]; rfl) (argsL := [(.ref o1), (.ref o0)]) (rest := []) (lenOf pd__28Ljava_2flang_2fObject_3bLjava_2flang_2fString_3b_29Ljava_2flang_2fObject_3b rfl) rfl (by show 2 * 0 + _ ≤ _; exact Nat.le_of_eq rfl) (hb hby d8_2) (fun _ _ => ⟨rfl, e0, (by decide : 0 + 0 ≤ _), (by decide : 0 + 0 ≤ _)⟩)
  dsimp only [Pt.U, Pt.locs, Pt.cells, Pt.slots] at X1 l1 y1 z1 st1 hQ1
  obtain ⟨rfl, N1q, e1⟩ := hQ1
  obtain ⟨lc1, X1, N1⟩ := own_pack X1 l1 y1 z1 N0 N1q (C := 0) (S' := 0) rfl rfl
  refine own_thr (a := T1.setTop (mkF m 5 #[.val (.ref o0), .val (.ref o1), .val (.int (200 : Int32)), .val (.ref o3), .val (.ref fa), .unset] [(.ref o1)])) (fun t kt => st1 t kt) ?_
  refine own_thr (a := T1.setTop (mkF m 7 #[.val (.ref o0), .val (.ref o1), .val (.int (200 : Int32)), .val (.ref o3), .val (.ref fa), .unset] [(.ref o1)])) (fun t kt => ?_) ?_
  · show Steps p.tables e below (T1.setTop (mkF m 5 #[.val (.ref o0), .val (.ref o1), .val (.int (200 : Int32)), .val (.ref o3), .val (.ref fa), .unset] [(.ref o1)])) _
    refine XS.pop X1.here hx rfl (hb hby d8_5) rfl rfl ?_
    refine XS.aloadN X1.here hx rfl (hb hby d8_6) rfl rfl ?_
    exact kt
  obtain ⟨cq2, kq2, q2a, q2b, q2c⟩ := isOf hZ e1 E_o1
  obtain ⟨_, _, ⟨T2, L2, k2, n2⟩, -, X2, ⟨Lc2, hQ2, l2, y2, z2⟩, st2⟩ := X1.virtualBack hx (y := (⟨"java/lang/String", "isEmpty", "()Z"⟩ : MethodName)) (z := (⟨"java/lang/String", "isEmpty", "()Z"⟩ : MethodName)) hown (mvT hZ (hw _ (List.mem_of_getElem? (i := 49) rfl))) (mvT hZ (hw _ (List.mem_of_getElem? (i := 50) rfl))) (notFace_of_selects (args := #[]) (mvT hZ (hw _ (List.mem_of_getElem? (i := 52) rfl)))) (mvT hZ (hw _ (List.mem_of_getElem? (i := 52) rfl))) (mvT hZ (hw _ (List.mem_of_getElem? (i := 51) rfl))) (by decide) (backOf (W := 0) (rmEM3 l Z a0 hw [] o1 sv ks [(.int w0), (.int w1), (.int w2)] h0 n0 Z0 E_o1 F_value_o1 F_coder_o1 V_sv) hZ (hw _ (List.mem_of_getElem? (i := 53) rfl)) (hw _ (List.mem_of_getElem? (i := 7) rfl)) (by decide) (by decide)) q2a q2c (g := (mkF m 7 #[.val (.ref o0), .val (.ref o1), .val (.int (200 : Int32)), .val (.ref o3), .val (.ref fa), .unset] [(.ref o1)])) rfl (by rw [hml]; rfl) (Steps.refl _) (argsL := []) (rest := []) (lenOf pd__28_29Z rfl) rfl (by show 2 * 0 + _ ≤ _; exact Nat.le_of_eq rfl) (hb hby d8_7) (fun _ _ => ⟨rfl, e1, (by decide : 0 + 0 ≤ _), (by decide : 0 + 0 ≤ _)⟩)
  dsimp only [Pt.U, Pt.locs, Pt.cells, Pt.slots] at X2 l2 y2 z2 st2 hQ2
  obtain ⟨rfl, N2q, e2⟩ := hQ2
  obtain ⟨lc2, X2, N2⟩ := own_pack X2 l2 y2 z2 N1 N2q (C := 0) (S' := 0) rfl rfl
  refine own_thr (a := T2.setTop (mkF m 10 #[.val (.ref o0), .val (.ref o1), .val (.int (200 : Int32)), .val (.ref o3), .val (.ref fa), .unset] [(.int (0 : Int32))])) (fun t kt => st2.trans kt) ?_
  have S3 := S_cs.ext hO.2
  refine own_thr (a := T2.setTop (mkF m 14 #[.val (.ref o0), .val (.ref o1), .val (.int (200 : Int32)), .val (.ref o3), .val (.ref fa), .unset] [(.ref o1)])) (fun t kt => ?_) ?_
  · show Steps p.tables e below (T2.setTop (mkF m 10 #[.val (.ref o0), .val (.ref o1), .val (.int (200 : Int32)), .val (.ref o3), .val (.ref fa), .unset] [(.int (0 : Int32))])) _
    refine XS.ifNo X2.here hx rfl (hb hby d8_10) rfl ((if0 _ _).trans (teq rfl).2) ?_
    refine XS.aloadN X2.here hx rfl (hb hby d8_13) rfl rfl ?_
    exact kt
  obtain ⟨cq4, kq4, q4a, q4b, q4c⟩ := isOf hZ e2 E_o1
  obtain ⟨_, _, ⟨T4, L4, k4, n4⟩, -, X4, ⟨Lc4, hQ4, l4, y4, z4⟩, st4⟩ := X2.virtualBack hx (y := (⟨"java/lang/String", "length", "()I"⟩ : MethodName)) (z := (⟨"java/lang/String", "length", "()I"⟩ : MethodName)) hown (mvT hZ (hw _ (List.mem_of_getElem? (i := 54) rfl))) (mvT hZ (hw _ (List.mem_of_getElem? (i := 55) rfl))) (notFace_of_selects (args := #[]) (mvT hZ (hw _ (List.mem_of_getElem? (i := 57) rfl)))) (mvT hZ (hw _ (List.mem_of_getElem? (i := 57) rfl))) (mvT hZ (hw _ (List.mem_of_getElem? (i := 56) rfl))) (by decide) (backOf (W := 0) (rmLN3 l Z a0 hw [] o1 sv ks [(.int w0), (.int w1), (.int w2)] cs h0 n0 Z0 E_o1 F_value_o1 F_coder_o1 V_sv S3 hcs) hZ (hw _ (List.mem_of_getElem? (i := 58) rfl)) (hw _ (List.mem_of_getElem? (i := 7) rfl)) (by decide) (by decide)) q4a q4c (g := (mkF m 14 #[.val (.ref o0), .val (.ref o1), .val (.int (200 : Int32)), .val (.ref o3), .val (.ref fa), .unset] [(.ref o1)])) rfl (by rw [hml]; rfl) (Steps.refl _) (argsL := []) (rest := []) (lenOf pd__28_29I rfl) rfl (by show 2 * 0 + _ ≤ _; exact Nat.le_of_eq rfl) (hb hby d8_14) (fun _ _ => ⟨rfl, e2, (by decide : 0 + 0 ≤ _), (by decide : 0 + 0 ≤ _)⟩)
  dsimp only [Pt.U, Pt.locs, Pt.cells, Pt.slots] at X4 l4 y4 z4 st4 hQ4
  obtain ⟨rfl, N4q, e4⟩ := hQ4
  obtain ⟨lc4, X4, N4⟩ := own_pack X4 l4 y4 z4 N2 N4q (C := 0) (S' := 0) rfl rfl
  refine own_thr (a := T4.setTop (mkF m 17 #[.val (.ref o0), .val (.ref o1), .val (.int (200 : Int32)), .val (.ref o3), .val (.ref fa), .unset] [(.int (3 : Int32))])) (fun t kt => st4.trans kt) ?_
  have S5 := S_cs.ext hO.2
  refine own_thr (a := T4.setTop (mkF m 46 #[.val (.ref o0), .val (.ref o1), .val (.int (200 : Int32)), .val (.ref o3), .val (.ref fa), .val (.int (0 : Int32))] [(.ref o1), (.int (0 : Int32))])) (fun t kt => ?_) ?_
  · show Steps p.tables e below (T4.setTop (mkF m 17 #[.val (.ref o0), .val (.ref o1), .val (.int (200 : Int32)), .val (.ref o3), .val (.ref fa), .unset] [(.int (3 : Int32))])) _
    refine XS.iloadN X4.here hx rfl (hb hby d8_17) rfl ?_
    refine XS.icmpYes X4.here hx rfl (pc0 := 18) (pc' := 40) rfl (hb hby d8_18) rfl (flt (by decide)).2.2.2 (by decide) (by decide) ?_
    refine XS.iconst X4.here hx rfl (hb hby d8_40) ?_
    refine XS.istore X4.here hx rfl (hb hby d8_41) rfl (l' := #[.val (.ref o0), .val (.ref o1), .val (.int (200 : Int32)), .val (.ref o3), .val (.ref fa), .val (.int (0 : Int32))]) rfl ?_
    refine XS.iload X4.here hx rfl (hb hby d8_43) rfl ?_
    refine XS.aloadN X4.here hx rfl (hb hby d8_45) rfl rfl ?_
    exact kt
  obtain ⟨cq6, kq6, q6a, q6b, q6c⟩ := isOf hZ e4 E_o1
  obtain ⟨_, _, ⟨T6, L6, k6, n6⟩, -, X6, ⟨Lc6, hQ6, l6, y6, z6⟩, st6⟩ := X4.virtualBack hx (y := (⟨"java/lang/String", "length", "()I"⟩ : MethodName)) (z := (⟨"java/lang/String", "length", "()I"⟩ : MethodName)) hown (mvT hZ (hw _ (List.mem_of_getElem? (i := 54) rfl))) (mvT hZ (hw _ (List.mem_of_getElem? (i := 55) rfl))) (notFace_of_selects (args := #[]) (mvT hZ (hw _ (List.mem_of_getElem? (i := 57) rfl)))) (mvT hZ (hw _ (List.mem_of_getElem? (i := 57) rfl))) (mvT hZ (hw _ (List.mem_of_getElem? (i := 56) rfl))) (by decide) (backOf (W := 1) (rmLN3 l Z a0 hw [] o1 sv ks [(.int w0), (.int w1), (.int w2)] cs h0 n0 Z0 E_o1 F_value_o1 F_coder_o1 V_sv S5 hcs) hZ (hw _ (List.mem_of_getElem? (i := 58) rfl)) (hw _ (List.mem_of_getElem? (i := 7) rfl)) (by decide) (by decide)) q6a q6c (g := (mkF m 46 #[.val (.ref o0), .val (.ref o1), .val (.int (200 : Int32)), .val (.ref o3), .val (.ref fa), .val (.int (0 : Int32))] [(.ref o1), (.int (0 : Int32))])) rfl (by rw [hml]; rfl) (Steps.refl _) (argsL := []) (rest := [(.int (0 : Int32))]) (lenOf pd__28_29I rfl) rfl (by show 2 * 0 + _ ≤ _; exact Nat.le_of_eq rfl) (hb hby d8_46) (fun _ _ => ⟨rfl, e4, (by decide : 0 + 0 ≤ _), (by decide : 0 + 0 ≤ _)⟩)
  dsimp only [Pt.U, Pt.locs, Pt.cells, Pt.slots] at X6 l6 y6 z6 st6 hQ6
  obtain ⟨rfl, N6q, e6⟩ := hQ6
  obtain ⟨lc6, X6, N6⟩ := own_pack X6 l6 y6 z6 N4 N6q (C := 0) (S' := 0) rfl rfl
  refine own_thr (a := T6.setTop (mkF m 49 #[.val (.ref o0), .val (.ref o1), .val (.int (200 : Int32)), .val (.ref o3), .val (.ref fa), .val (.int (0 : Int32))] [(.int (3 : Int32)), (.int (0 : Int32))])) (fun t kt => st6.trans kt) ?_
  have S7 := S_cs.ext hO.2
  have S8 := S_fm.ext hO.2
  refine own_thr (a := T6.setTop (mkF m 57 #[.val (.ref o0), .val (.ref o1), .val (.int (200 : Int32)), .val (.ref o3), .val (.ref fa), .val (.int (0 : Int32))] [(.int (0 : Int32)), (.ref o1), (.ref fa)])) (fun t kt => ?_) ?_
  · show Steps p.tables e below (T6.setTop (mkF m 49 #[.val (.ref o0), .val (.ref o1), .val (.int (200 : Int32)), .val (.ref o3), .val (.ref fa), .val (.int (0 : Int32))] [(.int (3 : Int32)), (.int (0 : Int32))])) _
    refine XS.icmpNo X6.here hx rfl (hb hby d8_49) rfl (tlt (by decide)).2.1 ?_
    refine XS.aload X6.here hx rfl (hb hby d8_52) rfl rfl ?_
    refine XS.aloadN X6.here hx rfl (hb hby d8_54) rfl rfl ?_
    refine XS.iload X6.here hx rfl (hb hby d8_55) rfl ?_
    exact kt
  obtain ⟨cq9, kq9, q9a, q9b, q9c⟩ := isOf hZ e6 E_o1
  obtain ⟨_, _, ⟨T9, L9, k9, n9⟩, -, X9, ⟨Lc9, hQ9, l9, y9, z9⟩, st9⟩ := X6.virtualBack hx (y := (⟨"java/lang/String", "charAt", "(I)C"⟩ : MethodName)) (z := (⟨"java/lang/String", "charAt", "(I)C"⟩ : MethodName)) hown (mvT hZ (hw _ (List.mem_of_getElem? (i := 64) rfl))) (mvT hZ (hw _ (List.mem_of_getElem? (i := 65) rfl))) (notFace_of_selects (args := #[]) (mvT hZ (hw _ (List.mem_of_getElem? (i := 67) rfl)))) (mvT hZ (hw _ (List.mem_of_getElem? (i := 67) rfl))) (mvT hZ (hw _ (List.mem_of_getElem? (i := 66) rfl))) (by decide) (backOf (W := 1) (rmCA30 l Z a0 hw [] o1 sv ks w0 w1 w2 cs fm h0 n0 Z0 E_o1 F_value_o1 F_coder_o1 V_sv S7 S8 hcs hfm) hZ (hw _ (List.mem_of_getElem? (i := 68) rfl)) (hw _ (List.mem_of_getElem? (i := 7) rfl)) (by decide) (by decide)) q9a q9c (g := (mkF m 57 #[.val (.ref o0), .val (.ref o1), .val (.int (200 : Int32)), .val (.ref o3), .val (.ref fa), .val (.int (0 : Int32))] [(.int (0 : Int32)), (.ref o1), (.ref fa)])) rfl (by rw [hml]; rfl) (Steps.refl _) (argsL := [(.int (0 : Int32))]) (rest := [(.ref fa)]) (lenOf pd__28I_29C rfl) rfl (by show 2 * 0 + _ ≤ _; exact Nat.le_of_eq rfl) (hb hby d8_57) (fun _ _ => ⟨rfl, e6, (by decide : 0 + 0 ≤ _), (by decide : 0 + 0 ≤ _)⟩)
  dsimp only [Pt.U, Pt.locs, Pt.cells, Pt.slots] at X9 l9 y9 z9 st9 hQ9
  obtain ⟨rfl, N9q, e9⟩ := hQ9
  obtain ⟨lc9, X9, N9⟩ := own_pack X9 l9 y9 z9 N6 N9q (C := 0) (S' := 0) rfl rfl
  refine own_thr (a := T9.setTop (mkF m 60 #[.val (.ref o0), .val (.ref o1), .val (.int (200 : Int32)), .val (.ref o3), .val (.ref fa), .val (.int (0 : Int32))] [(.int (nar .char (nar .char ((w0 &&& (255 : Int32)).toUInt32.toUInt16.toUInt32.toInt32)))), (.ref fa)])) (fun t kt => st9.trans kt) ?_
  rw [show (nar .char (nar .char ((w0 &&& (255 : Int32)).toUInt32.toUInt16.toUInt32.toInt32))) = w0 from own_ch Hw0]
  obtain ⟨T10, L10, X10, N10q, e10, st10⟩ := Jvm.LamKit.own_lam X9 hx hZ (own := "com/example/chronoshard/chronoshard/model/Limits") (host := "com/example/chronoshard/chronoshard/model/Limits") (index := 68) (count := 2) (xi := (⟨"java/util/function/IntPredicate", "test", "(I)Z"⟩ : MethodName)) (y := (⟨"com/example/chronoshard/chronoshard/model/Limits", "lambda$checkInstanceId$1", "(I)Z"⟩ : MethodName)) (σ := own_sig) (argsL := [.int w0]) (argsT := [.int w0]) (rest := []) (val := (.int (1 : Int32))) (n0 := n0) (rmLam l Z a0 hw [] w0 h0 n0 Z0) (fun v h' L q => ⟨by rw [q.1, own_l1 Hw0], q.2⟩) hown (mvT hZ (hw _ (List.mem_of_getElem? (i := 85) rfl))) (mvT hZ (hw _ (List.mem_of_getElem? (i := 86) rfl))) (mvT hZ (hw _ (List.mem_of_getElem? (i := 87) rfl))) (mvT hZ (hw _ (List.mem_of_getElem? (i := 89) rfl))) (mvT hZ (hw _ (List.mem_of_getElem? (i := 88) rfl))) (mvT hZ (hw _ (List.mem_of_getElem? (i := 33) rfl))) (by decide +kernel) (by decide +kernel) (by decide) hfn hO e9 own_fwd own_g1 own_g4 (g := (mkF m 60 #[.val (.ref o0), .val (.ref o1), .val (.int (200 : Int32)), .val (.ref o3), .val (.ref fa), .val (.int (0 : Int32))] [(.int w0), (.ref fa)])) rfl (by rw [hml]; rfl) (L0 := #[.val (.ref fa), .val (.int w0)]) (lenOf pd__28I_29Z rfl) (lenOf pd__28I_29Z rfl) rfl (hb hby d8_60) (fun _ => rfl) rfl (fun U ck bl target hU hck _ _ k => XS.iloadN hU hx rfl (hb hck own_g0) rfl k) (Or.inl ⟨.boolean, _, rfl, Or.inr (Or.inl rfl), rfl, rfl, rfl⟩) (by decide) (by show 2 * 0 + 0 + (2 + 11) + ((1 + 11) + 0) ≤ _; decide) (Nat.zero_le _) (Nat.zero_le _)
  obtain ⟨lc10, X10, N10⟩ := own_pack X10 rfl rfl rfl N9 N10q (C := 0) (S' := 0) rfl rfl
  refine own_thr (a := T10.setTop (mkF m 65 #[.val (.ref o0), .val (.ref o1), .val (.int (200 : Int32)), .val (.ref o3), .val (.ref fa), .val (.int (0 : Int32))] [(.int (1 : Int32))])) (fun t kt => st10 t kt) ?_
  have S11 := S_cs.ext hO.2
  refine own_thr (a := T10.setTop (mkF m 46 #[.val (.ref o0), .val (.ref o1), .val (.int (200 : Int32)), .val (.ref o3), .val (.ref fa), .val (.int (1 : Int32))] [(.ref o1), (.int (1 : Int32))])) (fun t kt => ?_) ?_
  · show Steps p.tables e below (T10.setTop (mkF m 65 #[.val (.ref o0), .val (.ref o1), .val (.int (200 : Int32)), .val (.ref o3), .val (.ref fa), .val (.int (0 : Int32))] [(.int (1 : Int32))])) _
    refine XS.ifYes X10.here hx rfl (pc0 := 65) (pc' := 77) rfl (hb hby d8_65) rfl ((if0 _ _).trans (feq (by decide)).2) (by decide) (by decide) ?_
    refine XS.iinc X10.here hx rfl (hb hby d8_77) rfl (l' := #[.val (.ref o0), .val (.ref o1), .val (.int (200 : Int32)), .val (.ref o3), .val (.ref fa), .val (.int (1 : Int32))]) rfl ?_
    refine XS.goto X10.here hx rfl (pc0 := 80) (pc' := 43) rfl (hb hby d8_80) (by decide) (by decide) ?_
    refine XS.iload X10.here hx rfl (hb hby d8_43) rfl ?_
    refine XS.aloadN X10.here hx rfl (hb hby d8_45) rfl rfl ?_
    exact kt
  obtain ⟨cq12, kq12, q12a, q12b, q12c⟩ := isOf hZ e10 E_o1
  obtain ⟨_, _, ⟨T12, L12, k12, n12⟩, -, X12, ⟨Lc12, hQ12, l12, y12, z12⟩, st12⟩ := X10.virtualBack hx (y := (⟨"java/lang/String", "length", "()I"⟩ : MethodName)) (z := (⟨"java/lang/String", "length", "()I"⟩ : MethodName)) hown (mvT hZ (hw _ (List.mem_of_getElem? (i := 54) rfl))) (mvT hZ (hw _ (List.mem_of_getElem? (i := 55) rfl))) (notFace_of_selects (args := #[]) (mvT hZ (hw _ (List.mem_of_getElem? (i := 57) rfl)))) (mvT hZ (hw _ (List.mem_of_getElem? (i := 57) rfl))) (mvT hZ (hw _ (List.mem_of_getElem? (i := 56) rfl))) (by decide) (backOf (W := 1) (rmLN3 l Z a0 hw [] o1 sv ks [(.int w0), (.int w1), (.int w2)] cs h0 n0 Z0 E_o1 F_value_o1 F_coder_o1 V_sv S11 hcs) hZ (hw _ (List.mem_of_getElem? (i := 58) rfl)) (hw _ (List.mem_of_getElem? (i := 7) rfl)) (by decide) (by decide)) q12a q12c (g := (mkF m 46 #[.val (.ref o0), .val (.ref o1), .val (.int (200 : Int32)), .val (.ref o3), .val (.ref fa), .val (.int (1 : Int32))] [(.ref o1), (.int (1 : Int32))])) rfl (by rw [hml]; rfl) (Steps.refl _) (argsL := []) (rest := [(.int (1 : Int32))]) (lenOf pd__28_29I rfl) rfl (by show 2 * 0 + _ ≤ _; exact Nat.le_of_eq rfl) (hb hby d8_46) (fun _ _ => ⟨rfl, e10, (by decide : 0 + 0 ≤ _), (by decide : 0 + 0 ≤ _)⟩)
  dsimp only [Pt.U, Pt.locs, Pt.cells, Pt.slots] at X12 l12 y12 z12 st12 hQ12
  obtain ⟨rfl, N12q, e12⟩ := hQ12
  obtain ⟨lc12, X12, N12⟩ := own_pack X12 l12 y12 z12 N10 N12q (C := 0) (S' := 0) rfl rfl
  refine own_thr (a := T12.setTop (mkF m 49 #[.val (.ref o0), .val (.ref o1), .val (.int (200 : Int32)), .val (.ref o3), .val (.ref fa), .val (.int (1 : Int32))] [(.int (3 : Int32)), (.int (1 : Int32))])) (fun t kt => st12.trans kt) ?_
  have S13 := S_cs.ext hO.2
  have S14 := S_fm.ext hO.2
  refine own_thr (a := T12.setTop (mkF m 57 #[.val (.ref o0), .val (.ref o1), .val (.int (200 : Int32)), .val (.ref o3), .val (.ref fa), .val (.int (1 : Int32))] [(.int (1 : Int32)), (.ref o1), (.ref fa)])) (fun t kt => ?_) ?_
  · show Steps p.tables e below (T12.setTop (mkF m 49 #[.val (.ref o0), .val (.ref o1), .val (.int (200 : Int32)), .val (.ref o3), .val (.ref fa), .val (.int (1 : Int32))] [(.int (3 : Int32)), (.int (1 : Int32))])) _
    refine XS.icmpNo X12.here hx rfl (hb hby d8_49) rfl (tlt (by decide)).2.1 ?_
    refine XS.aload X12.here hx rfl (hb hby d8_52) rfl rfl ?_
    refine XS.aloadN X12.here hx rfl (hb hby d8_54) rfl rfl ?_
    refine XS.iload X12.here hx rfl (hb hby d8_55) rfl ?_
    exact kt
  obtain ⟨cq15, kq15, q15a, q15b, q15c⟩ := isOf hZ e12 E_o1
  obtain ⟨_, _, ⟨T15, L15, k15, n15⟩, -, X15, ⟨Lc15, hQ15, l15, y15, z15⟩, st15⟩ := X12.virtualBack hx (y := (⟨"java/lang/String", "charAt", "(I)C"⟩ : MethodName)) (z := (⟨"java/lang/String", "charAt", "(I)C"⟩ : MethodName)) hown (mvT hZ (hw _ (List.mem_of_getElem? (i := 64) rfl))) (mvT hZ (hw _ (List.mem_of_getElem? (i := 65) rfl))) (notFace_of_selects (args := #[]) (mvT hZ (hw _ (List.mem_of_getElem? (i := 67) rfl)))) (mvT hZ (hw _ (List.mem_of_getElem? (i := 67) rfl))) (mvT hZ (hw _ (List.mem_of_getElem? (i := 66) rfl))) (by decide) (backOf (W := 1) (rmCA31 l Z a0 hw [] o1 sv ks w0 w1 w2 cs fm h0 n0 Z0 E_o1 F_value_o1 F_coder_o1 V_sv S13 S14 hcs hfm) hZ (hw _ (List.mem_of_getElem? (i := 68) rfl)) (hw _ (List.mem_of_getElem? (i := 7) rfl)) (by decide) (by decide)) q15a q15c (g := (mkF m 57 #[.val (.ref o0), .val (.ref o1), .val (.int (200 : Int32)), .val (.ref o3), .val (.ref fa), .val (.int (1 : Int32))] [(.int (1 : Int32)), (.ref o1), (.ref fa)])) rfl (by rw [hml]; rfl) (Steps.refl _) (argsL := [(.int (1 : Int32))]) (rest := [(.ref fa)]) (lenOf pd__28I_29C rfl) rfl (by show 2 * 0 + _ ≤ _; exact Nat.le_of_eq rfl) (hb hby d8_57) (fun _ _ => ⟨rfl, e12, (by decide : 0 + 0 ≤ _), (by decide : 0 + 0 ≤ _)⟩)
  dsimp only [Pt.U, Pt.locs, Pt.cells, Pt.slots] at X15 l15 y15 z15 st15 hQ15
  obtain ⟨rfl, N15q, e15⟩ := hQ15
  obtain ⟨lc15, X15, N15⟩ := own_pack X15 l15 y15 z15 N12 N15q (C := 0) (S' := 0) rfl rfl
  refine own_thr (a := T15.setTop (mkF m 60 #[.val (.ref o0), .val (.ref o1), .val (.int (200 : Int32)), .val (.ref o3), .val (.ref fa), .val (.int (1 : Int32))] [(.int (nar .char (nar .char ((w1 &&& (255 : Int32)).toUInt32.toUInt16.toUInt32.toInt32)))), (.ref fa)])) (fun t kt => st15.trans kt) ?_
  rw [show (nar .char (nar .char ((w1 &&& (255 : Int32)).toUInt32.toUInt16.toUInt32.toInt32))) = w1 from own_ch Hw1]
  obtain ⟨T16, L16, X16, N16q, e16, st16⟩ := Jvm.LamKit.own_lam X15 hx hZ (own := "com/example/chronoshard/chronoshard/model/Limits") (host := "com/example/chronoshard/chronoshard/model/Limits") (index := 68) (count := 2) (xi := (⟨"java/util/function/IntPredicate", "test", "(I)Z"⟩ : MethodName)) (y := (⟨"com/example/chronoshard/chronoshard/model/Limits", "lambda$checkInstanceId$1", "(I)Z"⟩ : MethodName)) (σ := own_sig) (argsL := [.int w1]) (argsT := [.int w1]) (rest := []) (val := (.int (1 : Int32))) (n0 := n0) (rmLam l Z a0 hw [] w1 h0 n0 Z0) (fun v h' L q => ⟨by rw [q.1, own_l1 Hw1], q.2⟩) hown (mvT hZ (hw _ (List.mem_of_getElem? (i := 85) rfl))) (mvT hZ (hw _ (List.mem_of_getElem? (i := 86) rfl))) (mvT hZ (hw _ (List.mem_of_getElem? (i := 87) rfl))) (mvT hZ (hw _ (List.mem_of_getElem? (i := 89) rfl))) (mvT hZ (hw _ (List.mem_of_getElem? (i := 88) rfl))) (mvT hZ (hw _ (List.mem_of_getElem? (i := 33) rfl))) (by decide +kernel) (by decide +kernel) (by decide) hfn hO e15 own_fwd own_g1 own_g4 (g := (mkF m 60 #[.val (.ref o0), .val (.ref o1), .val (.int (200 : Int32)), .val (.ref o3), .val (.ref fa), .val (.int (1 : Int32))] [(.int w1), (.ref fa)])) rfl (by rw [hml]; rfl) (L0 := #[.val (.ref fa), .val (.int w1)]) (lenOf pd__28I_29Z rfl) (lenOf pd__28I_29Z rfl) rfl (hb hby d8_60) (fun _ => rfl) rfl (fun U ck bl target hU hck _ _ k => XS.iloadN hU hx rfl (hb hck own_g0) rfl k) (Or.inl ⟨.boolean, _, rfl, Or.inr (Or.inl rfl), rfl, rfl, rfl⟩) (by decide) (by show 2 * 0 + 0 + (2 + 11) + ((1 + 11) + 0) ≤ _; decide) (Nat.zero_le _) (Nat.zero_le _)
  obtain ⟨lc16, X16, N16⟩ := own_pack X16 rfl rfl rfl N15 N16q (C := 0) (S' := 0) rfl rfl
  refine own_thr (a := T16.setTop (mkF m 65 #[.val (.ref o0), .val (.ref o1), .val (.int (200 : Int32)), .val (.ref o3), .val (.ref fa), .val (.int (1 : Int32))] [(.int (1 : Int32))])) (fun t kt => st16 t kt) ?_
  have S17 := S_cs.ext hO.2
  refine own_thr (a := T16.setTop (mkF m 46 #[.val (.ref o0), .val (.ref o1), .val (.int (200 : Int32)), .val (.ref o3), .val (.ref fa), .val (.int (2 : Int32))] [(.ref o1), (.int (2 : Int32))])) (fun t kt => ?_) ?_
  · show Steps p.tables e below (T16.setTop (mkF m 65 #[.val (.ref o0), .val (.ref o1), .val (.int (200 : Int32)), .val (.ref o3), .val (.ref fa), .val (.int (1 : Int32))] [(.int (1 : Int32))])) _
    refine XS.ifYes X16.here hx rfl (pc0 := 65) (pc' := 77) rfl (hb hby d8_65) rfl ((if0 _ _).trans (feq (by decide)).2) (by decide) (by decide) ?_
    refine XS.iinc X16.here hx rfl (hb hby d8_77) rfl (l' := #[.val (.ref o0), .val (.ref o1), .val (.int (200 : Int32)), .val (.ref o3), .val (.ref fa), .val (.int (2 : Int32))]) rfl ?_
    refine XS.goto X16.here hx rfl (pc0 := 80) (pc' := 43) rfl (hb hby d8_80) (by decide) (by decide) ?_
    refine XS.iload X16.here hx rfl (hb hby d8_43) rfl ?_
    refine XS.aloadN X16.here hx rfl (hb hby d8_45) rfl rfl ?_
    exact kt
  obtain ⟨cq18, kq18, q18a, q18b, q18c⟩ := isOf hZ e16 E_o1
  obtain ⟨_, _, ⟨T18, L18, k18, n18⟩, -, X18, ⟨Lc18, hQ18, l18, y18, z18⟩, st18⟩ := X16.virtualBack hx (y := (⟨"java/lang/String", "length", "()I"⟩ : MethodName)) (z := (⟨"java/lang/String", "length", "()I"⟩ : MethodName)) hown (mvT hZ (hw _ (List.mem_of_getElem? (i := 54) rfl))) (mvT hZ (hw _ (List.mem_of_getElem? (i := 55) rfl))) (notFace_of_selects (args := #[]) (mvT hZ (hw _ (List.mem_of_getElem? (i := 57) rfl)))) (mvT hZ (hw _ (List.mem_of_getElem? (i := 57) rfl))) (mvT hZ (hw _ (List.mem_of_getElem? (i := 56) rfl))) (by decide) (backOf (W := 1) (rmLN3 l Z a0 hw [] o1 sv ks [(.int w0), (.int w1), (.int w2)] cs h0 n0 Z0 E_o1 F_value_o1 F_coder_o1 V_sv S17 hcs) hZ (hw _ (List.mem_of_getElem? (i := 58) rfl)) (hw _ (List.mem_of_getElem? (i := 7) rfl)) (by decide) (by decide)) q18a q18c (g := (mkF m 46 #[.val (.ref o0), .val (.ref o1), .val (.int (200 : Int32)), .val (.ref o3), .val (.ref fa), .val (.int (2 : Int32))] [(.ref o1), (.int (2 : Int32))])) rfl (by rw [hml]; rfl) (Steps.refl _) (argsL := []) (rest := [(.int (2 : Int32))]) (lenOf pd__28_29I rfl) rfl (by show 2 * 0 + _ ≤ _; exact Nat.le_of_eq rfl) (hb hby d8_46) (fun _ _ => ⟨rfl, e16, (by decide : 0 + 0 ≤ _), (by decide : 0 + 0 ≤ _)⟩)
  dsimp only [Pt.U, Pt.locs, Pt.cells, Pt.slots] at X18 l18 y18 z18 st18 hQ18
  obtain ⟨rfl, N18q, e18⟩ := hQ18
  obtain ⟨lc18, X18, N18⟩ := own_pack X18 l18 y18 z18 N16 N18q (C := 0) (S' := 0) rfl rfl
  refine own_thr (a := T18.setTop (mkF m 49 #[.val (.ref o0), .val (.ref o1), .val (.int (200 : Int32)), .val (.ref o3), .val (.ref fa), .val (.int (2 : Int32))] [(.int (3 : Int32)), (.int (2 : Int32))])) (fun t kt => st18.trans kt) ?_
  have S19 := S_cs.ext hO.2
  have S20 := S_fm.ext hO.2
  refine own_thr (a := T18.setTop (mkF m 57 #[.val (.ref o0), .val (.ref o1), .val (.int (200 : Int32)), .val (.ref o3), .val (.ref fa), .val (.int (2 : Int32))] [(.int (2 : Int32)), (.ref o1), (.ref fa)])) (fun t kt => ?_) ?_
  · show Steps p.tables e below (T18.setTop (mkF m 49 #[.val (.ref o0), .val (.ref o1), .val (.int (200 : Int32)), .val (.ref o3), .val (.ref fa), .val (.int (2 : Int32))] [(.int (3 : Int32)), (.int (2 : Int32))])) _
    refine XS.icmpNo X18.here hx rfl (hb hby d8_49) rfl (tlt (by decide)).2.1 ?_
    refine XS.aload X18.here hx rfl (hb hby d8_52) rfl rfl ?_
    refine XS.aloadN X18.here hx rfl (hb hby d8_54) rfl rfl ?_
    refine XS.iload X18.here hx rfl (hb hby d8_55) rfl ?_
    exact kt
  obtain ⟨cq21, kq21, q21a, q21b, q21c⟩ := isOf hZ e18 E_o1
  obtain ⟨_, _, ⟨T21, L21, k21, n21⟩, -, X21, ⟨Lc21, hQ21, l21, y21, z21⟩, st21⟩ := X18.virtualBack hx (y := (⟨"java/lang/String", "charAt", "(I)C"⟩ : MethodName)) (z := (⟨"java/lang/String", "charAt", "(I)C"⟩ : MethodName)) hown (mvT hZ (hw _ (List.mem_of_getElem? (i := 64) rfl))) (mvT hZ (hw _ (List.mem_of_getElem? (i := 65) rfl))) (notFace_of_selects (args := #[]) (mvT hZ (hw _ (List.mem_of_getElem? (i := 67) rfl)))) (mvT hZ (hw _ (List.mem_of_getElem? (i := 67) rfl))) (mvT hZ (hw _ (List.mem_of_getElem? (i := 66) rfl))) (by decide) (backOf (W := 1) (rmCA32 l Z a0 hw [] o1 sv ks w0 w1 w2 cs fm h0 n0 Z0 E_o1 F_value_o1 F_coder_o1 V_sv S19 S20 hcs hfm) hZ (hw _ (List.mem_of_getElem? (i := 68) rfl)) (hw _ (List.mem_of_getElem? (i := 7) rfl)) (by decide) (by decide)) q21a q21c (g := (mkF m 57 #[.val (.ref o0), .val (.ref o1), .val (.int (200 : Int32)), .val (.ref o3), .val (.ref fa), .val (.int (2 : Int32))] [(.int (2 : Int32)), (.ref o1), (.ref fa)])) rfl (by rw [hml]; rfl) (Steps.refl _) (argsL := [(.int (2 : Int32))]) (rest := [(.ref fa)]) (lenOf pd__28I_29C rfl) rfl (by show 2 * 0 + _ ≤ _; exact Nat.le_of_eq rfl) (hb hby d8_57) (fun _ _ => ⟨rfl, e18, (by decide : 0 + 0 ≤ _), (by decide : 0 + 0 ≤ _)⟩)
  dsimp only [Pt.U, Pt.locs, Pt.cells, Pt.slots] at X21 l21 y21 z21 st21 hQ21
  obtain ⟨rfl, N21q, e21⟩ := hQ21
  obtain ⟨lc21, X21, N21⟩ := own_pack X21 l21 y21 z21 N18 N21q (C := 0) (S' := 0) rfl rfl
  refine own_thr (a := T21.setTop (mkF m 60 #[.val (.ref o0), .val (.ref o1), .val (.int (200 : Int32)), .val (.ref o3), .val (.ref fa), .val (.int (2 : Int32))] [(.int (nar .char (nar .char ((w2 &&& (255 : Int32)).toUInt32.toUInt16.toUInt32.toInt32)))), (.ref fa)])) (fun t kt => st21.trans kt) ?_
  rw [show (nar .char (nar .char ((w2 &&& (255 : Int32)).toUInt32.toUInt16.toUInt32.toInt32))) = w2 from own_ch Hw2]
  obtain ⟨T22, L22, X22, N22q, e22, st22⟩ := Jvm.LamKit.own_lam X21 hx hZ (own := "com/example/chronoshard/chronoshard/model/Limits") (host := "com/example/chronoshard/chronoshard/model/Limits") (index := 68) (count := 2) (xi := (⟨"java/util/function/IntPredicate", "test", "(I)Z"⟩ : MethodName)) (y := (⟨"com/example/chronoshard/chronoshard/model/Limits", "lambda$checkInstanceId$1", "(I)Z"⟩ : MethodName)) (σ := own_sig) (argsL := [.int w2]) (argsT := [.int w2]) (rest := []) (val := (.int (1 : Int32))) (n0 := n0) (rmLam l Z a0 hw [] w2 h0 n0 Z0) (fun v h' L q => ⟨by rw [q.1, own_l1 Hw2], q.2⟩) hown (mvT hZ (hw _ (List.mem_of_getElem? (i := 85) rfl))) (mvT hZ (hw _ (List.mem_of_getElem? (i := 86) rfl))) (mvT hZ (hw _ (List.mem_of_getElem? (i := 87) rfl))) (mvT hZ (hw _ (List.mem_of_getElem? (i := 89) rfl))) (mvT hZ (hw _ (List.mem_of_getElem? (i := 88) rfl))) (mvT hZ (hw _ (List.mem_of_getElem? (i := 33) rfl))) (by decide +kernel) (by decide +kernel) (by decide) hfn hO e21 own_fwd own_g1 own_g4 (g := (mkF m 60 #[.val (.ref o0), .val (.ref o1), .val (.int (200 : Int32)), .val (.ref o3), .val (.ref fa), .val (.int (2 : Int32))] [(.int w2), (.ref fa)])) rfl (by rw [hml]; rfl) (L0 := #[.val (.ref fa), .val (.int w2)]) (lenOf pd__28I_29Z rfl) (lenOf pd__28I_29Z rfl) rfl (hb hby d8_60) (fun _ => rfl) rfl (fun U ck bl target hU hck _ _ k => XS.iloadN hU hx rfl (hb hck own_g0) rfl k) (Or.inl ⟨.boolean, _, rfl, Or.inr (Or.inl rfl), rfl, rfl, rfl⟩) (by decide) (by show 2 * 0 + 0 + (2 + 11) + ((1 + 11) + 0) ≤ _; decide) (Nat.zero_le _) (Nat.zero_le _)
  obtain ⟨lc22, X22, N22⟩ := own_pack X22 rfl rfl rfl N21 N22q (C := 0) (S' := 0) rfl rfl
  refine own_thr (a := T22.setTop (mkF m 65 #[.val (.ref o0), .val (.ref o1), .val (.int (200 : Int32)), .val (.ref o3), .val (.ref fa), .val (.int (2 : Int32))] [(.int (1 : Int32))])) (fun t kt => st22 t kt) ?_
  have S23 := S_cs.ext hO.2
  refine own_thr (a := T22.setTop (mkF m 46 #[.val (.ref o0), .val (.ref o1), .val (.int (200 : Int32)), .val (.ref o3), .val (.ref fa), .val (.int (3 : Int32))] [(.ref o1), (.int (3 : Int32))])) (fun t kt => ?_) ?_
  · show Steps p.tables e below (T22.setTop (mkF m 65 #[.val (.ref o0), .val (.ref o1), .val (.int (200 : Int32)), .val (.ref o3), .val (.ref fa), .val (.int (2 : Int32))] [(.int (1 : Int32))])) _
    refine XS.ifYes X22.here hx rfl (pc0 := 65) (pc' := 77) rfl (hb hby d8_65) rfl ((if0 _ _).trans (feq (by decide)).2) (by decide) (by decide) ?_
    refine XS.iinc X22.here hx rfl (hb hby d8_77) rfl (l' := #[.val (.ref o0), .val (.ref o1), .val (.int (200 : Int32)), .val (.ref o3), .val (.ref fa), .val (.int (3 : Int32))]) rfl ?_
    refine XS.goto X22.here hx rfl (pc0 := 80) (pc' := 43) rfl (hb hby d8_80) (by decide) (by decide) ?_
    refine XS.iload X22.here hx rfl (hb hby d8_43) rfl ?_
    refine XS.aloadN X22.here hx rfl (hb hby d8_45) rfl rfl ?_
    exact kt
  obtain ⟨cq24, kq24, q24a, q24b, q24c⟩ := isOf hZ e22 E_o1
  obtain ⟨_, _, ⟨T24, L24, k24, n24⟩, -, X24, ⟨Lc24, hQ24, l24, y24, z24⟩, st24⟩ := X22.virtualBack hx (y := (⟨"java/lang/String", "length", "()I"⟩ : MethodName)) (z := (⟨"java/lang/String", "length", "()I"⟩ : MethodName)) hown (mvT hZ (hw _ (List.mem_of_getElem? (i := 54) rfl))) (mvT hZ (hw _ (List.mem_of_getElem? (i := 55) rfl))) (notFace_of_selects (args := #[]) (mvT hZ (hw _ (List.mem_of_getElem? (i := 57) rfl)))) (mvT hZ (hw _ (List.mem_of_getElem? (i := 57) rfl))) (mvT hZ (hw _ (List.mem_of_getElem? (i := 56) rfl))) (by decide) (backOf (W := 1) (rmLN3 l Z a0 hw [] o1 sv ks [(.int w0), (.int w1), (.int w2)] cs h0 n0 Z0 E_o1 F_value_o1 F_coder_o1 V_sv S23 hcs) hZ (hw _ (List.mem_of_getElem? (i := 58) rfl)) (hw _ (List.mem_of_getElem? (i := 7) rfl)) (by decide) (by decide)) q24a q24c (g := (mkF m 46 #[.val (.ref o0), .val (.ref o1), .val (.int (200 : Int32)), .val (.ref o3), .val (.ref fa), .val (.int (3 : Int32))] [(.ref o1), (.int (3 : Int32))])) rfl (by rw [hml]; rfl) (Steps.refl _) (argsL := []) (rest := [(.int (3 : Int32))]) (lenOf pd__28_29I rfl) rfl (by show 2 * 0 + _ ≤ _; exact Nat.le_of_eq rfl) (hb hby d8_46) (fun _ _ => ⟨rfl, e22, (by decide : 0 + 0 ≤ _), (by decide : 0 + 0 ≤ _)⟩)
  dsimp only [Pt.U, Pt.locs, Pt.cells, Pt.slots] at X24 l24 y24 z24 st24 hQ24
  obtain ⟨rfl, N24q, e24⟩ := hQ24
  obtain ⟨lc24, X24, N24⟩ := own_pack X24 l24 y24 z24 N22 N24q (C := 0) (S' := 0) rfl rfl
  refine own_thr (a := T24.setTop (mkF m 49 #[.val (.ref o0), .val (.ref o1), .val (.int (200 : Int32)), .val (.ref o3), .val (.ref fa), .val (.int (3 : Int32))] [(.int (3 : Int32)), (.int (3 : Int32))])) (fun t kt => st24.trans kt) ?_
  refine own_thr (a := T24.setTop (mkF m 84 #[.val (.ref o0), .val (.ref o1), .val (.int (200 : Int32)), .val (.ref o3), .val (.ref fa), .val (.int (3 : Int32))] [(.ref o1)])) (fun t kt => ?_) ?_
  · show Steps p.tables e below (T24.setTop (mkF m 49 #[.val (.ref o0), .val (.ref o1), .val (.int (200 : Int32)), .val (.ref o3), .val (.ref fa), .val (.int (3 : Int32))] [(.int (3 : Int32)), (.int (3 : Int32))])) _
    refine XS.icmpYes X24.here hx rfl (pc0 := 49) (pc' := 83) rfl (hb hby d8_49) rfl (flt (by decide)).2.1 (by decide) (by decide) ?_
    refine XS.aloadN X24.here hx rfl (hb hby d8_83) rfl rfl ?_
    exact kt
  exact own_end X24 hlk (v := some (.ref o1)) (fun h => by rw [Bd.returns] at h; cases h) (fun fs hr => retA X24 hx Bd.returns rfl rfl (hb hby d8_84) hr) (by rw [e24]; exact ⟨rfl, N24, rfl⟩) (by decide : 0 ≤ _) (by decide : 0 ≤ _)
theorem ef_rmC3 (m : MethodId) (o0 : Addr)  : entryFrame m #[(.ref o0)] 1 = mkF m 0 #[.val (.ref o0)] [] := by first |  (simp [entryFrame, mkF, argsToLocals, Value.category]; done) | rfl
def Q_rmC3 (Z : State) (o0 : Addr) (sv : Addr) (ks : ClassId) (w0 : Int32) (w1 : Int32) (w2 : Int32) (cs : Int32) (fm : Value) (h0 : Heap) (n0 : Nat) (v : Option Value) (h : Heap) (L : List Loc) : Prop := v = some (.ref o0) ∧ Fr n0 L ∧ Keep h0 h []
set_option maxRecDepth 65536 in
set_option maxHeartbeats 40000000 in
theorem rmC3 (l : Launch) (Z : State) (a0 : Array Value) (hw : ∀ d ∈ tables_1, d.before a0 Z = true) (ws : List Jvm.Cond) (o0 : Addr) (sv : Addr) (ks : ClassId) (w0 : Int32) (w1 : Int32) (w2 : Int32) (cs : Int32) (fm : Value) (h0 : Heap) (n0 : Nat) (Z0 : n0 ≤ h0.size) (E_o0 : Exa Z h0 o0 "java/lang/String") (F_v : Fld Z h0 o0 "java/lang/String" "value" "[B" (.ref sv)) (F_c : Fld Z h0 o0 "java/lang/String" "coder" "B" (.int (0 : Int32))) (V_sv : Arv Z h0 sv ks .byte (3 : Int32) [(.int w0), (.int w1), (.int w2)] (.int (0 : Int32))) (S_cs : Sta Z Z.heap "java/lang/String" "COMPACT_STRINGS" "Z" (.int cs)) (hcs : ¬ cs = (0 : Int32)) (S_fm : Sta Z Z.heap "jdk/internal/util/Preconditions" "SIOOBE_FORMATTER" "Ljava/util/function/BiFunction;" fm) (hfm : fm.isRef = true) (hO : Old Z n0 h0) (Hw0 : 32 ≤ w0.toInt ∧ w0.toInt ≤ 126) (Hw1 : 32 ≤ w1.toInt ∧ w1.toInt ≤ 126) (Hw2 : 32 ≤ w2.toInt ∧ w2.toInt ≤ 126) :
    MetFree l (⟨"com/example/chronoshard/chronoshard/model/Limits", "checkInstanceId", "(Ljava/lang/String;)Ljava/lang/String;"⟩ : MethodName) (head1 (Jvm.Cond.code (⟨"com/example/chronoshard/chronoshard/model/Limits", "checkInstanceId", "(Ljava/lang/String;)Ljava/lang/String;"⟩ : MethodName) prog_8_method_5_code 1 (some (.object "java/lang/String")) :: ws) ({ frames := 5, cells := 4, slots := 168, locals := 3076 } : Room)) (fun a U => a = #[(.ref o0)] ∧ Z.Warmed39 U.vm ∧ U.heap = h0) (fun _ _ _ _ _ => True) (fun _ U o U' => ∃ v L, o = .returned v ∧ Q_rmC3 Z o0 sv ks w0 w1 w2 cs fm h0 n0 v U'.heap L ∧ ReturnedEndW U o U' L ({ frames := 5, cells := 4, slots := 168, locals := 3076 } : Room).cells ({ frames := 5, cells := 4, slots := 168, locals := 3076 } : Room).slots) := by
  refine MetFree.of_bodySF (plainFor_of_name pn_com_example_chronoshard_chronoshard_model_Limits) hisR ?_
  intro p e s m args below meth c s₁ Bd hml0 hP hK
  obtain ⟨rfl, hZ, hh⟩ := hP
  have hx := Bd.exec
  have hby := Bd.bytes
  have hml : c.maxLocals = 1 := hml0
  have hown : s.vm.findClass "com/example/chronoshard/chronoshard/model/Limits" = some m.cls := findClass_of_methodNamed Bd.named
  have hnm := (name_of_methodNamed Bd.named Bd.method).1
  have hlk := Bd.notSynchronized
  have X0 : Stand p l e ({ frames := 5, cells := 4, slots := 168, locals := 3076 } : Room) (s.setVm s.vm) m #[(.ref o0)] below meth c s₁ [] 0 0 := Stand.of_body Bd
  have e0 : s₁.heap = h0 := by rw [← hh, Bd.state]; rfl
  have N0 := Fr.nil n0
  show own_GW p.tables e below s (Q_rmC3 Z o0 sv ks w0 w1 w2 cs fm h0 n0) ({ frames := 5, cells := 4, slots := 168, locals := 3076 } : Room).cells ({ frames := 5, cells := 4, slots := 168, locals := 3076 } : Room).slots _
  have hS0 : s.Since s.vm 0 := (State.WarmedH.refl s).since 0
  refine own_thrW (a := s₁.setTop (mkF m 0 #[.val (.ref o0)] [])) (fun t kt => castTop (ef_rmC3 m o0) kt) ?_
  obtain ⟨b1, T1, h1, kk1, X1, e1, E1, hS1, hk1, hZ1, hown1, st1⟩ := ldcS X0 hx hZ hown (hw _ (List.mem_of_getElem? (i := 35) rfl)) (fun a ha => hw a (own_sa a ha)) e0 hS0 (Nat.zero_le _) (g := (mkF m 0 #[.val (.ref o0)] [])) rfl (hb hby d7_0) (n := 44) (by decide) (by decide) (by decide : 0 + 2 ≤ _) (by decide : 0 + 48 ≤ _)
  have Z2 : n0 ≤ h1.size := Nat.le_trans Z0 E1.1
  have Z2h : h0.size ≤ h1.size := Nat.le_trans (Nat.le_refl h0.size) E1.1
  refine own_thrW (a := T1.setTop (mkF m 2 #[.val (.ref o0)] [(.ref b1)])) (fun t kt => st1 t kt) ?_
  refine own_thrW (a := T1.setTop (mkF m 6 #[.val (.ref o0)] [(.int (200 : Int32)), (.ref o0), (.ref b1)])) (fun t kt => ?_) ?_
  · show Steps p.tables e below (T1.setTop (mkF m 2 #[.val (.ref o0)] [(.ref b1)])) _
    refine XS.aloadN X1.here hx rfl (hb hby d7_2) rfl rfl ?_
    refine XS.sipush X1.here hx rfl (hb hby d7_3) ?_
    exact kt
  obtain ⟨b3, T3, h3, kk3, X3, e3, E3, hS3, hk3, hZ3, hown3, st3⟩ := ldcS X1 hx hZ1 hown1 (hw _ (List.mem_of_getElem? (i := 38) rfl)) (fun a ha => hw a (own_sa a ha)) e1 hS1 hk1 (g := (mkF m 6 #[.val (.ref o0)] [(.int (200 : Int32)), (.ref o0), (.ref b1)])) rfl (hb hby d7_6) (n := 116) (by decide) (by decide) (by decide : 2 + 2 ≤ _) (by decide : 48 + 120 ≤ _)
  have Z4 : n0 ≤ h3.size := Nat.le_trans Z2 E3.1
  have Z4h : h0.size ≤ h3.size := Nat.le_trans Z2h E3.1
  refine own_thrW (a := T3.setTop (mkF m 8 #[.val (.ref o0)] [(.ref b3), (.int (200 : Int32)), (.ref o0), (.ref b1)])) (fun t kt => st3 t kt) ?_
  obtain ⟨fa, cK, hfn, st5⟩ := Jvm.LamKit.own_site X3 hx hZ3 (x := (⟨"com/example/chronoshard/chronoshard/model/Limits", "checkInstanceId", "(Ljava/lang/String;)Ljava/lang/String;"⟩ : MethodName)) (σ := own_sig) (by rw [State.methodNamed?_setVm hS3.1.alike]; exact Bd.named) (hw _ (List.mem_of_getElem? (i := 39) rfl)) rfl (g := (mkF m 8 #[.val (.ref o0)] [(.ref b3), (.int (200 : Int32)), (.ref o0), (.ref b1)])) rfl rfl (by rw [hml]; rfl) (hb hby d7_8) (by show 2 * 0 + 4 + 3072 ≤ _; decide)
  refine own_thrW (a := T3.setTop (mkF m 13 #[.val (.ref o0)] [(.ref fa), (.ref b3), (.int (200 : Int32)), (.ref o0), (.ref b1)])) (fun t kt => st5 t kt) ?_
  obtain ⟨_, _, ⟨T6, L6, k6, n6⟩, -, X6, ⟨Lc6, hQ6, l6, y6, z6⟩, st6⟩ := Jvm.LawKit.callS X3 hx (y := (⟨"com/example/chronoshard/chronoshard/model/Limits", "checkText", "(Ljava/lang/String;Ljava/lang/String;ILjava/lang/String;Ljava/util/function/IntPredicate;)Ljava/lang/String;"⟩ : MethodName)) hown3 (mvT hZ3 (hw _ (List.mem_of_getElem? (i := 42) rfl))) (mvT hZ3 (hw _ (List.mem_of_getElem? (i := 43) rfl))) (mvT hZ3 (hw _ (List.mem_of_getElem? (i := 33) rfl))) (mvT hZ3 (hw _ (List.mem_of_getElem? (i := 44) rfl))) (by decide) (backOf (W := 0) (rmT3 l Z a0 hw [] b1 o0 b3 fa sv ks w0 w1 w2 cs fm cK h3 n0 Z4 ((E_o0.ext E1).ext E3) ((F_v.ext E1).ext E3) ((F_c.ext E1).ext E3) ((V_sv.ext E1).ext E3) S_cs hcs S_fm hfm ((hO.ext E1).ext E3) hfn Hw0 Hw1 Hw2) hZ3 (hw _ (List.mem_of_getElem? (i := 44) rfl)) (hw _ (List.mem_of_getElem? (i := 33) rfl)) (by decide) (by decide)) (g := (mkF m 13 #[.val (.ref o0)] [(.ref fa), (.ref b3), (.int (200 : Int32)), (.ref o0), (.ref b1)])) rfl (by rw [hml]; rfl) (argsL := [(.ref b1), (.ref o0), (.int (200 : Int32)), (.ref b3), (.ref fa)]) (rest := []) (lenOf pd__28Ljava_2flang_2fString_3bLjava_2flang_2fString_3bILjava_2flang_2fString_3bLjava_2futil_2ffunction_2fIntPredicate_3b_29Ljava_2flang_2fString_3b rfl) rfl (by show 2 * 0 + _ ≤ _; exact Nat.le_of_eq rfl) (hb hby d7_13) (fun _ _ => ⟨rfl, e3, (by decide : 4 + 0 ≤ _), (by decide : 168 + 0 ≤ _)⟩)
  dsimp only [Pt.U, Pt.locs, Pt.cells, Pt.slots] at X6 l6 y6 z6 st6 hQ6
  obtain ⟨rfl, N6q, e6⟩ := hQ6
  obtain ⟨lc6, X6, N6⟩ := own_pack X6 l6 y6 z6 N0 N6q (C := 4) (S' := 168) rfl rfl
  refine own_thrW (a := T6.setTop (mkF m 16 #[.val (.ref o0)] [(.ref o0)])) (fun t kt => st6 t kt) ?_
  exact own_endW X6 hS3 (by rw [e6]; exact hk3) hlk (v := some (.ref o0)) (fun h => by rw [Bd.returns] at h; cases h) (fun fs hr => retA X6 hx Bd.returns rfl rfl (hb hby d7_16) hr) (by rw [e6]; exact ⟨rfl, N6, (((Keep.refl h0 []).ext E1).ext E3)⟩) (by decide : 4 ≤ _) (by decide : 168 ≤ _)
theorem ef_rmT4 (m : MethodId) (o0 : Addr) (o1 : Addr) (o3 : Addr) (fa : Addr)  : entryFrame m #[(.ref o0), (.ref o1), (.int (200 : Int32)), (.ref o3), (.ref fa)] 6 = mkF m 0 #[.val (.ref o0), .val (.ref o1), .val (.int (200 : Int32)), .val (.ref o3), .val (.ref fa), .unset] [] := by first |  (simp [entryFrame, mkF, argsToLocals, Value.category]; done) | rfl
def Q_rmT4 (Z : State) (o0 : Addr) (o1 : Addr) (o3 : Addr) (fa : Addr) (sv : Addr) (ks : ClassId) (w0 : Int32) (w1 : Int32) (w2 : Int32) (w3 : Int32) (cs : Int32) (fm : Value) (cK : ClassId) (h0 : Heap) (n0 : Nat) (v : Option Value) (h : Heap) (L : List Loc) : Prop := v = some (.ref o1) ∧ Fr n0 L ∧ h = h0
set_option maxRecDepth 65536 in
set_option maxHeartbeats 40000000 in
theorem rmT4 (l : Launch) (Z : State) (a0 : Array Value) (hw : ∀ d ∈ tables_1, d.before a0 Z = true) (ws : List Jvm.Cond) (o0 : Addr) (o1 : Addr) (o3 : Addr) (fa : Addr) (sv : Addr) (ks : ClassId) (w0 : Int32) (w1 : Int32) (w2 : Int32) (w3 : Int32) (cs : Int32) (fm : Value) (cK : ClassId) (h0 : Heap) (n0 : Nat) (Z0 : n0 ≤ h0.size) (E_o1 : Exa Z h0 o1 "java/lang/String") (F_value_o1 : Fld Z h0 o1 "java/lang/String" "value" "[B" (.ref sv)) (F_coder_o1 : Fld Z h0 o1 "java/lang/String" "coder" "B" (.int (0 : Int32))) (V_sv : Arv Z h0 sv ks .byte (4 : Int32) [(.int w0), (.int w1), (.int w2), (.int w3)] (.int (0 : Int32))) (S_cs : Sta Z Z.heap "java/lang/String" "COMPACT_STRINGS" "Z" (.int cs)) (hcs : ¬ cs = (0 : Int32)) (S_fm : Sta Z Z.heap "jdk/internal/util/Preconditions" "SIOOBE_FORMATTER" "Ljava/util/function/BiFunction;" fm) (hfm : fm.isRef = true) (hO : Old Z n0 h0) (hfn : Jvm.LamKit.own_Fn Z "com/example/chronoshard/chronoshard/model/Limits" own_sig fa cK) (Hw0 : 32 ≤ w0.toInt ∧ w0.toInt ≤ 126) (Hw1 : 32 ≤ w1.toInt ∧ w1.toInt ≤ 126) (Hw2 : 32 ≤ w2.toInt ∧ w2.toInt ≤ 126) (Hw3 : 32 ≤ w3.toInt ∧ w3.toInt ≤ 126) :
    MetFree l (⟨"com/example/chronoshard/chronoshard/model/Limits", "checkText", "(Ljava/lang/String;Ljava/lang/String;ILjava/lang/String;Ljava/util/function/IntPredicate;)Ljava/lang/String;"⟩ : MethodName) (head1 (Jvm.Cond.code (⟨"com/example/chronoshard/chronoshard/model/Limits", "checkText", "(Ljava/lang/String;Ljava/lang/String;ILjava/lang/String;Ljava/util/function/IntPredicate;)Ljava/lang/String;"⟩ : MethodName) prog_8_method_7_code 6 (some (.object "java/lang/String")) :: ws) ({ frames := 4, cells := 0, slots := 0, locals := 54 } : Room)) (fun a U => a = #[(.ref o0), (.ref o1), (.int (200 : Int32)), (.ref o3), (.ref fa)] ∧ Z.Warmed39 U.vm ∧ U.heap = h0) (fun _ _ _ _ _ => True) (fun _ U o U' => ∃ v L, o = .returned v ∧ Q_rmT4 Z o0 o1 o3 fa sv ks w0 w1 w2 w3 cs fm cK h0 n0 v U'.heap L ∧ FrameEnd U o U' L ({ frames := 4, cells := 0, slots := 0, locals := 54 } : Room).cells ({ frames := 4, cells := 0, slots := 0, locals := 54 } : Room).slots) := by
  refine MetFree.of_bodySF (plainFor_of_name pn_com_example_chronoshard_chronoshard_model_Limits) hisR ?_
  intro p e s m args below meth c s₁ Bd hml0 hP hK
  obtain ⟨rfl, hZ, hh⟩ := hP
  have hx := Bd.exec
  have hby := Bd.bytes
  have hml : c.maxLocals = 6 := hml0
  have hown : s.vm.findClass "com/example/chronoshard/chronoshard/model/Limits" = some m.cls := findClass_of_methodNamed Bd.named
  have hnm := (name_of_methodNamed Bd.named Bd.method).1
  have hlk := Bd.notSynchronized
  have X0 : Stand p l e ({ frames := 4, cells := 0, slots := 0, locals := 54 } : Room) s m #[(.ref o0), (.ref o1), (.int (200 : Int32)), (.ref o3), (.ref fa)] below meth c s₁ [] 0 0 := Stand.of_body Bd
  have e0 : s₁.heap = h0 := by rw [← hh, Bd.state]; rfl
  have N0 := Fr.nil n0
  show own_G p.tables e below s (Q_rmT4 Z o0 o1 o3 fa sv ks w0 w1 w2 w3 cs fm cK h0 n0) ({ frames := 4, cells := 0, slots := 0, locals := 54 } : Room).cells ({ frames := 4, cells := 0, slots := 0, locals := 54 } : Room).slots _
  refine own_thr (a := s₁.setTop (mkF m 0 #[.val (.ref o0), .val (.ref o1), .val (.int (200 : Int32)), .val (.ref o3), .val (.ref fa), .unset] [])) (fun t kt => castTop (ef_rmT4 m o0 o1 o3 fa) kt) ?_
  refine own_thr (a := s₁.setTop (mkF m 2 #[.val (.ref o0), .val (.ref o1), .val (.int (200 : Int32)), .val (.ref o3), .val (.ref fa), .unset] [(.ref o0), (.ref o1)])) (fun t kt => ?_) ?_
  · show Steps p.tables e below (s₁.setTop (mkF m 0 #[.val (.ref o0), .val (.ref o1), .val (.int (200 : Int32)), .val (.ref o3), .val (.ref fa), .unset] [])) _
    refine XS.aloadN X0.here hx rfl (hb hby d8_0) rfl rfl ?_
    refine XS.aloadN X0.here hx rfl (hb hby d8_1) rfl rfl ?_
    exact kt
  obtain ⟨_, _, ⟨T1, L1, k1, n1⟩, -, X1, ⟨Lc1, hQ1, l1, y1, z1⟩, st1⟩ := Jvm.LawKit.callS X0 hx (y := (⟨"java/util/Objects", "requireNonNull", "(Ljava/lang/Object;Ljava/lang/String;)Ljava/lang/Object;"⟩ : MethodName)) hown (mvT hZ (hw _ (List.mem_of_getElem? (i := 45) rfl))) (mvT hZ (hw _ (List.mem_of_getElem? (i := 46) rfl))) (mvT hZ (hw _ (List.mem_of_getElem? (i := 47) rfl))) (mvT hZ (hw _ (List.mem_of_getElem? (i := 48) rfl))) (by decide) (backOf (W := 0) (rmO l Z a0 hw [] o1 o0 h0 n0 Z0) hZ (hw _ (List.mem_of_getElem? (i := 48) rfl)) (hw _ (List.mem_of_getElem? (i := 47) rfl)) (by decide) (by decide)) (g := (mkF m 2 #[.val (.ref o0), .val (.ref o1), .val (.int (200 : Int32)), .val (.ref o3), .val (.ref fa), .unset] [(.ref o0), (.ref o1)])) rfl (by rw [hml]; rfl) (argsL := [(.ref o1), (.ref o0)]) (rest := []) (lenOf pd__28Ljava_2flang_2fObject_3bLjava_2flang_2fString_3b_29Ljava_2flang_2fObject_3b rfl) rfl (by show 2 * 0 + _ ≤ _; exact Nat.le_of_eq rfl) (hb hby d8_2) (fun _ _ => ⟨rfl, e0, (by decide : 0 + 0 ≤ _), (by decide : 0 + 0 ≤ _)⟩)
  dsimp only [Pt.U, Pt.locs, Pt.cells, Pt.slots] at X1 l1 y1 z1 st1 hQ1
  obtain ⟨rfl, N1q, e1⟩ := hQ1
  obtain ⟨lc1, X1, N1⟩ := own_pack X1 l1 y1 z1 N0 N1q (C := 0) (S' := 0) rfl rfl
  refine own_thr (a := T1.setTop (mkF m 5 #[.val (.ref o0), .val (.ref o1), .val (.int (200 : Int32)), .val (.ref o3), .val (.ref fa), .unset] [(.ref o1)])) (fun t kt => st1 t kt) ?_
  refine own_thr (a := T1.setTop (mkF m 7 #[.val (.ref o0), .val (.ref o1), .val (.int (200 : Int32)), .val (.ref o3), .val (.ref fa), .unset] [(.ref o1)])) (fun t kt => ?_) ?_
  · show Steps p.tables e below (T1.setTop (mkF m 5 #[.val (.ref o0), .val (.ref o1), .val (.int (200 : Int32)), .val (.ref o3), .val (.ref fa), .unset] [(.ref o1)])) _
    refine XS.pop X1.here hx rfl (hb hby d8_5) rfl rfl ?_
    refine XS.aloadN X1.here hx rfl (hb hby d8_6) rfl rfl ?_
    exact kt
  obtain ⟨cq2, kq2, q2a, q2b, q2c⟩ := isOf hZ e1 E_o1
  obtain ⟨_, _, ⟨T2, L2, k2, n2⟩, -, X2, ⟨Lc2, hQ2, l2, y2, z2⟩, st2⟩ := X1.virtualBack hx (y := (⟨"java/lang/String", "isEmpty", "()Z"⟩ : MethodName)) (z := (⟨"java/lang/String", "isEmpty", "()Z"⟩ : MethodName)) hown (mvT hZ (hw _ (List.mem_of_getElem? (i := 49) rfl))) (mvT hZ (hw _ (List.mem_of_getElem? (i := 50) rfl))) (notFace_of_selects (args := #[]) (mvT hZ (hw _ (List.mem_of_getElem? (i := 52) rfl)))) (mvT hZ (hw _ (List.mem_of_getElem? (i := 52) rfl))) (mvT hZ (hw _ (List.mem_of_getElem? (i := 51) rfl))) (by decide) (backOf (W := 0) (rmEM4 l Z a0 hw [] o1 sv ks [(.int w0), (.int w1), (.int w2), (.int w3)] h0 n0 Z0 E_o1 F_value_o1 F_coder_o1 V_sv) hZ (hw _ (List.mem_of_getElem? (i := 53) rfl)) (hw _ (List.mem_of_getElem? (i := 7) rfl)) (by decide) (by decide)) q2a q2c (g := (mkF m 7 #[.val (.ref o0), .val (.ref o1), .val (.int (200 : Int32)), .val (.ref o3), .val (.ref fa), .unset] [(.ref o1)])) rfl (by rw [hml]; rfl) (Steps.refl _) (argsL := []) (rest := []) (lenOf pd__28_29Z rfl) rfl (by show 2 * 0 + _ ≤ _; exact Nat.le_of_eq rfl) (hb hby d8_7) (fun _ _ => ⟨rfl, e1, (by decide : 0 + 0 ≤ _), (by decide : 0 + 0 ≤ _)⟩)
  dsimp only [Pt.U, Pt.locs, Pt.cells, Pt.slots] at X2 l2 y2 z2 st2 hQ2
  obtain ⟨rfl, N2q, e2⟩ := hQ2
  obtain ⟨lc2, X2, N2⟩ := own_pack X2 l2 y2 z2 N1 N2q (C := 0) (S' := 0) rfl rfl
  refine own_thr (a := T2.setTop (mkF m 10 #[.val (.ref o0), .val (.ref o1), .val (.int (200 : Int32)), .val (.ref o3), .val (.ref fa), .unset] [(.int (0 : Int32))])) (fun t kt => st2.trans kt) ?_
  have S3 := S_cs.ext hO.2
  refine own_thr (a := T2.setTop (mkF m 14 #[.val (.ref o0), .val (.ref o1), .val (.int (200 : Int32)), .val (.ref o3), .val (.ref fa), .unset] [(.ref o1)])) (fun t kt => ?_) ?_
  · show Steps p.tables e below (T2.setTop (mkF m 10 #[.val (.ref o0), .val (.ref o1), .val (.int (200 : Int32)), .val (.ref o3), .val (.ref fa), .unset] [(.int (0 : Int32))])) _
    refine XS.ifNo X2.here hx rfl (hb hby d8_10) rfl ((if0 _ _).trans (teq rfl).2) ?_
    refine XS.aloadN X2.here hx rfl (hb hby d8_13) rfl rfl ?_
    exact kt
  obtain ⟨cq4, kq4, q4a, q4b, q4c⟩ := isOf hZ e2 E_o1
  obtain ⟨_, _, ⟨T4, L4, k4, n4⟩, -, X4, ⟨Lc4, hQ4, l4, y4, z4⟩, st4⟩ := X2.virtualBack hx (y := (⟨"java/lang/String", "length", "()I"⟩ : MethodName)) (z := (⟨"java/lang/String", "length", "()I"⟩ : MethodName)) hown (mvT hZ (hw _ (List.mem_of_getElem? (i := 54) rfl))) (mvT hZ (hw _ (List.mem_of_getElem? (i := 55) rfl))) (notFace_of_selects (args := #[]) (mvT hZ (hw _ (List.mem_of_getElem? (i := 57) rfl)))) (mvT hZ (hw _ (List.mem_of_getElem? (i := 57) rfl))) (mvT hZ (hw _ (List.mem_of_getElem? (i := 56) rfl))) (by decide) (backOf (W := 0) (rmLN4 l Z a0 hw [] o1 sv ks [(.int w0), (.int w1), (.int w2), (.int w3)] cs h0 n0 Z0 E_o1 F_value_o1 F_coder_o1 V_sv S3 hcs) hZ (hw _ (List.mem_of_getElem? (i := 58) rfl)) (hw _ (List.mem_of_getElem? (i := 7) rfl)) (by decide) (by decide)) q4a q4c (g := (mkF m 14 #[.val (.ref o0), .val (.ref o1), .val (.int (200 : Int32)), .val (.ref o3), .val (.ref fa), .unset] [(.ref o1)])) rfl (by rw [hml]; rfl) (Steps.refl _) (argsL := []) (rest := []) (lenOf pd__28_29I rfl) rfl (by show 2 * 0 + _ ≤ _; exact Nat.le_of_eq rfl) (hb hby d8_14) (fun _ _ => ⟨rfl, e2, (by decide : 0 + 0 ≤ _), (by decide : 0 + 0 ≤ _)⟩)
  dsimp only [Pt.U, Pt.locs, Pt.cells, Pt.slots] at X4 l4 y4 z4 st4 hQ4
  obtain ⟨rfl, N4q, e4⟩ := hQ4
  obtain ⟨lc4, X4, N4⟩ := own_pack X4 l4 y4 z4 N2 N4q (C := 0) (S' := 0) rfl rfl
  refine own_thr (a := T4.setTop (mkF m 17 #[.val (.ref o0), .val (.ref o1), .val (.int (200 : Int32)), .val (.ref o3), .val (.ref fa), .unset] [(.int (4 : Int32))])) (fun t kt => st4.trans kt) ?_
  have S5 := S_cs.ext hO.2
  refine own_thr (a := T4.setTop (mkF m 46 #[.val (.ref o0), .val (.ref o1), .val (.int (200 : Int32)), .val (.ref o3), .val (.ref fa), .val (.int (0 : Int32))] [(.ref o1), (.int (0 : Int32))])) (fun t kt => ?_) ?_
  · show Steps p.tables e below (T4.setTop (mkF m 17 #[.val (.ref o0), .val (.ref o1), .val (.int (200 : Int32)), .val (.ref o3), .val (.ref fa), .unset] [(.int (4 : Int32))])) _
    refine XS.iloadN X4.here hx rfl (hb hby d8_17) rfl ?_
    refine XS.icmpYes X4.here hx rfl (pc0 := 18) (pc' := 40) rfl (hb hby d8_18) rfl (flt (by decide)).2.2.2 (by decide) (by decide) ?_
    refine XS.iconst X4.here hx rfl (hb hby d8_40) ?_
    refine XS.istore X4.here hx rfl (hb hby d8_41) rfl (l' := #[.val (.ref o0), .val (.ref o1), .val (.int (200 : Int32)), .val (.ref o3), .val (.ref fa), .val (.int (0 : Int32))]) rfl ?_
    refine XS.iload X4.here hx rfl (hb hby d8_43) rfl ?_
    refine XS.aloadN X4.here hx rfl (hb hby d8_45) rfl rfl ?_
    exact kt
  obtain ⟨cq6, kq6, q6a, q6b, q6c⟩ := isOf hZ e4 E_o1
  obtain ⟨_, _, ⟨T6, L6, k6, n6⟩, -, X6, ⟨Lc6, hQ6, l6, y6, z6⟩, st6⟩ := X4.virtualBack hx (y := (⟨"java/lang/String", "length", "()I"⟩ : MethodName)) (z := (⟨"java/lang/String", "length", "()I"⟩ : MethodName)) hown (mvT hZ (hw _ (List.mem_of_getElem? (i := 54) rfl))) (mvT hZ (hw _ (List.mem_of_getElem? (i := 55) rfl))) (notFace_of_selects (args := #[]) (mvT hZ (hw _ (List.mem_of_getElem? (i := 57) rfl)))) (mvT hZ (hw _ (List.mem_of_getElem? (i := 57) rfl))) (mvT hZ (hw _ (List.mem_of_getElem? (i := 56) rfl))) (by decide) (backOf (W := 1) (rmLN4 l Z a0 hw [] o1 sv ks [(.int w0), (.int w1), (.int w2), (.int w3)] cs h0 n0 Z0 E_o1 F_value_o1 F_coder_o1 V_sv S5 hcs) hZ (hw _ (List.mem_of_getElem? (i := 58) rfl)) (hw _ (List.mem_of_getElem? (i := 7) rfl)) (by decide) (by decide)) q6a q6c (g := (mkF m 46 #[.val (.ref o0), .val (.ref o1), .val (.int (200 : Int32)), .val (.ref o3), .val (.ref fa), .val (.int (0 : Int32))] [(.ref o1), (.int (0 : Int32))])) rfl (by rw [hml]; rfl) (Steps.refl _) (argsL := []) (rest := [(.int (0 : Int32))]) (lenOf pd__28_29I rfl) rfl (by show 2 * 0 + _ ≤ _; exact Nat.le_of_eq rfl) (hb hby d8_46) (fun _ _ => ⟨rfl, e4, (by decide : 0 + 0 ≤ _), (by decide : 0 + 0 ≤ _)⟩)
  dsimp only [Pt.U, Pt.locs, Pt.cells, Pt.slots] at X6 l6 y6 z6 st6 hQ6
  obtain ⟨rfl, N6q, e6⟩ := hQ6
  obtain ⟨lc6, X6, N6⟩ := own_pack X6 l6 y6 z6 N4 N6q (C := 0) (S' := 0) rfl rfl
  refine own_thr (a := T6.setTop (mkF m 49 #[.val (.ref o0), .val (.ref o1), .val (.int (200 : Int32)), .val (.ref o3), .val (.ref fa), .val (.int (0 : Int32))] [(.int (4 : Int32)), (.int (0 : Int32))])) (fun t kt => st6.trans kt) ?_
  have S7 := S_cs.ext hO.2
  have S8 := S_fm.ext hO.2
  refine own_thr (a := T6.setTop (mkF m 57 #[.val (.ref o0), .val (.ref o1), .val (.int (200 : Int32)), .val (.ref o3), .val (.ref fa), .val (.int (0 : Int32))] [(.int (0 : Int32)), (.ref o1), (.ref fa)])) (fun t kt => ?_) ?_
  · show Steps p.tables e below (T6.setTop (mkF m 49 #[.val (.ref o0), .val (.ref o1), .val (.int (200 : Int32)), .val (.ref o3), .val (.ref fa), .val (.int (0 : Int32))] [(.int (4 : Int32)), (.int (0 : Int32))])) _
    refine XS.icmpNo X6.here hx rfl (hb hby d8_49) rfl (tlt (by decide)).2.1 ?_
    refine XS.aload X6.here hx rfl (hb hby d8_52) rfl rfl ?_
    refine XS.aloadN X6.here hx rfl (hb hby d8_54) rfl rfl ?_
    refine XS.iload X6.here hx rfl (hb hby d8_55) rfl ?_
    exact kt
  obtain ⟨cq9, kq9, q9a, q9b, q9c⟩ := isOf hZ e6 E_o1
  obtain ⟨_, _, ⟨T9, L9, k9, n9⟩, -, X9, ⟨Lc9, hQ9, l9, y9, z9⟩, st9⟩ := X6.virtualBack hx (y := (⟨"java/lang/String", "charAt", "(I)C"⟩ : MethodName)) (z := (⟨"java/lang/String", "charAt", "(I)C"⟩ : MethodName)) hown (mvT hZ (hw _ (List.mem_of_getElem? (i := 64) rfl))) (mvT hZ (hw _ (List.mem_of_getElem? (i := 65) rfl))) (notFace_of_selects (args := #[]) (mvT hZ (hw _ (List.mem_of_getElem? (i := 67) rfl)))) (mvT hZ (hw _ (List.mem_of_getElem? (i := 67) rfl))) (mvT hZ (hw _ (List.mem_of_getElem? (i := 66) rfl))) (by decide) (backOf (W := 1) (rmCA40 l Z a0 hw [] o1 sv ks w0 w1 w2 w3 cs fm h0 n0 Z0 E_o1 F_value_o1 F_coder_o1 V_sv S7 S8 hcs hfm) hZ (hw _ (List.mem_of_getElem? (i := 68) rfl)) (hw _ (List.mem_of_getElem? (i := 7) rfl)) (by decide) (by decide)) q9a q9c (g := (mkF m 57 #[.val (.ref o0), .val (.ref o1), .val (.int (200 : Int32)), .val (.ref o3), .val (.ref fa), .val (.int (0 : Int32))] [(.int (0 : Int32)), (.ref o1), (.ref fa)])) rfl (by rw [hml]; rfl) (Steps.refl _) (argsL := [(.int (0 : Int32))]) (rest := [(.ref fa)]) (lenOf pd__28I_29C rfl) rfl (by show 2 * 0 + _ ≤ _; exact Nat.le_of_eq rfl) (hb hby d8_57) (fun _ _ => ⟨rfl, e6, (by decide : 0 + 0 ≤ _), (by decide : 0 + 0 ≤ _)⟩)
  dsimp only [Pt.U, Pt.locs, Pt.cells, Pt.slots] at X9 l9 y9 z9 st9 hQ9
  obtain ⟨rfl, N9q, e9⟩ := hQ9
  obtain ⟨lc9, X9, N9⟩ := own_pack X9 l9 y9 z9 N6 N9q (C := 0) (S' := 0) rfl rfl
  refine own_thr (a := T9.setTop (mkF m 60 #[.val (.ref o0), .val (.ref o1), .val (.int (200 : Int32)), .val (.ref o3), .val (.ref fa), .val (.int (0 : Int32))] [(.int (nar .char (nar .char ((w0 &&& (255 : Int32)).toUInt32.toUInt16.toUInt32.toInt32)))), (.ref fa)])) (fun t kt => st9.trans kt) ?_
  rw [show (nar .char (nar .char ((w0 &&& (255 : Int32)).toUInt32.toUInt16.toUInt32.toInt32))) = w0 from own_ch Hw0]
  obtain ⟨T10, L10, X10, N10q, e10, st10⟩ := Jvm.LamKit.own_lam X9 hx hZ (own := "com/example/chronoshard/chronoshard/model/Limits") (host := "com/example/chronoshard/chronoshard/model/Limits") (index := 68) (count := 2) (xi := (⟨"java/util/function/IntPredicate", "test", "(I)Z"⟩ : MethodName)) (y := (⟨"com/example/chronoshard/chronoshard/model/Limits", "lambda$checkInstanceId$1", "(I)Z"⟩ : MethodName)) (σ := own_sig) (argsL := [.int w0]) (argsT := [.int w0]) (rest := []) (val := (.int (1 : Int32))) (n0 := n0) (rmLam l Z a0 hw [] w0 h0 n0 Z0) (fun v h' L q => ⟨by rw [q.1, own_l1 Hw0], q.2⟩) hown (mvT hZ (hw _ (List.mem_of_getElem? (i := 85) rfl))) (mvT hZ (hw _ (List.mem_of_getElem? (i := 86) rfl))) (mvT hZ (hw _ (List.mem_of_getElem? (i := 87) rfl))) (mvT hZ (hw _ (List.mem_of_getElem? (i := 89) rfl))) (mvT hZ (hw _ (List.mem_of_getElem? (i := 88) rfl))) (mvT hZ (hw _ (List.mem_of_getElem? (i := 33) rfl))) (by decide +kernel) (by decide +kernel) (by decide) hfn hO e9 own_fwd own_g1 own_g4 (g := (mkF m 60 #[.val (.ref o0), .val (.ref o1), .val (.int (200 : Int32)), .val (.ref o3), .val (.ref fa), .val (.int (0 : Int32))] [(.int w0), (.ref fa)])) rfl (by rw [hml]; rfl) (L0 := #[.val (.ref fa), .val (.int w0)]) (lenOf pd__28I_29Z rfl) (lenOf pd__28I_29Z rfl) rfl (hb hby d8_60) (fun _ => rfl) rfl (fun U ck bl target hU hck _ _ k => XS.iloadN hU hx rfl (hb hck own_g0) rfl k) (Or.inl ⟨.boolean, _, rfl, Or.inr (Or.inl rfl), rfl, rfl, rfl⟩) (by decide) (by show 2 * 0 + 0 + (2 + 11) + ((1 + 11) + 0) ≤ _; decide) (Nat.zero_le _) (Nat.zero_le _)
  obtain ⟨lc10, X10, N10⟩ := own_pack X10 rfl rfl rfl N9 N10q (C := 0) (S' := 0) rfl rfl
  refine own_thr (a := T10.setTop (mkF m 65 #[.val (.ref o0), .val (.ref o1), .val (.int (200 : Int32)), .val (.ref o3), .val (.ref fa), .val (.int (0 : Int32))] [(.int (1 : Int32))])) (fun t kt => st10 t kt) ?_
  have S11 := S_cs.ext hO.2
  refine own_thr (a := T10.setTop (mkF m 46 #[.val (.ref o0), .val (.ref o1), .val (.int (200 : Int32)), .val (.ref o3), .val (.ref fa), .val (.int (1 : Int32))] [(.ref o1), (.int (1 : Int32))])) (fun t kt => ?_) ?_
  · show Steps p.tables e below (T10.setTop (mkF m 65 #[.val (.ref o0), .val (.ref o1), .val (.int (200 : Int32)), .val (.ref o3), .val (.ref fa), .val (.int (0 : Int32))] [(.int (1 : Int32))])) _
    refine XS.ifYes X10.here hx rfl (pc0 := 65) (pc' := 77) rfl (hb hby d8_65) rfl ((if0 _ _).trans (feq (by decide)).2) (by decide) (by decide) ?_
    refine XS.iinc X10.here hx rfl (hb hby d8_77) rfl (l' := #[.val (.ref o0), .val (.ref o1), .val (.int (200 : Int32)), .val (.ref o3), .val (.ref fa), .val (.int (1 : Int32))]) rfl ?_
    refine XS.goto X10.here hx rfl (pc0 := 80) (pc' := 43) rfl (hb hby d8_80) (by decide) (by decide) ?_
    refine XS.iload X10.here hx rfl (hb hby d8_43) rfl ?_
    refine XS.aloadN X10.here hx rfl (hb hby d8_45) rfl rfl ?_
    exact kt
  obtain ⟨cq12, kq12, q12a, q12b, q12c⟩ := isOf hZ e10 E_o1
  obtain ⟨_, _, ⟨T12, L12, k12, n12⟩, -, X12, ⟨Lc12, hQ12, l12, y12, z12⟩, st12⟩ := X10.virtualBack hx (y := (⟨"java/lang/String", "length", "()I"⟩ : MethodName)) (z := (⟨"java/lang/String", "length", "()I"⟩ : MethodName)) hown (mvT hZ (hw _ (List.mem_of_getElem? (i := 54) rfl))) (mvT hZ (hw _ (List.mem_of_getElem? (i := 55) rfl))) (notFace_of_selects (args := #[]) (mvT hZ (hw _ (List.mem_of_getElem? (i := 57) rfl)))) (mvT hZ (hw _ (List.mem_of_getElem? (i := 57) rfl))) (mvT hZ (hw _ (List.mem_of_getElem? (i := 56) rfl))) (by decide) (backOf (W := 1) (rmLN4 l Z a0 hw [] o1 sv ks [(.int w0), (.int w1), (.int w2), (.int w3)] cs h0 n0 Z0 E_o1 F_value_o1 F_coder_o1 V_sv S11 hcs) hZ (hw _ (List.mem_of_getElem? (i := 58) rfl)) (hw _ (List.mem_of_getElem? (i := 7) rfl)) (by decide) (by decide)) q12a q12c (g := (mkF m 46 #[.val (.ref o0), .val (.ref o1), .val (.int (200 : Int32)), .val (.ref o3), .val (.ref fa), .val (.int (1 : Int32))] [(.ref o1), (.int (1 : Int32))])) rfl (by rw [hml]; rfl) (Steps.refl _) (argsL := []) (rest := [(.int (1 : Int32))]) (lenOf pd__28_29I rfl) rfl (by show 2 * 0 + _ ≤ _; exact Nat.le_of_eq rfl) (hb hby d8_46) (fun _ _ => ⟨rfl, e10, (by decide : 0 + 0 ≤ _), (by decide : 0 + 0 ≤ _)⟩)
  dsimp only [Pt.U, Pt.locs, Pt.cells, Pt.slots] at X12 l12 y12 z12 st12 hQ12
  obtain ⟨rfl, N12q, e12⟩ := hQ12
  obtain ⟨lc12, X12, N12⟩ := own_pack X12 l12 y12 z12 N10 N12q (C := 0) (S' := 0) rfl rfl
  refine own_thr (a := T12.setTop (mkF m 49 #[.val (.ref o0), .val (.ref o1), .val (.int (200 : Int32)), .val (.ref o3), .val (.ref fa), .val (.int (1 : Int32))] [(.int (4 : Int32)), (.int (1 : Int32))])) (fun t kt => st12.trans kt) ?_
  have S13 := S_cs.ext hO.2
  have S14 := S_fm.ext hO.2
  refine own_thr (a := T12.setTop (mkF m 57 #[.val (.ref o0), .val (.ref o1), .val (.int (200 : Int32)), .val (.ref o3), .val (.ref fa), .val (.int (1 : Int32))] [(.int (1 : Int32)), (.ref o1), (.ref fa)])) (fun t kt => ?_) ?_
  · show Steps p.tables e below (T12.setTop (mkF m 49 #[.val (.ref o0), .val (.ref o1), .val (.int (200 : Int32)), .val (.ref o3), .val (.ref fa), .val (.int (1 : Int32))] [(.int (4 : Int32)), (.int (1 : Int32))])) _
    refine XS.icmpNo X12.here hx rfl (hb hby d8_49) rfl (tlt (by decide)).2.1 ?_
    refine XS.aload X12.here hx rfl (hb hby d8_52) rfl rfl ?_
    refine XS.aloadN X12.here hx rfl (hb hby d8_54) rfl rfl ?_
    refine XS.iload X12.here hx rfl (hb hby d8_55) rfl ?_
    exact kt
  obtain ⟨cq15, kq15, q15a, q15b, q15c⟩ := isOf hZ e12 E_o1
  obtain ⟨_, _, ⟨T15, L15, k15, n15⟩, -, X15, ⟨Lc15, hQ15, l15, y15, z15⟩, st15⟩ := X12.virtualBack hx (y := (⟨"java/lang/String", "charAt", "(I)C"⟩ : MethodName)) (z := (⟨"java/lang/String", "charAt", "(I)C"⟩ : MethodName)) hown (mvT hZ (hw _ (List.mem_of_getElem? (i := 64) rfl))) (mvT hZ (hw _ (List.mem_of_getElem? (i := 65) rfl))) (notFace_of_selects (args := #[]) (mvT hZ (hw _ (List.mem_of_getElem? (i := 67) rfl)))) (mvT hZ (hw _ (List.mem_of_getElem? (i := 67) rfl))) (mvT hZ (hw _ (List.mem_of_getElem? (i := 66) rfl))) (by decide) (backOf (W := 1) (rmCA41 l Z a0 hw [] o1 sv ks w0 w1 w2 w3 cs fm h0 n0 Z0 E_o1 F_value_o1 F_coder_o1 V_sv S13 S14 hcs hfm) hZ (hw _ (List.mem_of_getElem? (i := 68) rfl)) (hw _ (List.mem_of_getElem? (i := 7) rfl)) (by decide) (by decide)) q15a q15c (g := (mkF m 57 #[.val (.ref o0), .val (.ref o1), .val (.int (200 : Int32)), .val (.ref o3), .val (.ref fa), .val (.int (1 : Int32))] [(.int (1 : Int32)), (.ref o1), (.ref fa)])) rfl (by rw [hml]; rfl) (Steps.refl _) (argsL := [(.int (1 : Int32))]) (rest := [(.ref fa)]) (lenOf pd__28I_29C rfl) rfl (by show 2 * 0 + _ ≤ _; exact Nat.le_of_eq rfl) (hb hby d8_57) (fun _ _ => ⟨rfl, e12, (by decide : 0 + 0 ≤ _), (by decide : 0 + 0 ≤ _)⟩)
  dsimp only [Pt.U, Pt.locs, Pt.cells, Pt.slots] at X15 l15 y15 z15 st15 hQ15
  obtain ⟨rfl, N15q, e15⟩ := hQ15
  obtain ⟨lc15, X15, N15⟩ := own_pack X15 l15 y15 z15 N12 N15q (C := 0) (S' := 0) rfl rfl
  refine own_thr (a := T15.setTop (mkF m 60 #[.val (.ref o0), .val (.ref o1), .val (.int (200 : Int32)), .val (.ref o3), .val (.ref fa), .val (.int (1 : Int32))] [(.int (nar .char (nar .char ((w1 &&& (255 : Int32)).toUInt32.toUInt16.toUInt32.toInt32)))), (.ref fa)])) (fun t kt => st15.trans kt) ?_
  rw [show (nar .char (nar .char ((w1 &&& (255 : Int32)).toUInt32.toUInt16.toUInt32.toInt32))) = w1 from own_ch Hw1]
  obtain ⟨T16, L16, X16, N16q, e16, st16⟩ := Jvm.LamKit.own_lam X15 hx hZ (own := "com/example/chronoshard/chronoshard/model/Limits") (host := "com/example/chronoshard/chronoshard/model/Limits") (index := 68) (count := 2) (xi := (⟨"java/util/function/IntPredicate", "test", "(I)Z"⟩ : MethodName)) (y := (⟨"com/example/chronoshard/chronoshard/model/Limits", "lambda$checkInstanceId$1", "(I)Z"⟩ : MethodName)) (σ := own_sig) (argsL := [.int w1]) (argsT := [.int w1]) (rest := []) (val := (.int (1 : Int32))) (n0 := n0) (rmLam l Z a0 hw [] w1 h0 n0 Z0) (fun v h' L q => ⟨by rw [q.1, own_l1 Hw1], q.2⟩) hown (mvT hZ (hw _ (List.mem_of_getElem? (i := 85) rfl))) (mvT hZ (hw _ (List.mem_of_getElem? (i := 86) rfl))) (mvT hZ (hw _ (List.mem_of_getElem? (i := 87) rfl))) (mvT hZ (hw _ (List.mem_of_getElem? (i := 89) rfl))) (mvT hZ (hw _ (List.mem_of_getElem? (i := 88) rfl))) (mvT hZ (hw _ (List.mem_of_getElem? (i := 33) rfl))) (by decide +kernel) (by decide +kernel) (by decide) hfn hO e15 own_fwd own_g1 own_g4 (g := (mkF m 60 #[.val (.ref o0), .val (.ref o1), .val (.int (200 : Int32)), .val (.ref o3), .val (.ref fa), .val (.int (1 : Int32))] [(.int w1), (.ref fa)])) rfl (by rw [hml]; rfl) (L0 := #[.val (.ref fa), .val (.int w1)]) (lenOf pd__28I_29Z rfl) (lenOf pd__28I_29Z rfl) rfl (hb hby d8_60) (fun _ => rfl) rfl (fun U ck bl target hU hck _ _ k => XS.iloadN hU hx rfl (hb hck own_g0) rfl k) (Or.inl ⟨.boolean, _, rfl, Or.inr (Or.inl rfl), rfl, rfl, rfl⟩) (by decide) (by show 2 * 0 + 0 + (2 + 11) + ((1 + 11) + 0) ≤ _; decide) (Nat.zero_le _) (Nat.zero_le _)
  obtain ⟨lc16, X16, N16⟩ := own_pack X16 rfl rfl rfl N15 N16q (C := 0) (S' := 0) rfl rfl
  refine own_thr (a := T16.setTop (mkF m 65 #[.val (.ref o0), .val (.ref o1), .val (.int (200 : Int32)), .val (.ref o3), .val (.ref fa), .val (.int (1 : Int32))] [(.int (1 : Int32))])) (fun t kt => st16 t kt) ?_
  have S17 := S_cs.ext hO.2
  refine own_thr (a := T16.setTop (mkF m 46 #[.val (.ref o0), .val (.ref o1), .val (.int (200 : Int32)), .val (.ref o3), .val (.ref fa), .val (.int (2 : Int32))] [(.ref o1), (.int (2 : Int32))])) (fun t kt => ?_) ?_
  · show Steps p.tables e below (T16.setTop (mkF m 65 #[.val (.ref o0), .val (.ref o1), .val (.int (200 : Int32)), .val (.ref o3), .val (.ref fa), .val (.int (1 : Int32))] [(.int (1 : Int32))])) _
    refine XS.ifYes X16.here hx rfl (pc0 := 65) (pc' := 77) rfl (hb hby d8_65) rfl ((if0 _ _).trans (feq (by decide)).2) (by decide) (by decide) ?_
    refine XS.iinc X16.here hx rfl (hb hby d8_77) rfl (l' := #[.val (.ref o0), .val (.ref o1), .val (.int (200 : Int32)), .val (.ref o3), .val (.ref fa), .val (.int (2 : Int32))]) rfl ?_
    refine XS.goto X16.here hx rfl (pc0 := 80) (pc' := 43) rfl (hb hby d8_80) (by decide) (by decide) ?_
    refine XS.iload X16.here hx rfl (hb hby d8_43) rfl ?_
    refine XS.aloadN X16.here hx rfl (hb hby d8_45) rfl rfl ?_
    exact kt
  obtain ⟨cq18, kq18, q18a, q18b, q18c⟩ := isOf hZ e16 E_o1
  obtain ⟨_, _, ⟨T18, L18, k18, n18⟩, -, X18, ⟨Lc18, hQ18, l18, y18, z18⟩, st18⟩ := X16.virtualBack hx (y := (⟨"java/lang/String", "length", "()I"⟩ : MethodName)) (z := (⟨"java/lang/String", "length", "()I"⟩ : MethodName)) hown (mvT hZ (hw _ (List.mem_of_getElem? (i := 54) rfl))) (mvT hZ (hw _ (List.mem_of_getElem? (i := 55) rfl))) (notFace_of_selects (args := #[]) (mvT hZ (hw _ (List.mem_of_getElem? (i := 57) rfl)))) (mvT hZ (hw _ (List.mem_of_getElem? (i := 57) rfl))) (mvT hZ (hw _ (List.mem_of_getElem? (i := 56) rfl))) (by decide) (backOf (W := 1) (rmLN4 l Z a0 hw [] o1 sv ks [(.int w0), (.int w1), (.int w2), (.int w3)] cs h0 n0 Z0 E_o1 F_value_o1 F_coder_o1 V_sv S17 hcs) hZ (hw _ (List.mem_of_getElem? (i := 58) rfl)) (hw _ (List.mem_of_getElem? (i := 7) rfl)) (by decide) (by decide)) q18a q18c (g := (mkF m 46 #[.val (.ref o0), .val (.ref o1), .val (.int (200 : Int32)), .val (.ref o3), .val (.ref fa), .val (.int (2 : Int32))] [(.ref o1), (.int (2 : Int32))])) rfl (by rw [hml]; rfl) (Steps.refl _) (argsL := []) (rest := [(.int (2 : Int32))]) (lenOf pd__28_29I rfl) rfl (by show 2 * 0 + _ ≤ _; exact Nat.le_of_eq rfl) (hb hby d8_46) (fun _ _ => ⟨rfl, e16, (by decide : 0 + 0 ≤ _), (by decide : 0 + 0 ≤ _)⟩)
  dsimp only [Pt.U, Pt.locs, Pt.cells, Pt.slots] at X18 l18 y18 z18 st18 hQ18
  obtain ⟨rfl, N18q, e18⟩ := hQ18
  obtain ⟨lc18, X18, N18⟩ := own_pack X18 l18 y18 z18 N16 N18q (C := 0) (S' := 0) rfl rfl
  refine own_thr (a := T18.setTop (mkF m 49 #[.val (.ref o0), .val (.ref o1), .val (.int (200 : Int32)), .val (.ref o3), .val (.ref fa), .val (.int (2 : Int32))] [(.int (4 : Int32)), (.int (2 : Int32))])) (fun t kt => st18.trans kt) ?_
  have S19 := S_cs.ext hO.2
  have S20 := S_fm.ext hO.2
  refine own_thr (a := T18.setTop (mkF m 57 #[.val (.ref o0), .val (.ref o1), .val (.int (200 : Int32)), .val (.ref o3), .val (.ref fa), .val (.int (2 : Int32))] [(.int (2 : Int32)), (.ref o1), (.ref fa)])) (fun t kt => ?_) ?_
  · show Steps p.tables e below (T18.setTop (mkF m 49 #[.val (.ref o0), .val (.ref o1), .val (.int (200 : Int32)), .val (.ref o3), .val (.ref fa), .val (.int (2 : Int32))] [(.int (4 : Int32)), (.int (2 : Int32))])) _
    refine XS.icmpNo X18.here hx rfl (hb hby d8_49) rfl (tlt (by decide)).2.1 ?_
    refine XS.aload X18.here hx rfl (hb hby d8_52) rfl rfl ?_
    refine XS.aloadN X18.here hx rfl (hb hby d8_54) rfl rfl ?_
    refine XS.iload X18.here hx rfl (hb hby d8_55) rfl ?_
    exact kt
  obtain ⟨cq21, kq21, q21a, q21b, q21c⟩ := isOf hZ e18 E_o1
  obtain ⟨_, _, ⟨T21, L21, k21, n21⟩, -, X21, ⟨Lc21, hQ21, l21, y21, z21⟩, st21⟩ := X18.virtualBack hx (y := (⟨"java/lang/String", "charAt", "(I)C"⟩ : MethodName)) (z := (⟨"java/lang/String", "charAt", "(I)C"⟩ : MethodName)) hown (mvT hZ (hw _ (List.mem_of_getElem? (i := 64) rfl))) (mvT hZ (hw _ (List.mem_of_getElem? (i := 65) rfl))) (notFace_of_selects (args := #[]) (mvT hZ (hw _ (List.mem_of_getElem? (i := 67) rfl)))) (mvT hZ (hw _ (List.mem_of_getElem? (i := 67) rfl))) (mvT hZ (hw _ (List.mem_of_getElem? (i := 66) rfl))) (by decide) (backOf (W := 1) (rmCA42 l Z a0 hw [] o1 sv ks w0 w1 w2 w3 cs fm h0 n0 Z0 E_o1 F_value_o1 F_coder_o1 V_sv S19 S20 hcs hfm) hZ (hw _ (List.mem_of_getElem? (i := 68) rfl)) (hw _ (List.mem_of_getElem? (i := 7) rfl)) (by decide) (by decide)) q21a q21c (g := (mkF m 57 #[.val (.ref o0), .val (.ref o1), .val (.int (200 : Int32)), .val (.ref o3), .val (.ref fa), .val (.int (2 : Int32))] [(.int (2 : Int32)), (.ref o1), (.ref fa)])) rfl (by rw [hml]; rfl) (Steps.refl _) (argsL := [(.int (2 : Int32))]) (rest := [(.ref fa)]) (lenOf pd__28I_29C rfl) rfl (by show 2 * 0 + _ ≤ _; exact Nat.le_of_eq rfl) (hb hby d8_57) (fun _ _ => ⟨rfl, e18, (by decide : 0 + 0 ≤ _), (by decide : 0 + 0 ≤ _)⟩)
  dsimp only [Pt.U, Pt.locs, Pt.cells, Pt.slots] at X21 l21 y21 z21 st21 hQ21
  obtain ⟨rfl, N21q, e21⟩ := hQ21
  obtain ⟨lc21, X21, N21⟩ := own_pack X21 l21 y21 z21 N18 N21q (C := 0) (S' := 0) rfl rfl
  refine own_thr (a := T21.setTop (mkF m 60 #[.val (.ref o0), .val (.ref o1), .val (.int (200 : Int32)), .val (.ref o3), .val (.ref fa), .val (.int (2 : Int32))] [(.int (nar .char (nar .char ((w2 &&& (255 : Int32)).toUInt32.toUInt16.toUInt32.toInt32)))), (.ref fa)])) (fun t kt => st21.trans kt) ?_
  rw [show (nar .char (nar .char ((w2 &&& (255 : Int32)).toUInt32.toUInt16.toUInt32.toInt32))) = w2 from own_ch Hw2]
  obtain ⟨T22, L22, X22, N22q, e22, st22⟩ := Jvm.LamKit.own_lam X21 hx hZ (own := "com/example/chronoshard/chronoshard/model/Limits") (host := "com/example/chronoshard/chronoshard/model/Limits") (index := 68) (count := 2) (xi := (⟨"java/util/function/IntPredicate", "test", "(I)Z"⟩ : MethodName)) (y := (⟨"com/example/chronoshard/chronoshard/model/Limits", "lambda$checkInstanceId$1", "(I)Z"⟩ : MethodName)) (σ := own_sig) (argsL := [.int w2]) (argsT := [.int w2]) (rest := []) (val := (.int (1 : Int32))) (n0 := n0) (rmLam l Z a0 hw [] w2 h0 n0 Z0) (fun v h' L q => ⟨by rw [q.1, own_l1 Hw2], q.2⟩) hown (mvT hZ (hw _ (List.mem_of_getElem? (i := 85) rfl))) (mvT hZ (hw _ (List.mem_of_getElem? (i := 86) rfl))) (mvT hZ (hw _ (List.mem_of_getElem? (i := 87) rfl))) (mvT hZ (hw _ (List.mem_of_getElem? (i := 89) rfl))) (mvT hZ (hw _ (List.mem_of_getElem? (i := 88) rfl))) (mvT hZ (hw _ (List.mem_of_getElem? (i := 33) rfl))) (by decide +kernel) (by decide +kernel) (by decide) hfn hO e21 own_fwd own_g1 own_g4 (g := (mkF m 60 #[.val (.ref o0), .val (.ref o1), .val (.int (200 : Int32)), .val (.ref o3), .val (.ref fa), .val (.int (2 : Int32))] [(.int w2), (.ref fa)])) rfl (by rw [hml]; rfl) (L0 := #[.val (.ref fa), .val (.int w2)]) (lenOf pd__28I_29Z rfl) (lenOf pd__28I_29Z rfl) rfl (hb hby d8_60) (fun _ => rfl) rfl (fun U ck bl target hU hck _ _ k => XS.iloadN hU hx rfl (hb hck own_g0) rfl k) (Or.inl ⟨.boolean, _, rfl, Or.inr (Or.inl rfl), rfl, rfl, rfl⟩) (by decide) (by show 2 * 0 + 0 + (2 + 11) + ((1 + 11) + 0) ≤ _; decide) (Nat.zero_le _) (Nat.zero_le _)
  obtain ⟨lc22, X22, N22⟩ := own_pack X22 rfl rfl rfl N21 N22q (C := 0) (S' := 0) rfl rfl
  refine own_thr (a := T22.setTop (mkF m 65 #[.val (.ref o0), .val (.ref o1), .val (.int (200 : Int32)), .val (.ref o3), .val (.ref fa), .val (.int (2 : Int32))] [(.int (1 : Int32))])) (fun t kt => st22 t kt) ?_
  have S23 := S_cs.ext hO.2
  refine own_thr (a := T22.setTop (mkF m 46 #[.val (.ref o0), .val (.ref o1), .val (.int (200 : Int32)), .val (.ref o3), .val (.ref fa), .val (.int (3 : Int32))] [(.ref o1), (.int (3 : Int32))])) (fun t kt => ?_) ?_
  · show Steps p.tables e below (T22.setTop (mkF m 65 #[.val (.ref o0), .val (.ref o1), .val (.int (200 : Int32)), .val (.ref o3), .val (.ref fa), .val (.int (2 : Int32))] [(.int (1 : Int32))])) _
    refine XS.ifYes X22.here hx rfl (pc0 := 65) (pc' := 77) rfl (hb hby d8_65) rfl ((if0 _ _).trans (feq (by decide)).2) (by decide) (by decide) ?_
    refine XS.iinc X22.here hx rfl (hb hby d8_77) rfl (l' := #[.val (.ref o0), .val (.ref o1), .val (.int (200 : Int32)), .val (.ref o3), .val (.ref fa), .val (.int (3 : Int32))]) rfl ?_
    refine XS.goto X22.here hx rfl (pc0 := 80) (pc' := 43) rfl (hb hby d8_80) (by decide) (by decide) ?_
    refine XS.iload X22.here hx rfl (hb hby d8_43) rfl ?_
    refine XS.aloadN X22.here hx rfl (hb hby d8_45) rfl rfl ?_
    exact kt
  obtain ⟨cq24, kq24, q24a, q24b, q24c⟩ := isOf hZ e22 E_o1
  obtain ⟨_, _, ⟨T24, L24, k24, n24⟩, -, X24, ⟨Lc24, hQ24, l24, y24, z24⟩, st24⟩ := X22.virtualBack hx (y := (⟨"java/lang/String", "length", "()I"⟩ : MethodName)) (z := (⟨"java/lang/String", "length", "()I"⟩ : MethodName)) hown (mvT hZ (hw _ (List.mem_of_getElem? (i := 54) rfl))) (mvT hZ (hw _ (List.mem_of_getElem? (i := 55) rfl))) (notFace_of_selects (args := #[]) (mvT hZ (hw _ (List.mem_of_getElem? (i := 57) rfl)))) (mvT hZ (hw _ (List.mem_of_getElem? (i := 57) rfl))) (mvT hZ (hw _ (List.mem_of_getElem? (i := 56) rfl))) (by decide) (backOf (W := 1) (rmLN4 l Z a0 hw [] o1 sv ks [(.int w0), (.int w1), (.int w2), (.int w3)] cs h0 n0 Z0 E_o1 F_value_o1 F_coder_o1 V_sv S23 hcs) hZ (hw _ (List.mem_of_getElem? (i := 58) rfl)) (hw _ (List.mem_of_getElem? (i := 7) rfl)) (by decide) (by decide)) q24a q24c (g := (mkF m 46 #[.val (.ref o0), .val (.ref o1), .val (.int (200 : Int32)), .val (.ref o3), .val (.ref fa), .val (.int (3 : Int32))] [(.ref o1), (.int (3 : Int32))])) rfl (by rw [hml]; rfl) (Steps.refl _) (argsL := []) (rest := [(.int (3 : Int32))]) (lenOf pd__28_29I rfl) rfl (by show 2 * 0 + _ ≤ _; exact Nat.le_of_eq rfl) (hb hby d8_46) (fun _ _ => ⟨rfl, e22, (by decide : 0 + 0 ≤ _), (by decide : 0 + 0 ≤ _)⟩)
  dsimp only [Pt.U, Pt.locs, Pt.cells, Pt.slots] at X24 l24 y24 z24 st24 hQ24
  obtain ⟨rfl, N24q, e24⟩ := hQ24
  obtain ⟨lc24, X24, N24⟩ := own_pack X24 l24 y24 z24 N22 N24q (C := 0) (S' := 0) rfl rfl
  refine own_thr (a := T24.setTop (mkF m 49 #[.val (.ref o0), .val (.ref o1), .val (.int (200 : Int32)), .val (.ref o3), .val (.ref fa), .val (.int (3 : Int32))] [(.int (4 : Int32)), (.int (3 : Int32))])) (fun t kt => st24.trans kt) ?_
  have S25 := S_cs.ext hO.2
  have S26 := S_fm.ext hO.2
  refine own_thr (a := T24.setTop (mkF m 57 #[.val (.ref o0), .val (.ref o1), .val (.int (200 : Int32)), .val (.ref o3), .val (.ref fa), .val (.int (3 : Int32))] [(.int (3 : Int32)), (.ref o1), (.ref fa)])) (fun t kt => ?_) ?_
  · show Steps p.tables e below (T24.setTop (mkF m 49 #[.val (.ref o0), .val (.ref o1), .val (.int (200 : Int32)), .val (.ref o3), .val (.ref fa), .val (.int (3 : Int32))] [(.int (4 : Int32)), (.int (3 : Int32))])) _
    refine XS.icmpNo X24.here hx rfl (hb hby d8_49) rfl (tlt (by decide)).2.1 ?_
    refine XS.aload X24.here hx rfl (hb hby d8_52) rfl rfl ?_
    refine XS.aloadN X24.here hx rfl (hb hby d8_54) rfl rfl ?_
    refine XS.iload X24.here hx rfl (hb hby d8_55) rfl ?_
    exact kt
  obtain ⟨cq27, kq27, q27a, q27b, q27c⟩ := isOf hZ e24 E_o1
  obtain ⟨_, _, ⟨T27, L27, k27, n27⟩, -, X27, ⟨Lc27, hQ27, l27, y27, z27⟩, st27⟩ := X24.virtualBack hx (y := (⟨"java/lang/String", "charAt", "(I)C"⟩ : MethodName)) (z := (⟨"java/lang/String", "charAt", "(I)C"⟩ : MethodName)) hown (mvT hZ (hw _ (List.mem_of_getElem? (i := 64) rfl))) (mvT hZ (hw _ (List.mem_of_getElem? (i := 65) rfl))) (notFace_of_selects (args := #[]) (mvT hZ (hw _ (List.mem_of_getElem? (i := 67) rfl)))) (mvT hZ (hw _ (List.mem_of_getElem? (i := 67) rfl))) (mvT hZ (hw _ (List.mem_of_getElem? (i := 66) rfl))) (by decide) (backOf (W := 1) (rmCA43 l Z a0 hw [] o1 sv ks w0 w1 w2 w3 cs fm h0 n0 Z0 E_o1 F_value_o1 F_coder_o1 V_sv S25 S26 hcs hfm) hZ (hw _ (List.mem_of_getElem? (i := 68) rfl)) (hw _ (List.mem_of_getElem? (i := 7) rfl)) (by decide) (by decide)) q27a q27c (g := (mkF m 57 #[.val (.ref o0), .val (.ref o1), .val (.int (200 : Int32)), .val (.ref o3), .val (.ref fa), .val (.int (3 : Int32))] [(.int (3 : Int32)), (.ref o1), (.ref fa)])) rfl (by rw [hml]; rfl) (Steps.refl _) (argsL := [(.int (3 : Int32))]) (rest := [(.ref fa)]) (lenOf pd__28I_29C rfl) rfl (by show 2 * 0 + _ ≤ _; exact Nat.le_of_eq rfl) (hb hby d8_57) (fun _ _ => ⟨rfl, e24, (by decide : 0 + 0 ≤ _), (by decide : 0 + 0 ≤ _)⟩)
  dsimp only [Pt.U, Pt.locs, Pt.cells, Pt.slots] at X27 l27 y27 z27 st27 hQ27
  obtain ⟨rfl, N27q, e27⟩ := hQ27
  obtain ⟨lc27, X27, N27⟩ := own_pack X27 l27 y27 z27 N24 N27q (C := 0) (S' := 0) rfl rfl
  refine own_thr (a := T27.setTop (mkF m 60 #[.val (.ref o0), .val (.ref o1), .val (.int (200 : Int32)), .val (.ref o3), .val (.ref fa), .val (.int (3 : Int32))] [(.int (nar .char (nar .char ((w3 &&& (255 : Int32)).toUInt32.toUInt16.toUInt32.toInt32)))), (.ref fa)])) (fun t kt => st27.trans kt) ?_
  rw [show (nar .char (nar .char ((w3 &&& (255 : Int32)).toUInt32.toUInt16.toUInt32.toInt32))) = w3 from own_ch Hw3]
  obtain ⟨T28, L28, X28, N28q, e28, st28⟩ := Jvm.LamKit.own_lam X27 hx hZ (own := "com/example/chronoshard/chronoshard/model/Limits") (host := "com/example/chronoshard/chronoshard/model/Limits") (index := 68) (count := 2) (xi := (⟨"java/util/function/IntPredicate", "test", "(I)Z"⟩ : MethodName)) (y := (⟨"com/example/chronoshard/chronoshard/model/Limits", "lambda$checkInstanceId$1", "(I)Z"⟩ : MethodName)) (σ := own_sig) (argsL := [.int w3]) (argsT := [.int w3]) (rest := []) (val := (.int (1 : Int32))) (n0 := n0) (rmLam l Z a0 hw [] w3 h0 n0 Z0) (fun v h' L q => ⟨by rw [q.1, own_l1 Hw3], q.2⟩) hown (mvT hZ (hw _ (List.mem_of_getElem? (i := 85) rfl))) (mvT hZ (hw _ (List.mem_of_getElem? (i := 86) rfl))) (mvT hZ (hw _ (List.mem_of_getElem? (i := 87) rfl))) (mvT hZ (hw _ (List.mem_of_getElem? (i := 89) rfl))) (mvT hZ (hw _ (List.mem_of_getElem? (i := 88) rfl))) (mvT hZ (hw _ (List.mem_of_getElem? (i := 33) rfl))) (by decide +kernel) (by decide +kernel) (by decide) hfn hO e27 own_fwd own_g1 own_g4 (g := (mkF m 60 #[.val (.ref o0), .val (.ref o1), .val (.int (200 : Int32)), .val (.ref o3), .val (.ref fa), .val (.int (3 : Int32))] [(.int w3), (.ref fa)])) rfl (by rw [hml]; rfl) (L0 := #[.val (.ref fa), .val (.int w3)]) (lenOf pd__28I_29Z rfl) (lenOf pd__28I_29Z rfl) rfl (hb hby d8_60) (fun _ => rfl) rfl (fun U ck bl target hU hck _ _ k => XS.iloadN hU hx rfl (hb hck own_g0) rfl k) (Or.inl ⟨.boolean, _, rfl, Or.inr (Or.inl rfl), rfl, rfl, rfl⟩) (by decide) (by show 2 * 0 + 0 + (2 + 11) + ((1 + 11) + 0) ≤ _; decide) (Nat.zero_le _) (Nat.zero_le _)
  obtain ⟨lc28, X28, N28⟩ := own_pack X28 rfl rfl rfl N27 N28q (C := 0) (S' := 0) rfl rfl
  refine own_thr (a := T28.setTop (mkF m 65 #[.val (.ref o0), .val (.ref o1), .val (.int (200 : Int32)), .val (.ref o3), .val (.ref fa), .val (.int (3 : Int32))] [(.int (1 : Int32))])) (fun t kt => st28 t kt) ?_
  have S29 := S_cs.ext hO.2
  refine own_thr (a := T28.setTop (mkF m 46 #[.val (.ref o0), .val (.ref o1), .val (.int (200 : Int32)), .val (.ref o3), .val (.ref fa), .val (.int (4 : Int32))] [(.ref o1), (.int (4 : Int32))])) (fun t kt => ?_) ?_
  · show Steps p.tables e below (T28.setTop (mkF m 65 #[.val (.ref o0), .val (.ref o1), .val (.int (200 : Int32)), .val (.ref o3), .val (.ref fa), .val (.int (3 : Int32))] [(.int (1 : Int32))])) _
    refine XS.ifYes X28.here hx rfl (pc0 := 65) (pc' := 77) rfl (hb hby d8_65) rfl ((if0 _ _).trans (feq (by decide)).2) (by decide) (by decide) ?_
    refine XS.iinc X28.here hx rfl (hb hby d8_77) rfl (l' := #[.val (.ref o0), .val (.ref o1), .val (.int (200 : Int32)), .val (.ref o3), .val (.ref fa), .val (.int (4 : Int32))]) rfl ?_
    refine XS.goto X28.here hx rfl (pc0 := 80) (pc' := 43) rfl (hb hby d8_80) (by decide) (by decide) ?_
    refine XS.iload X28.here hx rfl (hb hby d8_43) rfl ?_
    refine XS.aloadN X28.here hx rfl (hb hby d8_45) rfl rfl ?_
    exact kt
  obtain ⟨cq30, kq30, q30a, q30b, q30c⟩ := isOf hZ e28 E_o1
  obtain ⟨_, _, ⟨T30, L30, k30, n30⟩, -, X30, ⟨Lc30, hQ30, l30, y30, z30⟩, st30⟩ := X28.virtualBack hx (y := (⟨"java/lang/String", "length", "()I"⟩ : MethodName)) (z := (⟨"java/lang/String", "length", "()I"⟩ : MethodName)) hown (mvT hZ (hw _ (List.mem_of_getElem? (i := 54) rfl))) (mvT hZ (hw _ (List.mem_of_getElem? (i := 55) rfl))) (notFace_of_selects (args := #[]) (mvT hZ (hw _ (List.mem_of_getElem? (i := 57) rfl)))) (mvT hZ (hw _ (List.mem_of_getElem? (i := 57) rfl))) (mvT hZ (hw _ (List.mem_of_getElem? (i := 56) rfl))) (by decide) (backOf (W := 1) (rmLN4 l Z a0 hw [] o1 sv ks [(.int w0), (.int w1), (.int w2), (.int w3)] cs h0 n0 Z0 E_o1 F_value_o1 F_coder_o1 V_sv S29 hcs) hZ (hw _ (List.mem_of_getElem? (i := 58) rfl)) (hw _ (List.mem_of_getElem? (i := 7) rfl)) (by decide) (by decide)) q30a q30c (g := (mkF m 46 #[.val (.ref o0), .val (.ref o1), .val (.int (200 : Int32)), .val (.ref o3), .val (.ref fa), .val (.int (4 : Int32))] [(.ref o1), (.int (4 : Int32))])) rfl (by rw [hml]; rfl) (Steps.refl _) (argsL := []) (rest := [(.int (4 : Int32))]) (lenOf pd__28_29I rfl) rfl (by show 2 * 0 + _ ≤ _; exact Nat.le_of_eq rfl) (hb hby d8_46) (fun _ _ => ⟨rfl, e28, (by decide : 0 + 0 ≤ _), (by decide : 0 + 0 ≤ _)⟩)
  dsimp only [Pt.U, Pt.locs, Pt.cells, Pt.slots] at X30 l30 y30 z30 st30 hQ30
  obtain ⟨rfl, N30q, e30⟩ := hQ30
  obtain ⟨lc30, X30, N30⟩ := own_pack X30 l30 y30 z30 N28 N30q (C := 0) (S' := 0) rfl rfl
  refine own_thr (a := T30.setTop (mkF m 49 #[.val (.ref o0), .val (.ref o1), .val (.int (200 : Int32)), .val (.ref o3), .val (.ref fa), .val (.int (4 : Int32))] [(.int (4 : Int32)), (.int (4 : Int32))])) (fun t kt => st30.trans kt) ?_
  refine own_thr (a := T30.setTop (mkF m 84 #[.val (.ref o0), .val (.ref o1), .val (.int (200 : Int32)), .val (.ref o3), .val (.ref fa), .val (.int (4 : Int32))] [(.ref o1)])) (fun t kt => ?_) ?_
  · show Steps p.tables e below (T30.setTop (mkF m 49 #[.val (.ref o0), .val (.ref o1), .val (.int (200 : Int32)), .val (.ref o3), .val (.ref fa), .val (.int (4 : Int32))] [(.int (4 : Int32)), (.int (4 : Int32))])) _
    refine XS.icmpYes X30.here hx rfl (pc0 := 49) (pc' := 83) rfl (hb hby d8_49) rfl (flt (by decide)).2.1 (by decide) (by decide) ?_
    refine XS.aloadN X30.here hx rfl (hb hby d8_83) rfl rfl ?_
    exact kt
  exact own_end X30 hlk (v := some (.ref o1)) (fun h => by rw [Bd.returns] at h; cases h) (fun fs hr => retA X30 hx Bd.returns rfl rfl (hb hby d8_84) hr) (by rw [e30]; exact ⟨rfl, N30, rfl⟩) (by decide : 0 ≤ _) (by decide : 0 ≤ _)
theorem ef_rmC4 (m : MethodId) (o0 : Addr)  : entryFrame m #[(.ref o0)] 1 = mkF m 0 #[.val (.ref o0)] [] := by first |  (simp [entryFrame, mkF, argsToLocals, Value.category]; done) | rfl
def Q_rmC4 (Z : State) (o0 : Addr) (sv : Addr) (ks : ClassId) (w0 : Int32) (w1 : Int32) (w2 : Int32) (w3 : Int32) (cs : Int32) (fm : Value) (h0 : Heap) (n0 : Nat) (v : Option Value) (h : Heap) (L : List Loc) : Prop := v = some (.ref o0) ∧ Fr n0 L ∧ Keep h0 h []
set_option maxRecDepth 65536 in
set_option maxHeartbeats 40000000 in
theorem rmC4 (l : Launch) (Z : State) (a0 : Array Value) (hw : ∀ d ∈ tables_1, d.before a0 Z = true) (ws : List Jvm.Cond) (o0 : Addr) (sv : Addr) (ks : ClassId) (w0 : Int32) (w1 : Int32) (w2 : Int32) (w3 : Int32) (cs : Int32) (fm : Value) (h0 : Heap) (n0 : Nat) (Z0 : n0 ≤ h0.size) (E_o0 : Exa Z h0 o0 "java/lang/String") (F_v : Fld Z h0 o0 "java/lang/String" "value" "[B" (.ref sv)) (F_c : Fld Z h0 o0 "java/lang/String" "coder" "B" (.int (0 : Int32))) (V_sv : Arv Z h0 sv ks .byte (4 : Int32) [(.int w0), (.int w1), (.int w2), (.int w3)] (.int (0 : Int32))) (S_cs : Sta Z Z.heap "java/lang/String" "COMPACT_STRINGS" "Z" (.int cs)) (hcs : ¬ cs = (0 : Int32)) (S_fm : Sta Z Z.heap "jdk/internal/util/Preconditions" "SIOOBE_FORMATTER" "Ljava/util/function/BiFunction;" fm) (hfm : fm.isRef = true) (hO : Old Z n0 h0) (Hw0 : 32 ≤ w0.toInt ∧ w0.toInt ≤ 126) (Hw1 : 32 ≤ w1.toInt ∧ w1.toInt ≤ 126) (Hw2 : 32 ≤ w2.toInt ∧ w2.toInt ≤ 126) (Hw3 : 32 ≤ w3.toInt ∧ w3.toInt ≤ 126) :
    MetFree l (⟨"com/example/chronoshard/chronoshard/model/Limits", "checkInstanceId", "(Ljava/lang/String;)Ljava/lang/String;"⟩ : MethodName) (head1 (Jvm.Cond.code (⟨"com/example/chronoshard/chronoshard/model/Limits", "checkInstanceId", "(Ljava/lang/String;)Ljava/lang/String;"⟩ : MethodName) prog_8_method_5_code 1 (some (.object "java/lang/String")) :: ws) ({ frames := 5, cells := 4, slots := 168, locals := 3076 } : Room)) (fun a U => a = #[(.ref o0)] ∧ Z.Warmed39 U.vm ∧ U.heap = h0) (fun _ _ _ _ _ => True) (fun _ U o U' => ∃ v L, o = .returned v ∧ Q_rmC4 Z o0 sv ks w0 w1 w2 w3 cs fm h0 n0 v U'.heap L ∧ ReturnedEndW U o U' L ({ frames := 5, cells := 4, slots := 168, locals := 3076 } : Room).cells ({ frames := 5, cells := 4, slots := 168, locals := 3076 } : Room).slots) := by
  refine MetFree.of_bodySF (plainFor_of_name pn_com_example_chronoshard_chronoshard_model_Limits) hisR ?_
  intro p e s m args below meth c s₁ Bd hml0 hP hK
  obtain ⟨rfl, hZ, hh⟩ := hP
  have hx := Bd.exec
  have hby := Bd.bytes
  have hml : c.maxLocals = 1 := hml0
  have hown : s.vm.findClass "com/example/chronoshard/chronoshard/model/Limits" = some m.cls := findClass_of_methodNamed Bd.named
  have hnm := (name_of_methodNamed Bd.named Bd.method).1
  have hlk := Bd.notSynchronized
  have X0 : Stand p l e ({ frames := 5, cells := 4, slots := 168, locals := 3076 } : Room) (s.setVm s.vm) m #[(.ref o0)] below meth c s₁ [] 0 0 := Stand.of_body Bd
  have e0 : s₁.heap = h0 := by rw [← hh, Bd.state]; rfl
  have N0 := Fr.nil n0
  show own_GW p.tables e below s (Q_rmC4 Z o0 sv ks w0 w1 w2 w3 cs fm h0 n0) ({ frames := 5, cells := 4, slots := 168, locals := 3076 } : Room).cells ({ frames := 5, cells := 4, slots := 168, locals := 3076 } : Room).slots _
  have hS0 : s.Since s.vm 0 := (State.WarmedH.refl s).since 0
  refine own_thrW (a := s₁.setTop (mkF m 0 #[.val (.ref o0)] [])) (fun t kt => castTop (ef_rmC4 m o0) kt) ?_
  obtain ⟨b1, T1, h1, kk1, X1, e1, E1, hS1, hk1, hZ1, hown1, st1⟩ := ldcS X0 hx hZ hown (hw _ (List.mem_of_getElem? (i := 35) rfl)) (fun a ha => hw a (own_sa a ha)) e0 hS0 (Nat.zero_le _) (g := (mkF m 0 #[.val (.ref o0)] [])) rfl (hb hby d7_0) (n := 44) (by decide) (by decide) (by decide : 0 + 2 ≤ _) (by decide : 0 + 48 ≤ _)
  have Z2 : n0 ≤ h1.size := Nat.le_trans Z0 E1.1
  have Z2h : h0.size ≤ h1.size := Nat.le_trans (Nat.le_refl h0.size) E1.1
  refine own_thrW (a := T1.setTop (mkF m 2 #[.val (.ref o0)] [(.ref b1)])) (fun t kt => st1 t kt) ?_
  refine own_thrW (a := T1.setTop (mkF m 6 #[.val (.ref o0)] [(.int (200 : Int32)), (.ref o0), (.ref b1)])) (fun t kt => ?_) ?_
  · show Steps p.tables e below (T1.setTop (mkF m 2 #[.val (.ref o0)] [(.ref b1)])) _
    refine XS.aloadN X1.here hx rfl (hb hby d7_2) rfl rfl ?_
    refine XS.sipush X1.here hx rfl (hb hby d7_3) ?_
    exact kt
  obtain ⟨b3, T3, h3, kk3, X3, e3, E3, hS3, hk3, hZ3, hown3, st3⟩ := ldcS X1 hx hZ1 hown1 (hw _ (List.mem_of_getElem? (i := 38) rfl)) (fun a ha => hw a (own_sa a ha)) e1 hS1 hk1 (g := (mkF m 6 #[.val (.ref o0)] [(.int (200 : Int32)), (.ref o0), (.ref b1)])) rfl (hb hby d7_6) (n := 116) (by decide) (by decide) (by decide : 2 + 2 ≤ _) (by decide : 48 + 120 ≤ _)
  have Z4 : n0 ≤ h3.size := Nat.le_trans Z2 E3.1
  have Z4h : h0.size ≤ h3.size := Nat.le_trans Z2h E3.1
  refine own_thrW (a := T3.setTop (mkF m 8 #[.val (.ref o0)] [(.ref b3), (.int (200 : Int32)), (.ref o0), (.ref b1)])) (fun t kt => st3 t kt) ?_
  obtain ⟨fa, cK, hfn, st5⟩ := Jvm.LamKit.own_site X3 hx hZ3 (x := (⟨"com/example/chronoshard/chronoshard/model/Limits", "checkInstanceId", "(Ljava/lang/String;)Ljava/lang/String;"⟩ : MethodName)) (σ := own_sig) (by rw [State.methodNamed?_setVm hS3.1.alike]; exact Bd.named) (hw _ (List.mem_of_getElem? (i := 39) rfl)) rfl (g := (mkF m 8 #[.val (.ref o0)] [(.ref b3), (.int (200 : Int32)), (.ref o0), (.ref b1)])) rfl rfl (by rw [hml]; rfl) (hb hby d7_8) (by show 2 * 0 + 4 + 3072 ≤ _; decide)
  refine own_thrW (a := T3.setTop (mkF m 13 #[.val (.ref o0)] [(.ref fa), (.ref b3), (.int (200 : Int32)), (.ref o0), (.ref b1)])) (fun t kt => st5 t kt) ?_
  obtain ⟨_, _, ⟨T6, L6, k6, n6⟩, -, X6, ⟨Lc6, hQ6, l6, y6, z6⟩, st6⟩ := Jvm.LawKit.callS X3 hx (y := (⟨"com/example/chronoshard/chronoshard/model/Limits", "checkText", "(Ljava/lang/String;Ljava/lang/String;ILjava/lang/String;Ljava/util/function/IntPredicate;)Ljava/lang/String;"⟩ : MethodName)) hown3 (mvT hZ3 (hw _ (List.mem_of_getElem? (i := 42) rfl))) (mvT hZ3 (hw _ (List.mem_of_getElem? (i := 43) rfl))) (mvT hZ3 (hw _ (List.mem_of_getElem? (i := 33) rfl))) (mvT hZ3 (hw _ (List.mem_of_getElem? (i := 44) rfl))) (by decide) (backOf (W := 0) (rmT4 l Z a0 hw [] b1 o0 b3 fa sv ks w0 w1 w2 w3 cs fm cK h3 n0 Z4 ((E_o0.ext E1).ext E3) ((F_v.ext E1).ext E3) ((F_c.ext E1).ext E3) ((V_sv.ext E1).ext E3) S_cs hcs S_fm hfm ((hO.ext E1).ext E3) hfn Hw0 Hw1 Hw2 Hw3) hZ3 (hw _ (List.mem_of_getElem? (i := 44) rfl)) (hw _ (List.mem_of_getElem? (i := 33) rfl)) (by decide) (by decide)) (g := (mkF m 13 #[.val (.ref o0)] [(.ref fa), (.ref b3), (.int (200 : Int32)), (.ref o0), (.ref b1)])) rfl (by rw [hml]; rfl) (argsL := [(.ref b1), (.ref o0), (.int (200 : Int32)), (.ref b3), (.ref fa)]) (rest := []) (lenOf pd__28Ljava_2flang_2fString_3bLjava_2flang_2fString_3bILjava_2flang_2fString_3bLjava_2futil_2ffunction_2fIntPredicate_3b_29Ljava_2flang_2fString_3b rfl) rfl (by show 2 * 0 + _ ≤ _; exact Nat.le_of_eq rfl) (hb hby d7_13) (fun _ _ => ⟨rfl, e3, (by decide : 4 + 0 ≤ _), (by decide : 168 + 0 ≤ _)⟩)
  dsimp only [Pt.U, Pt.locs, Pt.cells, Pt.slots] at X6 l6 y6 z6 st6 hQ6
  obtain ⟨rfl, N6q, e6⟩ := hQ6
  obtain ⟨lc6, X6, N6⟩ := own_pack X6 l6 y6 z6 N0 N6q (C := 4) (S' := 168) rfl rfl
  refine own_thrW (a := T6.setTop (mkF m 16 #[.val (.ref o0)] [(.ref o0)])) (fun t kt => st6 t kt) ?_
  exact own_endW X6 hS3 (by rw [e6]; exact hk3) hlk (v := some (.ref o0)) (fun h => by rw [Bd.returns] at h; cases h) (fun fs hr => retA X6 hx Bd.returns rfl rfl (hb hby d7_16) hr) (by rw [e6]; exact ⟨rfl, N6, (((Keep.refl h0 []).ext E1).ext E3)⟩) (by decide : 4 ≤ _) (by decide : 168 ≤ _)
theorem own_not0 {s : State} {args : Array Value} {C n d : String} {cs : Int32} (ev : (Term.static C n d).eval args s none [] s = some (.int cs)) (h : (Jvm.Cond.not (.eq (.static C n d) (.int 0))).value args s none s [] = some true) : ¬ cs = (0 : Int32) := by
  have h1 := not_v h
  intro e
  have h2 : (Jvm.Cond.eq (.static C n d) (.int 0)).value args s none s [] = some true := eq_i ev (Term.int_eval 0) (by rw [e])
  rw [h2] at h1
  cases h1
theorem pd__28C_29Ljava_2flang_2fString_3b : parseMethodDescriptor "(C)Ljava/lang/String;" = some ⟨[.char], some (.object "java/lang/String")⟩ := by decide +kernel
theorem pd__28Ljava_2flang_2fString_3b_29Ljava_2flang_2fString_3b : parseMethodDescriptor "(Ljava/lang/String;)Ljava/lang/String;" = some ⟨[(.object "java/lang/String")], some (.object "java/lang/String")⟩ := by decide +kernel
theorem pd__28_5bC_29V : parseMethodDescriptor "([C)V" = some ⟨[(.array .char)], none⟩ := by decide +kernel
theorem ef_rm0 (m : MethodId) (nn : Int32) (pa : Int32) (pb : Int32) (pg : Int32) (pd : Int32)  : entryFrame m #[(.int nn), (.int pa), (.int pb), (.int pg), (.int pd)] maxLocals = mkF m 0 #[.val (.int nn), .val (.int pa), .val (.int pb), .val (.int pg), .val (.int pd), .unset, .unset, .unset, .unset, .unset, .unset, .unset] [] := by first |  (simp [entryFrame, mkF, argsToLocals, Value.category, maxLocals]; done) | rfl
def Q0 (Z : State) (nn : Int32) (pa : Int32) (pb : Int32) (pg : Int32) (pd : Int32) (cs : Int32) (fm : Value) (h0 : Heap) (n0 : Nat) (v : Option Value) (h : Heap) (L : List Loc) : Prop := v = some (.int (1 : Int32)) ∧ Fr n0 L
set_option maxRecDepth 65536 in
set_option maxHeartbeats 40000000 in
theorem rm0 (l : Launch) (Z : State) (a0 : Array Value) (hw : ∀ d ∈ tables_1, d.before a0 Z = true) (ws : List Jvm.Cond) (nn : Int32) (pa : Int32) (pb : Int32) (pg : Int32) (pd : Int32) (cs : Int32) (fm : Value) (h0 : Heap) (n0 : Nat) (Z0 : n0 ≤ h0.size) (S_cs : Sta Z Z.heap "java/lang/String" "COMPACT_STRINGS" "Z" (.int cs)) (hcs : ¬ cs = (0 : Int32)) (S_fm : Sta Z Z.heap "jdk/internal/util/Preconditions" "SIOOBE_FORMATTER" "Ljava/util/function/BiFunction;" fm) (hfm : fm.isRef = true) (hO : Old Z n0 h0) :
    MetFree l x (head1 (Jvm.Cond.code x code maxLocals ret :: ws) room_1) (fun a U => a = #[(.int nn), (.int pa), (.int pb), (.int pg), (.int pd)] ∧ Z.Warmed39 U.vm ∧ U.heap = h0) (fun _ _ _ _ _ => True) (fun _ U o U' => ∃ v L, o = .returned v ∧ Q0 Z nn pa pb pg pd cs fm h0 n0 v U'.heap L ∧ ReturnedEndW U o U' L room_1.cells room_1.slots) := by
  refine MetFree.of_bodySF (plainFor_of_name pn_com_example_chronoshard_chronoshard_model_LimitsCheckInstanceIdPinLaw) hisR ?_
  intro p e s m args below meth c s₁ Bd hml0 hP hK
  obtain ⟨rfl, hZ, hh⟩ := hP
  have hx := Bd.exec
  have hby := Bd.bytes
  have hml : c.maxLocals = 12 := hml0
  have hown : s.vm.findClass "com/example/chronoshard/chronoshard/model/LimitsCheckInstanceIdPinLaw" = some m.cls := findClass_of_methodNamed Bd.named
  have hnm := (name_of_methodNamed Bd.named Bd.method).1
  have hlk := Bd.notSynchronized
  have X0 : Stand p l e room_1 (s.setVm s.vm) m #[(.int nn), (.int pa), (.int pb), (.int pg), (.int pd)] below meth c s₁ [] 0 0 := Stand.of_body Bd
  have e0 : s₁.heap = h0 := by rw [← hh, Bd.state]; rfl
  have N0 := Fr.nil n0
  show own_GW p.tables e below s (Q0 Z nn pa pb pg pd cs fm h0 n0) room_1.cells room_1.slots _
  have hS0 : s.Since s.vm 0 := (State.WarmedH.refl s).since 0
  refine own_thrW (a := s₁.setTop (mkF m 0 #[.val (.int nn), .val (.int pa), .val (.int pb), .val (.int pg), .val (.int pd), .unset, .unset, .unset, .unset, .unset, .unset, .unset] [])) (fun t kt => castTop (ef_rm0 m nn pa pb pg pd) kt) ?_
  refine own_thrW (a := s₁.setTop (mkF m 7 #[.val (.int nn), .val (.int pa), .val (.int pb), .val (.int pg), .val (.int pd), .val (.int ((1 : Int32) + (nn &&& (3 : Int32)))), .unset, .unset, .unset, .unset, .unset, .unset] [])) (fun t kt => ?_) ?_
  · show Steps p.tables e below (s₁.setTop (mkF m 0 #[.val (.int nn), .val (.int pa), .val (.int pb), .val (.int pg), .val (.int pd), .unset, .unset, .unset, .unset, .unset, .unset, .unset] [])) _
    refine XS.iconst X0.here hx rfl (hb hby at_0) ?_
    refine XS.iloadN X0.here hx rfl (hb hby at_1) rfl ?_
    refine XS.iconst X0.here hx rfl (hb hby at_2) ?_
    refine XS.iand X0.here hx rfl (hb hby at_3) rfl ?_
    refine XS.iadd X0.here hx rfl (hb hby at_4) rfl ?_
    refine XS.istore X0.here hx rfl (hb hby at_5) rfl (l' := #[.val (.int nn), .val (.int pa), .val (.int pb), .val (.int pg), .val (.int pd), .val (.int ((1 : Int32) + (nn &&& (3 : Int32)))), .unset, .unset, .unset, .unset, .unset, .unset]) rfl ?_
    exact kt
  obtain ⟨ln, e_ln⟩ : ∃ z, z = ((1 : Int32) + (nn &&& (3 : Int32))) := ⟨_, rfl⟩
  rw [← e_ln]
  have Hl : ln = 1 ∨ ln = 2 ∨ ln = 3 ∨ ln = 4 := by rw [e_ln]; exact own_ln _
  refine own_thrW (a := s₁.setTop (mkF m 8 #[.val (.int nn), .val (.int pa), .val (.int pb), .val (.int pg), .val (.int pd), .val (.int ln), .unset, .unset, .unset, .unset, .unset, .unset] [(.int pa)])) (fun t kt => ?_) ?_
  · show Steps p.tables e below (s₁.setTop (mkF m 7 #[.val (.int nn), .val (.int pa), .val (.int pb), .val (.int pg), .val (.int pd), .val (.int ln), .unset, .unset, .unset, .unset, .unset, .unset] [])) _
    refine XS.iloadN X0.here hx rfl (hb hby at_7) rfl ?_
    exact kt
  obtain ⟨_, _, ⟨T1, L1, k1, n1⟩, -, X1, ⟨Lc1, hQ1, l1, y1, z1⟩, st1⟩ := Jvm.LawKit.callS X0 hx (y := (⟨"com/example/chronoshard/chronoshard/model/LimitsCheckInstanceIdPinLaw", "printable", "(I)C"⟩ : MethodName)) hown (mvT hZ (hw _ (List.mem_of_getElem? (i := 0) rfl))) (mvT hZ (hw _ (List.mem_of_getElem? (i := 1) rfl))) (mvT hZ (hw _ (List.mem_of_getElem? (i := 2) rfl))) (mvT hZ (hw _ (List.mem_of_getElem? (i := 3) rfl))) (by decide) (backOf (W := 0) (rmP l Z a0 hw [] pa h0 n0 Z0) hZ (hw _ (List.mem_of_getElem? (i := 3) rfl)) (hw _ (List.mem_of_getElem? (i := 2) rfl)) (by decide) (by decide)) (g := (mkF m 8 #[.val (.int nn), .val (.int pa), .val (.int pb), .val (.int pg), .val (.int pd), .val (.int ln), .unset, .unset, .unset, .unset, .unset, .unset] [(.int pa)])) rfl (by rw [hml]; rfl) (argsL := [(.int pa)]) (rest := []) (lenOf pd__28I_29C rfl) rfl (by show 2 * 0 + _ ≤ _; exact Nat.le_of_eq rfl) (hb hby at_8) (fun _ _ => ⟨rfl, e0, (by decide : 0 + 0 ≤ _), (by decide : 0 + 0 ≤ _)⟩)
  dsimp only [Pt.U, Pt.locs, Pt.cells, Pt.slots] at X1 l1 y1 z1 st1 hQ1
  obtain ⟨rfl, N1q, e1⟩ := hQ1
  obtain ⟨lc1, X1, N1⟩ := own_pack X1 l1 y1 z1 N0 N1q (C := 0) (S' := 0) rfl rfl
  refine own_thrW (a := T1.setTop (mkF m 11 #[.val (.int nn), .val (.int pa), .val (.int pb), .val (.int pg), .val (.int pd), .val (.int ln), .unset, .unset, .unset, .unset, .unset, .unset] [(.int (f_rmP pa))])) (fun t kt => st1 t kt) ?_
  refine own_thrW (a := T1.setTop (mkF m 13 #[.val (.int nn), .val (.int pa), .val (.int pb), .val (.int pg), .val (.int pd), .val (.int ln), .val (.int (f_rmP pa)), .unset, .unset, .unset, .unset, .unset] [])) (fun t kt => ?_) ?_
  · show Steps p.tables e below (T1.setTop (mkF m 11 #[.val (.int nn), .val (.int pa), .val (.int pb), .val (.int pg), .val (.int pd), .val (.int ln), .unset, .unset, .unset, .unset, .unset, .unset] [(.int (f_rmP pa))])) _
    refine XS.istore X1.here hx rfl (hb hby at_11) rfl (l' := #[.val (.int nn), .val (.int pa), .val (.int pb), .val (.int pg), .val (.int pd), .val (.int ln), .val (.int (f_rmP pa)), .unset, .unset, .unset, .unset, .unset]) rfl ?_
    exact kt
  obtain ⟨w0, e_w0⟩ : ∃ z, z = (f_rmP pa) := ⟨_, rfl⟩
  rw [← e_w0]
  have Hw0 : 32 ≤ w0.toInt ∧ w0.toInt ≤ 126 := by rw [e_w0]; exact own_pr _
  refine own_thrW (a := T1.setTop (mkF m 14 #[.val (.int nn), .val (.int pa), .val (.int pb), .val (.int pg), .val (.int pd), .val (.int ln), .val (.int w0), .unset, .unset, .unset, .unset, .unset] [(.int pb)])) (fun t kt => ?_) ?_
  · show Steps p.tables e below (T1.setTop (mkF m 13 #[.val (.int nn), .val (.int pa), .val (.int pb), .val (.int pg), .val (.int pd), .val (.int ln), .val (.int w0), .unset, .unset, .unset, .unset, .unset] [])) _
    refine XS.iloadN X1.here hx rfl (hb hby at_13) rfl ?_
    exact kt
  obtain ⟨_, _, ⟨T2, L2, k2, n2⟩, -, X2, ⟨Lc2, hQ2, l2, y2, z2⟩, st2⟩ := Jvm.LawKit.callS X1 hx (y := (⟨"com/example/chronoshard/chronoshard/model/LimitsCheckInstanceIdPinLaw", "printable", "(I)C"⟩ : MethodName)) hown (mvT hZ (hw _ (List.mem_of_getElem? (i := 0) rfl))) (mvT hZ (hw _ (List.mem_of_getElem? (i := 1) rfl))) (mvT hZ (hw _ (List.mem_of_getElem? (i := 2) rfl))) (mvT hZ (hw _ (List.mem_of_getElem? (i := 3) rfl))) (by decide) (backOf (W := 0) (rmP l Z a0 hw [] pb h0 n0 Z0) hZ (hw _ (List.mem_of_getElem? (i := 3) rfl)) (hw _ (List.mem_of_getElem? (i := 2) rfl)) (by decide) (by decide)) (g := (mkF m 14 #[.val (.int nn), .val (.int pa), .val (.int pb), .val (.int pg), .val (.int pd), .val (.int ln), .val (.int w0), .unset, .unset, .unset, .unset, .unset] [(.int pb)])) rfl (by rw [hml]; rfl) (argsL := [(.int pb)]) (rest := []) (lenOf pd__28I_29C rfl) rfl (by show 2 * 0 + _ ≤ _; exact Nat.le_of_eq rfl) (hb hby at_14) (fun _ _ => ⟨rfl, e1, (by decide : 0 + 0 ≤ _), (by decide : 0 + 0 ≤ _)⟩)
  dsimp only [Pt.U, Pt.locs, Pt.cells, Pt.slots] at X2 l2 y2 z2 st2 hQ2
  obtain ⟨rfl, N2q, e2⟩ := hQ2
  obtain ⟨lc2, X2, N2⟩ := own_pack X2 l2 y2 z2 N1 N2q (C := 0) (S' := 0) rfl rfl
  refine own_thrW (a := T2.setTop (mkF m 17 #[.val (.int nn), .val (.int pa), .val (.int pb), .val (.int pg), .val (.int pd), .val (.int ln), .val (.int w0), .unset, .unset, .unset, .unset, .unset] [(.int (f_rmP pb))])) (fun t kt => st2 t kt) ?_
  refine own_thrW (a := T2.setTop (mkF m 19 #[.val (.int nn), .val (.int pa), .val (.int pb), .val (.int pg), .val (.int pd), .val (.int ln), .val (.int w0), .val (.int (f_rmP pb)), .unset, .unset, .unset, .unset] [])) (fun t kt => ?_) ?_
  · show Steps p.tables e below (T2.setTop (mkF m 17 #[.val (.int nn), .val (.int pa), .val (.int pb), .val (.int pg), .val (.int pd), .val (.int ln), .val (.int w0), .unset, .unset, .unset, .unset, .unset] [(.int (f_rmP pb))])) _
    refine XS.istore X2.here hx rfl (hb hby at_17) rfl (l' := #[.val (.int nn), .val (.int pa), .val (.int pb), .val (.int pg), .val (.int pd), .val (.int ln), .val (.int w0), .val (.int (f_rmP pb)), .unset, .unset, .unset, .unset]) rfl ?_
    exact kt
  obtain ⟨w1, e_w1⟩ : ∃ z, z = (f_rmP pb) := ⟨_, rfl⟩
  rw [← e_w1]
  have Hw1 : 32 ≤ w1.toInt ∧ w1.toInt ≤ 126 := by rw [e_w1]; exact own_pr _
  refine own_thrW (a := T2.setTop (mkF m 20 #[.val (.int nn), .val (.int pa), .val (.int pb), .val (.int pg), .val (.int pd), .val (.int ln), .val (.int w0), .val (.int w1), .unset, .unset, .unset, .unset] [(.int pg)])) (fun t kt => ?_) ?_
  · show Steps p.tables e below (T2.setTop (mkF m 19 #[.val (.int nn), .val (.int pa), .val (.int pb), .val (.int pg), .val (.int pd), .val (.int ln), .val (.int w0), .val (.int w1), .unset, .unset, .unset, .unset] [])) _
    refine XS.iloadN X2.here hx rfl (hb hby at_19) rfl ?_
    exact kt
  obtain ⟨_, _, ⟨T3, L3, k3, n3⟩, -, X3, ⟨Lc3, hQ3, l3, y3, z3⟩, st3⟩ := Jvm.LawKit.callS X2 hx (y := (⟨"com/example/chronoshard/chronoshard/model/LimitsCheckInstanceIdPinLaw", "printable", "(I)C"⟩ : MethodName)) hown (mvT hZ (hw _ (List.mem_of_getElem? (i := 0) rfl))) (mvT hZ (hw _ (List.mem_of_getElem? (i := 1) rfl))) (mvT hZ (hw _ (List.mem_of_getElem? (i := 2) rfl))) (mvT hZ (hw _ (List.mem_of_getElem? (i := 3) rfl))) (by decide) (backOf (W := 0) (rmP l Z a0 hw [] pg h0 n0 Z0) hZ (hw _ (List.mem_of_getElem? (i := 3) rfl)) (hw _ (List.mem_of_getElem? (i := 2) rfl)) (by decide) (by decide)) (g := (mkF m 20 #[.val (.int nn), .val (.int pa), .val (.int pb), .val (.int pg), .val (.int pd), .val (.int ln), .val (.int w0), .val (.int w1), .unset, .unset, .unset, .unset] [(.int pg)])) rfl (by rw [hml]; rfl) (argsL := [(.int pg)]) (rest := []) (lenOf pd__28I_29C rfl) rfl (by show 2 * 0 + _ ≤ _; exact Nat.le_of_eq rfl) (hb hby at_20) (fun _ _ => ⟨rfl, e2, (by decide : 0 + 0 ≤ _), (by decide : 0 + 0 ≤ _)⟩)
  dsimp only [Pt.U, Pt.locs, Pt.cells, Pt.slots] at X3 l3 y3 z3 st3 hQ3
  obtain ⟨rfl, N3q, e3⟩ := hQ3
  obtain ⟨lc3, X3, N3⟩ := own_pack X3 l3 y3 z3 N2 N3q (C := 0) (S' := 0) rfl rfl
  refine own_thrW (a := T3.setTop (mkF m 23 #[.val (.int nn), .val (.int pa), .val (.int pb), .val (.int pg), .val (.int pd), .val (.int ln), .val (.int w0), .val (.int w1), .unset, .unset, .unset, .unset] [(.int (f_rmP pg))])) (fun t kt => st3 t kt) ?_
  refine own_thrW (a := T3.setTop (mkF m 25 #[.val (.int nn), .val (.int pa), .val (.int pb), .val (.int pg), .val (.int pd), .val (.int ln), .val (.int w0), .val (.int w1), .val (.int (f_rmP pg)), .unset, .unset, .unset] [])) (fun t kt => ?_) ?_
  · show Steps p.tables e below (T3.setTop (mkF m 23 #[.val (.int nn), .val (.int pa), .val (.int pb), .val (.int pg), .val (.int pd), .val (.int ln), .val (.int w0), .val (.int w1), .unset, .unset, .unset, .unset] [(.int (f_rmP pg))])) _
    refine XS.istore X3.here hx rfl (hb hby at_23) rfl (l' := #[.val (.int nn), .val (.int pa), .val (.int pb), .val (.int pg), .val (.int pd), .val (.int ln), .val (.int w0), .val (.int w1), .val (.int (f_rmP pg)), .unset, .unset, .unset]) rfl ?_
    exact kt
  obtain ⟨w2, e_w2⟩ : ∃ z, z = (f_rmP pg) := ⟨_, rfl⟩
  rw [← e_w2]
  have Hw2 : 32 ≤ w2.toInt ∧ w2.toInt ≤ 126 := by rw [e_w2]; exact own_pr _
  refine own_thrW (a := T3.setTop (mkF m 27 #[.val (.int nn), .val (.int pa), .val (.int pb), .val (.int pg), .val (.int pd), .val (.int ln), .val (.int w0), .val (.int w1), .val (.int w2), .unset, .unset, .unset] [(.int pd)])) (fun t kt => ?_) ?_
  · show Steps p.tables e below (T3.setTop (mkF m 25 #[.val (.int nn), .val (.int pa), .val (.int pb), .val (.int pg), .val (.int pd), .val (.int ln), .val (.int w0), .val (.int w1), .val (.int w2), .unset, .unset, .unset] [])) _
    refine XS.iload X3.here hx rfl (hb hby at_25) rfl ?_
    exact kt
  obtain ⟨_, _, ⟨T4, L4, k4, n4⟩, -, X4, ⟨Lc4, hQ4, l4, y4, z4⟩, st4⟩ := Jvm.LawKit.callS X3 hx (y := (⟨"com/example/chronoshard/chronoshard/model/LimitsCheckInstanceIdPinLaw", "printable", "(I)C"⟩ : MethodName)) hown (mvT hZ (hw _ (List.mem_of_getElem? (i := 0) rfl))) (mvT hZ (hw _ (List.mem_of_getElem? (i := 1) rfl))) (mvT hZ (hw _ (List.mem_of_getElem? (i := 2) rfl))) (mvT hZ (hw _ (List.mem_of_getElem? (i := 3) rfl))) (by decide) (backOf (W := 0) (rmP l Z a0 hw [] pd h0 n0 Z0) hZ (hw _ (List.mem_of_getElem? (i := 3) rfl)) (hw _ (List.mem_of_getElem? (i := 2) rfl)) (by decide) (by decide)) (g := (mkF m 27 #[.val (.int nn), .val (.int pa), .val (.int pb), .val (.int pg), .val (.int pd), .val (.int ln), .val (.int w0), .val (.int w1), .val (.int w2), .unset, .unset, .unset] [(.int pd)])) rfl (by rw [hml]; rfl) (argsL := [(.int pd)]) (rest := []) (lenOf pd__28I_29C rfl) rfl (by show 2 * 0 + _ ≤ _; exact Nat.le_of_eq rfl) (hb hby at_27) (fun _ _ => ⟨rfl, e3, (by decide : 0 + 0 ≤ _), (by decide : 0 + 0 ≤ _)⟩)
  dsimp only [Pt.U, Pt.locs, Pt.cells, Pt.slots] at X4 l4 y4 z4 st4 hQ4
  obtain ⟨rfl, N4q, e4⟩ := hQ4
  obtain ⟨lc4, X4, N4⟩ := own_pack X4 l4 y4 z4 N3 N4q (C := 0) (S' := 0) rfl rfl
  refine own_thrW (a := T4.setTop (mkF m 30 #[.val (.int nn), .val (.int pa), .val (.int pb), .val (.int pg), .val (.int pd), .val (.int ln), .val (.int w0), .val (.int w1), .val (.int w2), .unset, .unset, .unset] [(.int (f_rmP pd))])) (fun t kt => st4 t kt) ?_
  refine own_thrW (a := T4.setTop (mkF m 32 #[.val (.int nn), .val (.int pa), .val (.int pb), .val (.int pg), .val (.int pd), .val (.int ln), .val (.int w0), .val (.int w1), .val (.int w2), .val (.int (f_rmP pd)), .unset, .unset] [])) (fun t kt => ?_) ?_
  · show Steps p.tables e below (T4.setTop (mkF m 30 #[.val (.int nn), .val (.int pa), .val (.int pb), .val (.int pg), .val (.int pd), .val (.int ln), .val (.int w0), .val (.int w1), .val (.int w2), .unset, .unset, .unset] [(.int (f_rmP pd))])) _
    refine XS.istore X4.here hx rfl (hb hby at_30) rfl (l' := #[.val (.int nn), .val (.int pa), .val (.int pb), .val (.int pg), .val (.int pd), .val (.int ln), .val (.int w0), .val (.int w1), .val (.int w2), .val (.int (f_rmP pd)), .unset, .unset]) rfl ?_
    exact kt
  obtain ⟨w3, e_w3⟩ : ∃ z, z = (f_rmP pd) := ⟨_, rfl⟩
  rw [← e_w3]
  have Hw3 : 32 ≤ w3.toInt ∧ w3.toInt ≤ 126 := by rw [e_w3]; exact own_pr _
  rcases Hl with hk | hk | hk | hk
  · subst hk
    refine own_thrW (a := T4.setTop (mkF m 40 #[.val (.int nn), .val (.int pa), .val (.int pb), .val (.int pg), .val (.int pd), .val (.int (1 : Int32)), .val (.int w0), .val (.int w1), .val (.int w2), .val (.int w3), .unset, .unset] [(.int w0)])) (fun t kt => ?_) ?_
    · show Steps p.tables e below (T4.setTop (mkF m 32 #[.val (.int nn), .val (.int pa), .val (.int pb), .val (.int pg), .val (.int pd), .val (.int (1 : Int32)), .val (.int w0), .val (.int w1), .val (.int w2), .val (.int w3), .unset, .unset] [])) _
      refine XS.iload X4.here hx rfl (hb hby at_32) rfl ?_
      refine XS.iconst X4.here hx rfl (hb hby at_34) ?_
      refine XS.icmpNo X4.here hx rfl (hb hby at_35) rfl (teq rfl).2 ?_
      refine XS.iload X4.here hx rfl (hb hby at_38) rfl ?_
      exact kt
    obtain ⟨_, _, ⟨T5, L5, k5, n5⟩, -, X5, ⟨Lc5, hQ5, l5, y5, z5⟩, st5⟩ := Jvm.LawKit.callS X4 hx (y := (⟨"java/lang/String", "valueOf", "(C)Ljava/lang/String;"⟩ : MethodName)) hown (mvT hZ (hw _ (List.mem_of_getElem? (i := 5) rfl))) (mvT hZ (hw _ (List.mem_of_getElem? (i := 6) rfl))) (mvT hZ (hw _ (List.mem_of_getElem? (i := 7) rfl))) (mvT hZ (hw _ (List.mem_of_getElem? (i := 8) rfl))) (by decide) (backOf (W := 0) (rmVO l Z a0 hw [] w0 cs h0 n0 Z0 (S_cs.ext hO.2) hcs (own_in Hw0).2) hZ (hw _ (List.mem_of_getElem? (i := 8) rfl)) (hw _ (List.mem_of_getElem? (i := 7) rfl)) (by decide) (by decide)) (g := (mkF m 40 #[.val (.int nn), .val (.int pa), .val (.int pb), .val (.int pg), .val (.int pd), .val (.int (1 : Int32)), .val (.int w0), .val (.int w1), .val (.int w2), .val (.int w3), .unset, .unset] [(.int w0)])) rfl (by rw [hml]; rfl) (argsL := [(.int w0)]) (rest := []) (lenOf pd__28C_29Ljava_2flang_2fString_3b rfl) rfl (by show 2 * 0 + _ ≤ _; exact Nat.le_of_eq rfl) (hb hby at_40) (fun _ _ => ⟨rfl, e4, (by decide : 0 + 2 ≤ _), (by decide : 0 + 5 ≤ _)⟩)
    dsimp only [Pt.U, Pt.locs, Pt.cells, Pt.slots] at X5 l5 y5 z5 st5 hQ5
    obtain ⟨r5, rfl, N5q, K5, o5_0, o5_1, o5_2⟩ := hQ5
    have Z6 : n0 ≤ T5.heap.size := Nat.le_trans Z0 K5.1
    have Z6h : h0.size ≤ T5.heap.size := Nat.le_trans (Nat.le_refl h0.size) K5.1
    obtain ⟨lc5, X5, N5⟩ := own_pack X5 l5 y5 z5 N4 N5q (C := 2) (S' := 5) rfl rfl
    refine own_thrW (a := T5.setTop (mkF m 43 #[.val (.int nn), .val (.int pa), .val (.int pb), .val (.int pg), .val (.int pd), .val (.int (1 : Int32)), .val (.int w0), .val (.int w1), .val (.int w2), .val (.int w3), .unset, .unset] [(.ref r5)])) (fun t kt => st5 t kt) ?_
    obtain ⟨sv5, ks5, o5_v, o5_a⟩ := o5_2
    rw [own_b2 Hw0] at o5_a
    refine own_thrW (a := T5.setTop (mkF m 149 #[.val (.int nn), .val (.int pa), .val (.int pb), .val (.int pg), .val (.int pd), .val (.int (1 : Int32)), .val (.int w0), .val (.int w1), .val (.int w2), .val (.int w3), .val (.ref r5), .unset] [(.ref r5)])) (fun t kt => ?_) ?_
    · show Steps p.tables e below (T5.setTop (mkF m 43 #[.val (.int nn), .val (.int pa), .val (.int pb), .val (.int pg), .val (.int pd), .val (.int (1 : Int32)), .val (.int w0), .val (.int w1), .val (.int w2), .val (.int w3), .unset, .unset] [(.ref r5)])) _
      refine XS.astore X5.here hx rfl (hb hby at_43) rfl rfl (l' := #[.val (.int nn), .val (.int pa), .val (.int pb), .val (.int pg), .val (.int pd), .val (.int (1 : Int32)), .val (.int w0), .val (.int w1), .val (.int w2), .val (.int w3), .val (.ref r5), .unset]) rfl ?_
      refine XS.goto X5.here hx rfl (pc0 := 45) (pc' := 147) rfl (hb hby at_45) (by decide) (by decide) ?_
      refine XS.aload X5.here hx rfl (hb hby at_147) rfl rfl ?_
      exact kt
    obtain ⟨_, _, ⟨T7, L7, k7, n7⟩, -, X7, hSq7, hgr7, ⟨Lc7, hQ7, l7, y7, z7⟩, st7⟩ := callSS X5 hx (y := (⟨"com/example/chronoshard/chronoshard/model/Limits", "checkInstanceId", "(Ljava/lang/String;)Ljava/lang/String;"⟩ : MethodName)) hown (mvT hZ (hw _ (List.mem_of_getElem? (i := 31) rfl))) (mvT hZ (hw _ (List.mem_of_getElem? (i := 32) rfl))) (mvT hZ (hw _ (List.mem_of_getElem? (i := 33) rfl))) (mvT hZ (hw _ (List.mem_of_getElem? (i := 34) rfl))) (by decide) (backOfS (W := 0) (rmC1 l Z a0 hw [] r5 sv5 ks5 w0 cs fm T5.heap n0 Z6 o5_0 o5_v o5_1 o5_a S_cs hcs S_fm hfm (hO.keep K5 all0) Hw0) hZ (hw _ (List.mem_of_getElem? (i := 34) rfl)) (hw _ (List.mem_of_getElem? (i := 33) rfl)) (by decide) (by decide)) (g := (mkF m 149 #[.val (.int nn), .val (.int pa), .val (.int pb), .val (.int pg), .val (.int pd), .val (.int (1 : Int32)), .val (.int w0), .val (.int w1), .val (.int w2), .val (.int w3), .val (.ref r5), .unset] [(.ref r5)])) rfl (by rw [hml]; rfl) (argsL := [(.ref r5)]) (rest := []) (lenOf pd__28Ljava_2flang_2fString_3b_29Ljava_2flang_2fString_3b rfl) rfl (by show 2 * 0 + _ ≤ _; exact Nat.le_of_eq rfl) (hb hby at_149) (fun _ _ => ⟨rfl, rfl, (by decide : 2 + 4 ≤ _), (by decide : 5 + 168 ≤ _)⟩)
    dsimp only [Pt.U, Pt.locs, Pt.cells, Pt.slots] at X7 l7 y7 z7 st7 hQ7 hSq7 hgr7
    have hS7 := hS0.trans hSq7 (Nat.le_trans (Nat.zero_le _) hgr7)
    have hZ7 : Z.Warmed39 (s.setVm T7.vm).vm := State.Warmed39.trans (t := s.setVm s.vm) hZ hSq7.1
    have hown7 : (s.setVm T7.vm).vm.findClass "com/example/chronoshard/chronoshard/model/LimitsCheckInstanceIdPinLaw" = some m.cls := by rw [show (s.setVm T7.vm).vm = T7.vm from rfl, hSq7.1.alike.findClass]; exact hown
    have X7 : Stand p l e _ (s.setVm T7.vm) m _ below meth c T7 _ _ _ := X7
    obtain ⟨rfl, N7q, K7⟩ := hQ7
    have Z8 : n0 ≤ T7.heap.size := Nat.le_trans Z6 K7.1
    have Z8h : h0.size ≤ T7.heap.size := Nat.le_trans Z6h K7.1
    obtain ⟨lc7, X7, N7⟩ := own_pack X7 l7 y7 z7 N5 N7q (C := 6) (S' := 173) rfl rfl
    refine own_thrW (a := T7.setTop (mkF m 152 #[.val (.int nn), .val (.int pa), .val (.int pb), .val (.int pg), .val (.int pd), .val (.int (1 : Int32)), .val (.int w0), .val (.int w1), .val (.int w2), .val (.int w3), .val (.ref r5), .unset] [(.ref r5)])) (fun t kt => st7.trans kt) ?_
    refine own_thrW (a := T7.setTop (mkF m 158 #[.val (.int nn), .val (.int pa), .val (.int pb), .val (.int pg), .val (.int pd), .val (.int (1 : Int32)), .val (.int w0), .val (.int w1), .val (.int w2), .val (.int w3), .val (.ref r5), .val (.ref r5)] [(.ref r5), (.ref r5)])) (fun t kt => ?_) ?_
    · show Steps p.tables e below (T7.setTop (mkF m 152 #[.val (.int nn), .val (.int pa), .val (.int pb), .val (.int pg), .val (.int pd), .val (.int (1 : Int32)), .val (.int w0), .val (.int w1), .val (.int w2), .val (.int w3), .val (.ref r5), .unset] [(.ref r5)])) _
      refine XS.astore X7.here hx rfl (hb hby at_152) rfl rfl (l' := #[.val (.int nn), .val (.int pa), .val (.int pb), .val (.int pg), .val (.int pd), .val (.int (1 : Int32)), .val (.int w0), .val (.int w1), .val (.int w2), .val (.int w3), .val (.ref r5), .val (.ref r5)]) rfl ?_
      refine XS.aload X7.here hx rfl (hb hby at_154) rfl rfl ?_
      refine XS.aload X7.here hx rfl (hb hby at_156) rfl rfl ?_
      exact kt
    have S9 := S_cs.ext ((hO.keep K5 all0).keep K7 all0).2
    refine own_thrW (a := T7.setTop (mkF m 163 #[.val (.int nn), .val (.int pa), .val (.int pb), .val (.int pg), .val (.int pd), .val (.int (1 : Int32)), .val (.int w0), .val (.int w1), .val (.int w2), .val (.int w3), .val (.ref r5), .val (.ref r5)] [(.ref r5)])) (fun t kt => ?_) ?_
    · show Steps p.tables e below (T7.setTop (mkF m 158 #[.val (.int nn), .val (.int pa), .val (.int pb), .val (.int pg), .val (.int pd), .val (.int (1 : Int32)), .val (.int w0), .val (.int w1), .val (.int w2), .val (.int w3), .val (.ref r5), .val (.ref r5)] [(.ref r5), (.ref r5)])) _
      refine Jvm.RoadKit.acmp (g := (mkF m 158 #[.val (.int nn), .val (.int pa), .val (.int pb), .val (.int pg), .val (.int pd), .val (.int (1 : Int32)), .val (.int w0), .val (.int w1), .val (.int w2), .val (.int w3), .val (.ref r5), .val (.ref r5)] [(.ref r5), (.ref r5)])) X7 hx rfl rfl rfl (pc0 := 158) (pc' := 161) (same := true) rfl (hb hby at_158) rfl (decide_eq_true rfl) (by decide) (by decide) ?_
      refine XS.aload X7.here hx rfl (hb hby at_161) rfl rfl ?_
      exact kt
    obtain ⟨cq10, kq10, q10a, q10b, q10c⟩ := isOf hZ7 rfl (o5_0.keep K7)
    obtain ⟨_, _, ⟨T10, L10, k10, n10⟩, -, X10, ⟨Lc10, hQ10, l10, y10, z10⟩, st10⟩ := X7.virtualBack hx (y := (⟨"java/lang/String", "length", "()I"⟩ : MethodName)) (z := (⟨"java/lang/String", "length", "()I"⟩ : MethodName)) hown7 (mvT hZ7 (hw _ (List.mem_of_getElem? (i := 90) rfl))) (mvT hZ7 (hw _ (List.mem_of_getElem? (i := 55) rfl))) (notFace_of_selects (args := #[]) (mvT hZ7 (hw _ (List.mem_of_getElem? (i := 57) rfl)))) (mvT hZ7 (hw _ (List.mem_of_getElem? (i := 57) rfl))) (mvT hZ7 (hw _ (List.mem_of_getElem? (i := 56) rfl))) (by decide) (backOf (W := 0) (rmLN1 l Z a0 hw [] r5 sv5 ks5 [(.int w0)] cs T7.heap n0 Z8 (o5_0.keep K7) (o5_v.keep K7 nin0) (o5_1.keep K7 nin0) (o5_a.keep K7 nin0) S9 hcs) hZ7 (hw _ (List.mem_of_getElem? (i := 58) rfl)) (hw _ (List.mem_of_getElem? (i := 7) rfl)) (by decide) (by decide)) q10a q10c (g := (mkF m 163 #[.val (.int nn), .val (.int pa), .val (.int pb), .val (.int pg), .val (.int pd), .val (.int (1 : Int32)), .val (.int w0), .val (.int w1), .val (.int w2), .val (.int w3), .val (.ref r5), .val (.ref r5)] [(.ref r5)])) rfl (by rw [hml]; rfl) (Steps.refl _) (argsL := []) (rest := []) (lenOf pd__28_29I rfl) rfl (by show 2 * 0 + _ ≤ _; exact Nat.le_of_eq rfl) (hb hby at_163) (fun _ _ => ⟨rfl, rfl, (by decide : 6 + 0 ≤ _), (by decide : 173 + 0 ≤ _)⟩)
    dsimp only [Pt.U, Pt.locs, Pt.cells, Pt.slots] at X10 l10 y10 z10 st10 hQ10
    obtain ⟨rfl, N10q, e10⟩ := hQ10
    obtain ⟨lc10, X10, N10⟩ := own_pack X10 l10 y10 z10 N7 N10q (C := 6) (S' := 173) rfl rfl
    refine own_thrW (a := T10.setTop (mkF m 166 #[.val (.int nn), .val (.int pa), .val (.int pb), .val (.int pg), .val (.int pd), .val (.int (1 : Int32)), .val (.int w0), .val (.int w1), .val (.int w2), .val (.int w3), .val (.ref r5), .val (.ref r5)] [(.int (1 : Int32))])) (fun t kt => st10.trans kt) ?_
    refine own_thrW (a := T10.setTop (mkF m 176 #[.val (.int nn), .val (.int pa), .val (.int pb), .val (.int pg), .val (.int pd), .val (.int (1 : Int32)), .val (.int w0), .val (.int w1), .val (.int w2), .val (.int w3), .val (.ref r5), .val (.ref r5)] [(.int (1 : Int32))])) (fun t kt => ?_) ?_
    · show Steps p.tables e below (T10.setTop (mkF m 166 #[.val (.int nn), .val (.int pa), .val (.int pb), .val (.int pg), .val (.int pd), .val (.int (1 : Int32)), .val (.int w0), .val (.int w1), .val (.int w2), .val (.int w3), .val (.ref r5), .val (.ref r5)] [(.int (1 : Int32))])) _
      refine XS.iload X10.here hx rfl (hb hby at_166) rfl ?_
      refine XS.icmpNo X10.here hx rfl (hb hby at_168) rfl (teq rfl).2 ?_
      refine XS.iconst X10.here hx rfl (hb hby at_171) ?_
      refine XS.goto X10.here hx rfl (pc0 := 172) (pc' := 176) rfl (hb hby at_172) (by decide) (by decide) ?_
      exact kt
    exact own_endW X10 hS7 (by rw [e10]; exact (Nat.le_refl _)) hlk (v := some (.int (1 : Int32))) (fun h => by rw [Bd.returns] at h; cases h) (fun fs hr => retN X10 hx (t := .boolean) Bd.returns (by simp) (hb hby at_176) hr) ⟨rfl, N10⟩ (by decide : 6 ≤ _) (by decide : 173 ≤ _)
  · subst hk
    refine own_thrW (a := T4.setTop (mkF m 54 #[.val (.int nn), .val (.int pa), .val (.int pb), .val (.int pg), .val (.int pd), .val (.int (2 : Int32)), .val (.int w0), .val (.int w1), .val (.int w2), .val (.int w3), .unset, .unset] [])) (fun t kt => ?_) ?_
    · show Steps p.tables e below (T4.setTop (mkF m 32 #[.val (.int nn), .val (.int pa), .val (.int pb), .val (.int pg), .val (.int pd), .val (.int (2 : Int32)), .val (.int w0), .val (.int w1), .val (.int w2), .val (.int w3), .unset, .unset] [])) _
      refine XS.iload X4.here hx rfl (hb hby at_32) rfl ?_
      refine XS.iconst X4.here hx rfl (hb hby at_34) ?_
      refine XS.icmpYes X4.here hx rfl (pc0 := 35) (pc' := 48) rfl (hb hby at_35) rfl (feq (by decide)).2 (by decide) (by decide) ?_
      refine XS.iload X4.here hx rfl (hb hby at_48) rfl ?_
      refine XS.iconst X4.here hx rfl (hb hby at_50) ?_
      refine XS.icmpNo X4.here hx rfl (hb hby at_51) rfl (teq rfl).2 ?_
      exact kt
    obtain ⟨T11, h11, X11, e11, E11, A11, D11, U11, st11⟩ := newO X4 hx hZ hown (hw _ (List.mem_of_getElem? (i := 91) rfl)) (hw _ (List.mem_of_getElem? (i := 15) rfl)) (hw _ (List.mem_of_getElem? (i := 7) rfl)) e4 (g := (mkF m 54 #[.val (.int nn), .val (.int pa), .val (.int pb), .val (.int pg), .val (.int pd), .val (.int (2 : Int32)), .val (.int w0), .val (.int w1), .val (.int w2), .val (.int w3), .unset, .unset] [])) rfl (hb hby at_54) (by decide : 0 + 1 ≤ _) (by decide : 0 + 4 ≤ _)
    obtain ⟨b11, g11⟩ : ∃ z, z = h0.size := ⟨_, rfl⟩
    rw [← g11] at A11 D11 st11 U11
    have g_b11 : n0 ≤ b11 := Nat.le_trans Z0 (Nat.le_of_eq g11.symm)
    have sz_b11 : h0.size ≤ b11 := Nat.le_trans (Nat.le_refl h0.size) (Nat.le_of_eq g11.symm)
    have Z12 : n0 ≤ h11.size := Nat.le_trans Z0 E11.1
    have Z12h : h0.size ≤ h11.size := Nat.le_trans (Nat.le_refl h0.size) E11.1
    have F_value_b11 : Fld Z h11 b11 "java/lang/String" "value" "[B" .null := D11 (Or.inr (hw _ (List.mem_of_getElem? (i := 28) rfl))) (ty := (.array .byte)) (by decide)
    have F_coder_b11 : Fld Z h11 b11 "java/lang/String" "coder" "B" (.int (0 : Int32)) := D11 (Or.inr (hw _ (List.mem_of_getElem? (i := 30) rfl))) (ty := .byte) (by decide)
    refine own_thrW (a := T11.setTop (mkF m 57 #[.val (.int nn), .val (.int pa), .val (.int pb), .val (.int pg), .val (.int pd), .val (.int (2 : Int32)), .val (.int w0), .val (.int w1), .val (.int w2), .val (.int w3), .unset, .unset] [(.ref b11)])) (fun t kt => st11 t kt) ?_
    refine own_thrW (a := T11.setTop (mkF m 59 #[.val (.int nn), .val (.int pa), .val (.int pb), .val (.int pg), .val (.int pd), .val (.int (2 : Int32)), .val (.int w0), .val (.int w1), .val (.int w2), .val (.int w3), .unset, .unset] [(.int (2 : Int32)), (.ref b11), (.ref b11)])) (fun t kt => ?_) ?_
    · show Steps p.tables e below (T11.setTop (mkF m 57 #[.val (.int nn), .val (.int pa), .val (.int pb), .val (.int pg), .val (.int pd), .val (.int (2 : Int32)), .val (.int w0), .val (.int w1), .val (.int w2), .val (.int w3), .unset, .unset] [(.ref b11)])) _
      refine XS.dup X11.here hx rfl (hb hby at_57) rfl rfl ?_
      refine XS.iconst X11.here hx rfl (hb hby at_58) ?_
      exact kt
    obtain ⟨T13, h13, k13, X13, e13, E13, A13, st13⟩ := newP X11 hx hZ (hw _ (List.mem_of_getElem? (i := 92) rfl)) e11 (g := (mkF m 59 #[.val (.int nn), .val (.int pa), .val (.int pb), .val (.int pg), .val (.int pd), .val (.int (2 : Int32)), .val (.int w0), .val (.int w1), .val (.int w2), .val (.int w3), .unset, .unset] [(.int (2 : Int32)), (.ref b11), (.ref b11)])) rfl (hb hby at_59) rfl (by decide) (cap := 2) (by decide) (by decide) (by decide : 1 + 1 ≤ _) (by decide : 4 + 2 ≤ _)
    obtain ⟨b13, g13⟩ : ∃ z, z = h11.size := ⟨_, rfl⟩
    rw [← g13] at A13 st13
    have g_b13 : n0 ≤ b13 := Nat.le_trans Z12 (Nat.le_of_eq g13.symm)
    have sz_b13 : h0.size ≤ b13 := Nat.le_trans Z12h (Nat.le_of_eq g13.symm)
    have lt_b11_b13 : b11 < b13 := Nat.lt_of_lt_of_le A11.lt (Nat.le_of_eq g13.symm)
    have ne_b11_b13 : b11 ≠ b13 := Nat.ne_of_lt lt_b11_b13
    have V_b13 : Arv Z h13 b13 k13 .char (2 : Int32) [(.int (0 : Int32)), (.int (0 : Int32))] (.int (0 : Int32)) := (Arv.new A13 (by decide)).pad (pad_rep [] (.int (0 : Int32)) 2)
    have Z14 : n0 ≤ h13.size := Nat.le_trans Z12 E13.1
    have Z14h : h0.size ≤ h13.size := Nat.le_trans Z12h E13.1
    refine own_thrW (a := T13.setTop (mkF m 61 #[.val (.int nn), .val (.int pa), .val (.int pb), .val (.int pg), .val (.int pd), .val (.int (2 : Int32)), .val (.int w0), .val (.int w1), .val (.int w2), .val (.int w3), .unset, .unset] [(.ref b13), (.ref b11), (.ref b11)])) (fun t kt => st13 t kt) ?_
    refine own_thrW (a := T13.setTop (mkF m 65 #[.val (.int nn), .val (.int pa), .val (.int pb), .val (.int pg), .val (.int pd), .val (.int (2 : Int32)), .val (.int w0), .val (.int w1), .val (.int w2), .val (.int w3), .unset, .unset] [(.int w0), (.int (0 : Int32)), (.ref b13), (.ref b13), (.ref b11), (.ref b11)])) (fun t kt => ?_) ?_
    · show Steps p.tables e below (T13.setTop (mkF m 61 #[.val (.int nn), .val (.int pa), .val (.int pb), .val (.int pg), .val (.int pd), .val (.int (2 : Int32)), .val (.int w0), .val (.int w1), .val (.int w2), .val (.int w3), .unset, .unset] [(.ref b13), (.ref b11), (.ref b11)])) _
      refine XS.dup X13.here hx rfl (hb hby at_61) rfl rfl ?_
      refine XS.iconst X13.here hx rfl (hb hby at_62) ?_
      refine XS.iload X13.here hx rfl (hb hby at_63) rfl ?_
      exact kt
    obtain ⟨cl15, Ar15, q15, S15, M15, H15, G15⟩ := id V_b13
    have hin15 : ¬ ((0 : Int32) < 0 ∨ cl15.slots.size ≤ ((0 : Int32)).toNatClampNeg) := inb_of S15 ⟨by decide, by decide⟩
    obtain ⟨T15, h15, X15, e15, W15, st15⟩ := stC X13 hx hZ e13 Ar15 (j := (0 : Int32)) hin15 (g := (mkF m 65 #[.val (.int nn), .val (.int pa), .val (.int pb), .val (.int pg), .val (.int pd), .val (.int (2 : Int32)), .val (.int w0), .val (.int w1), .val (.int w2), .val (.int w3), .unset, .unset] [(.int w0), (.int (0 : Int32)), (.ref b13), (.ref b13), (.ref b11), (.ref b11)])) rfl rfl (hb hby at_65)
    have Z16 : n0 ≤ h15.size := Nat.le_trans Z14 (Nat.le_of_eq W15.size.symm)
    have Z16h : h0.size ≤ h15.size := Nat.le_trans Z14h (Nat.le_of_eq W15.size.symm)
    have V15 : Arv Z h15 b13 k13 .char (2 : Int32) [(.int (w0.toUInt32.toUInt16.toUInt32.toInt32)), (.int (0 : Int32))] (.int (0 : Int32)) := Arv.set Ar15 q15 S15 M15 H15 G15 (fits_nar_char _) W15 0 rfl (Nat.le_of_ble_eq_true rfl)
    obtain ⟨lc15, X15, N15⟩ := own_pack1 X15 N4 g_b13
    refine own_thrW (a := T15.setTop (mkF m 66 #[.val (.int nn), .val (.int pa), .val (.int pb), .val (.int pg), .val (.int pd), .val (.int (2 : Int32)), .val (.int w0), .val (.int w1), .val (.int w2), .val (.int w3), .unset, .unset] [(.ref b13), (.ref b11), (.ref b11)])) (fun t kt => st15 t kt) ?_
    refine own_thrW (a := T15.setTop (mkF m 70 #[.val (.int nn), .val (.int pa), .val (.int pb), .val (.int pg), .val (.int pd), .val (.int (2 : Int32)), .val (.int w0), .val (.int w1), .val (.int w2), .val (.int w3), .unset, .unset] [(.int w1), (.int (1 : Int32)), (.ref b13), (.ref b13), (.ref b11), (.ref b11)])) (fun t kt => ?_) ?_
    · show Steps p.tables e below (T15.setTop (mkF m 66 #[.val (.int nn), .val (.int pa), .val (.int pb), .val (.int pg), .val (.int pd), .val (.int (2 : Int32)), .val (.int w0), .val (.int w1), .val (.int w2), .val (.int w3), .unset, .unset] [(.ref b13), (.ref b11), (.ref b11)])) _
      refine XS.dup X15.here hx rfl (hb hby at_66) rfl rfl ?_
      refine XS.iconst X15.here hx rfl (hb hby at_67) ?_
      refine XS.iload X15.here hx rfl (hb hby at_68) rfl ?_
      exact kt
    obtain ⟨cl17, Ar17, q17, S17, M17, H17, G17⟩ := id V15
    have hin17 : ¬ ((1 : Int32) < 0 ∨ cl17.slots.size ≤ ((1 : Int32)).toNatClampNeg) := inb_of S17 ⟨by decide, by decide⟩
    obtain ⟨T17, h17, X17, e17, W17, st17⟩ := stC X15 hx hZ e15 Ar17 (j := (1 : Int32)) hin17 (g := (mkF m 70 #[.val (.int nn), .val (.int pa), .val (.int pb), .val (.int pg), .val (.int pd), .val (.int (2 : Int32)), .val (.int w0), .val (.int w1), .val (.int w2), .val (.int w3), .unset, .unset] [(.int w1), (.int (1 : Int32)), (.ref b13), (.ref b13), (.ref b11), (.ref b11)])) rfl rfl (hb hby at_70)
    have Z18 : n0 ≤ h17.size := Nat.le_trans Z16 (Nat.le_of_eq W17.size.symm)
    have Z18h : h0.size ≤ h17.size := Nat.le_trans Z16h (Nat.le_of_eq W17.size.symm)
    have V17 : Arv Z h17 b13 k13 .char (2 : Int32) [(.int (w0.toUInt32.toUInt16.toUInt32.toInt32)), (.int (w1.toUInt32.toUInt16.toUInt32.toInt32))] (.int (0 : Int32)) := Arv.set Ar17 q17 S17 M17 H17 G17 (fits_nar_char _) W17 1 rfl (Nat.le_of_ble_eq_true rfl)
    obtain ⟨lc17, X17, N17⟩ := own_pack1 X17 N15 g_b13
    refine own_thrW (a := T17.setTop (mkF m 71 #[.val (.int nn), .val (.int pa), .val (.int pb), .val (.int pg), .val (.int pd), .val (.int (2 : Int32)), .val (.int w0), .val (.int w1), .val (.int w2), .val (.int w3), .unset, .unset] [(.ref b13), (.ref b11), (.ref b11)])) (fun t kt => st17 t kt) ?_
    have vr19 := V17
    rw [own_i2c Hw0, own_i2c Hw1] at vr19
    have c21 := (((F_value_b11.ext E13).other W15 (Or.inl ne_b11_b13)).other W17 (Or.inl ne_b11_b13))
    have c22 := (((F_coder_b11.ext E13).other W15 (Or.inl ne_b11_b13)).other W17 (Or.inl ne_b11_b13))
    obtain ⟨_, _, ⟨T20, L20, k20, n20⟩, -, X20, ⟨Lc20, hQ20, l20, y20, z20⟩, st20⟩ := X17.specialBack hx (y := (⟨"java/lang/String", "<init>", "([C)V"⟩ : MethodName)) rfl hown (mvT hZ (hw _ (List.mem_of_getElem? (i := 93) rfl))) (mvT hZ (hw _ (List.mem_of_getElem? (i := 94) rfl))) (mvT hZ (hw _ (List.mem_of_getElem? (i := 95) rfl))) (by decide) (StrChars.Road.backV hZ (fun d hd => hw d (own_sw d hd)) (hw _ (List.mem_of_getElem? (i := 15) rfl)) (x := b11) (b := b13) (cs := [w0, w1]) (bs := [(w0.toInt8.toInt32), (w1.toInt8.toInt32)]) (n := 2) (W := 1) g_b11 Z18 (((A11.ext E13).wr W15).wr W17) c21 c22 vr19 (S_cs.ext ((((hO.ext E11).ext E13).wr W15 g_b13).wr W17 g_b13).2) hcs rfl rfl (by decide) (by decide) (own_fa (own_in Hw0) (own_fa (own_in Hw1) own_f0)) rfl (by decide) (by decide)) (g := (mkF m 71 #[.val (.int nn), .val (.int pa), .val (.int pb), .val (.int pg), .val (.int pd), .val (.int (2 : Int32)), .val (.int w0), .val (.int w1), .val (.int w2), .val (.int w3), .unset, .unset] [(.ref b13), (.ref b11), (.ref b11)])) rfl (by rw [hml]; rfl) (Steps.refl _) (a := b11) (argsL := [(.ref b13)]) (rest := [(.ref b11)]) (lenOf pd__28_5bC_29V rfl) rfl (by show 2 * 0 + _ ≤ _; exact Nat.le_of_eq rfl) (hb hby at_71) (fun _ _ => ⟨rfl, e17, (by decide : 2 + 1 ≤ _), (by decide : 6 + 2 ≤ _)⟩)
    dsimp only [Pt.U, Pt.locs, Pt.cells, Pt.slots] at X20 l20 y20 z20 st20 hQ20
    obtain ⟨rfl, N20q, K20, o20_e, o20_c, sv20, ks20, -, -, -, o20_v, o20_A⟩ := hQ20
    have Z23 : n0 ≤ T20.heap.size := Nat.le_trans Z18 K20.1
    have Z23h : h0.size ≤ T20.heap.size := Nat.le_trans Z18h K20.1
    have o20_a : Arv Z T20.heap sv20 ks20 .byte (2 : Int32) [(.int (w0.toInt8.toInt32)), (.int (w1.toInt8.toInt32))] (.int (0 : Int32)) := o20_A
    rw [own_lo Hw0, own_lo Hw1] at o20_a
    obtain ⟨lc20, X20, N20⟩ := own_pack X20 l20 y20 z20 N17 N20q (C := 3) (S' := 8) rfl rfl
    refine own_thrW (a := T20.setTop (mkF m 74 #[.val (.int nn), .val (.int pa), .val (.int pb), .val (.int pg), .val (.int pd), .val (.int (2 : Int32)), .val (.int w0), .val (.int w1), .val (.int w2), .val (.int w3), .unset, .unset] [(.ref b11)])) (fun t kt => st20.trans kt) ?_
    refine own_thrW (a := T20.setTop (mkF m 149 #[.val (.int nn), .val (.int pa), .val (.int pb), .val (.int pg), .val (.int pd), .val (.int (2 : Int32)), .val (.int w0), .val (.int w1), .val (.int w2), .val (.int w3), .val (.ref b11), .unset] [(.ref b11)])) (fun t kt => ?_) ?_
    · show Steps p.tables e below (T20.setTop (mkF m 74 #[.val (.int nn), .val (.int pa), .val (.int pb), .val (.int pg), .val (.int pd), .val (.int (2 : Int32)), .val (.int w0), .val (.int w1), .val (.int w2), .val (.int w3), .unset, .unset] [(.ref b11)])) _
      refine XS.astore X20.here hx rfl (hb hby at_74) rfl rfl (l' := #[.val (.int nn), .val (.int pa), .val (.int pb), .val (.int pg), .val (.int pd), .val (.int (2 : Int32)), .val (.int w0), .val (.int w1), .val (.int w2), .val (.int w3), .val (.ref b11), .unset]) rfl ?_
      refine XS.goto X20.here hx rfl (pc0 := 76) (pc' := 147) rfl (hb hby at_76) (by decide) (by decide) ?_
      refine XS.aload X20.here hx rfl (hb hby at_147) rfl rfl ?_
      exact kt
    have c25 := (((((hO.ext E11).ext E13).wr W15 g_b13).wr W17 g_b13).keep K20 (allS g_b11 all0))
    obtain ⟨_, _, ⟨T24, L24, k24, n24⟩, -, X24, hSq24, hgr24, ⟨Lc24, hQ24, l24, y24, z24⟩, st24⟩ := callSS X20 hx (y := (⟨"com/example/chronoshard/chronoshard/model/Limits", "checkInstanceId", "(Ljava/lang/String;)Ljava/lang/String;"⟩ : MethodName)) hown (mvT hZ (hw _ (List.mem_of_getElem? (i := 31) rfl))) (mvT hZ (hw _ (List.mem_of_getElem? (i := 32) rfl))) (mvT hZ (hw _ (List.mem_of_getElem? (i := 33) rfl))) (mvT hZ (hw _ (List.mem_of_getElem? (i := 34) rfl))) (by decide) (backOfS (W := 0) (rmC2 l Z a0 hw [] b11 sv20 ks20 w0 w1 cs fm T20.heap n0 Z23 o20_e o20_v o20_c o20_a S_cs hcs S_fm hfm c25 Hw0 Hw1) hZ (hw _ (List.mem_of_getElem? (i := 34) rfl)) (hw _ (List.mem_of_getElem? (i := 33) rfl)) (by decide) (by decide)) (g := (mkF m 149 #[.val (.int nn), .val (.int pa), .val (.int pb), .val (.int pg), .val (.int pd), .val (.int (2 : Int32)), .val (.int w0), .val (.int w1), .val (.int w2), .val (.int w3), .val (.ref b11), .unset] [(.ref b11)])) rfl (by rw [hml]; rfl) (argsL := [(.ref b11)]) (rest := []) (lenOf pd__28Ljava_2flang_2fString_3b_29Ljava_2flang_2fString_3b rfl) rfl (by show 2 * 0 + _ ≤ _; exact Nat.le_of_eq rfl) (hb hby at_149) (fun _ _ => ⟨rfl, rfl, (by decide : 3 + 4 ≤ _), (by decide : 8 + 168 ≤ _)⟩)
    dsimp only [Pt.U, Pt.locs, Pt.cells, Pt.slots] at X24 l24 y24 z24 st24 hQ24 hSq24 hgr24
    have hS24 := hS0.trans hSq24 (Nat.le_trans (Nat.zero_le _) hgr24)
    have hZ24 : Z.Warmed39 (s.setVm T24.vm).vm := State.Warmed39.trans (t := s.setVm s.vm) hZ hSq24.1
    have hown24 : (s.setVm T24.vm).vm.findClass "com/example/chronoshard/chronoshard/model/LimitsCheckInstanceIdPinLaw" = some m.cls := by rw [show (s.setVm T24.vm).vm = T24.vm from rfl, hSq24.1.alike.findClass]; exact hown
    have X24 : Stand p l e _ (s.setVm T24.vm) m _ below meth c T24 _ _ _ := X24
    obtain ⟨rfl, N24q, K24⟩ := hQ24
    have Z26 : n0 ≤ T24.heap.size := Nat.le_trans Z23 K24.1
    have Z26h : h0.size ≤ T24.heap.size := Nat.le_trans Z23h K24.1
    obtain ⟨lc24, X24, N24⟩ := own_pack X24 l24 y24 z24 N20 N24q (C := 7) (S' := 176) rfl rfl
    refine own_thrW (a := T24.setTop (mkF m 152 #[.val (.int nn), .val (.int pa), .val (.int pb), .val (.int pg), .val (.int pd), .val (.int (2 : Int32)), .val (.int w0), .val (.int w1), .val (.int w2), .val (.int w3), .val (.ref b11), .unset] [(.ref b11)])) (fun t kt => st24.trans kt) ?_
    refine own_thrW (a := T24.setTop (mkF m 158 #[.val (.int nn), .val (.int pa), .val (.int pb), .val (.int pg), .val (.int pd), .val (.int (2 : Int32)), .val (.int w0), .val (.int w1), .val (.int w2), .val (.int w3), .val (.ref b11), .val (.ref b11)] [(.ref b11), (.ref b11)])) (fun t kt => ?_) ?_
    · show Steps p.tables e below (T24.setTop (mkF m 152 #[.val (.int nn), .val (.int pa), .val (.int pb), .val (.int pg), .val (.int pd), .val (.int (2 : Int32)), .val (.int w0), .val (.int w1), .val (.int w2), .val (.int w3), .val (.ref b11), .unset] [(.ref b11)])) _
      refine XS.astore X24.here hx rfl (hb hby at_152) rfl rfl (l' := #[.val (.int nn), .val (.int pa), .val (.int pb), .val (.int pg), .val (.int pd), .val (.int (2 : Int32)), .val (.int w0), .val (.int w1), .val (.int w2), .val (.int w3), .val (.ref b11), .val (.ref b11)]) rfl ?_
      refine XS.aload X24.here hx rfl (hb hby at_154) rfl rfl ?_
      refine XS.aload X24.here hx rfl (hb hby at_156) rfl rfl ?_
      exact kt
    have S27 := S_cs.ext (c25.keep K24 all0).2
    refine own_thrW (a := T24.setTop (mkF m 163 #[.val (.int nn), .val (.int pa), .val (.int pb), .val (.int pg), .val (.int pd), .val (.int (2 : Int32)), .val (.int w0), .val (.int w1), .val (.int w2), .val (.int w3), .val (.ref b11), .val (.ref b11)] [(.ref b11)])) (fun t kt => ?_) ?_
    · show Steps p.tables e below (T24.setTop (mkF m 158 #[.val (.int nn), .val (.int pa), .val (.int pb), .val (.int pg), .val (.int pd), .val (.int (2 : Int32)), .val (.int w0), .val (.int w1), .val (.int w2), .val (.int w3), .val (.ref b11), .val (.ref b11)] [(.ref b11), (.ref b11)])) _
      refine Jvm.RoadKit.acmp (g := (mkF m 158 #[.val (.int nn), .val (.int pa), .val (.int pb), .val (.int pg), .val (.int pd), .val (.int (2 : Int32)), .val (.int w0), .val (.int w1), .val (.int w2), .val (.int w3), .val (.ref b11), .val (.ref b11)] [(.ref b11), (.ref b11)])) X24 hx rfl rfl rfl (pc0 := 158) (pc' := 161) (same := true) rfl (hb hby at_158) rfl (decide_eq_true rfl) (by decide) (by decide) ?_
      refine XS.aload X24.here hx rfl (hb hby at_161) rfl rfl ?_
      exact kt
    obtain ⟨cq28, kq28, q28a, q28b, q28c⟩ := isOf hZ24 rfl (o20_e.keep K24)
    obtain ⟨_, _, ⟨T28, L28, k28, n28⟩, -, X28, ⟨Lc28, hQ28, l28, y28, z28⟩, st28⟩ := X24.virtualBack hx (y := (⟨"java/lang/String", "length", "()I"⟩ : MethodName)) (z := (⟨"java/lang/String", "length", "()I"⟩ : MethodName)) hown24 (mvT hZ24 (hw _ (List.mem_of_getElem? (i := 90) rfl))) (mvT hZ24 (hw _ (List.mem_of_getElem? (i := 55) rfl))) (notFace_of_selects (args := #[]) (mvT hZ24 (hw _ (List.mem_of_getElem? (i := 57) rfl)))) (mvT hZ24 (hw _ (List.mem_of_getElem? (i := 57) rfl))) (mvT hZ24 (hw _ (List.mem_of_getElem? (i := 56) rfl))) (by decide) (backOf (W := 0) (rmLN2 l Z a0 hw [] b11 sv20 ks20 [(.int w0), (.int w1)] cs T24.heap n0 Z26 (o20_e.keep K24) (o20_v.keep K24 nin0) (o20_c.keep K24 nin0) (o20_a.keep K24 nin0) S27 hcs) hZ24 (hw _ (List.mem_of_getElem? (i := 58) rfl)) (hw _ (List.mem_of_getElem? (i := 7) rfl)) (by decide) (by decide)) q28a q28c (g := (mkF m 163 #[.val (.int nn), .val (.int pa), .val (.int pb), .val (.int pg), .val (.int pd), .val (.int (2 : Int32)), .val (.int w0), .val (.int w1), .val (.int w2), .val (.int w3), .val (.ref b11), .val (.ref b11)] [(.ref b11)])) rfl (by rw [hml]; rfl) (Steps.refl _) (argsL := []) (rest := []) (lenOf pd__28_29I rfl) rfl (by show 2 * 0 + _ ≤ _; exact Nat.le_of_eq rfl) (hb hby at_163) (fun _ _ => ⟨rfl, rfl, (by decide : 7 + 0 ≤ _), (by decide : 176 + 0 ≤ _)⟩)
    dsimp only [Pt.U, Pt.locs, Pt.cells, Pt.slots] at X28 l28 y28 z28 st28 hQ28
    obtain ⟨rfl, N28q, e28⟩ := hQ28
    obtain ⟨lc28, X28, N28⟩ := own_pack X28 l28 y28 z28 N24 N28q (C := 7) (S' := 176) rfl rfl
    refine own_thrW (a := T28.setTop (mkF m 166 #[.val (.int nn), .val (.int pa), .val (.int pb), .val (.int pg), .val (.int pd), .val (.int (2 : Int32)), .val (.int w0), .val (.int w1), .val (.int w2), .val (.int w3), .val (.ref b11), .val (.ref b11)] [(.int (2 : Int32))])) (fun t kt => st28.trans kt) ?_
    refine own_thrW (a := T28.setTop (mkF m 176 #[.val (.int nn), .val (.int pa), .val (.int pb), .val (.int pg), .val (.int pd), .val (.int (2 : Int32)), .val (.int w0), .val (.int w1), .val (.int w2), .val (.int w3), .val (.ref b11), .val (.ref b11)] [(.int (1 : Int32))])) (fun t kt => ?_) ?_
    · show Steps p.tables e below (T28.setTop (mkF m 166 #[.val (.int nn), .val (.int pa), .val (.int pb), .val (.int pg), .val (.int pd), .val (.int (2 : Int32)), .val (.int w0), .val (.int w1), .val (.int w2), .val (.int w3), .val (.ref b11), .val (.ref b11)] [(.int (2 : Int32))])) _
      refine XS.iload X28.here hx rfl (hb hby at_166) rfl ?_
      refine XS.icmpNo X28.here hx rfl (hb hby at_168) rfl (teq rfl).2 ?_
      refine XS.iconst X28.here hx rfl (hb hby at_171) ?_
      refine XS.goto X28.here hx rfl (pc0 := 172) (pc' := 176) rfl (hb hby at_172) (by decide) (by decide) ?_
      exact kt
    exact own_endW X28 hS24 (by rw [e28]; exact (Nat.le_refl _)) hlk (v := some (.int (1 : Int32))) (fun h => by rw [Bd.returns] at h; cases h) (fun fs hr => retN X28 hx (t := .boolean) Bd.returns (by simp) (hb hby at_176) hr) ⟨rfl, N28⟩ (by decide : 7 ≤ _) (by decide : 176 ≤ _)
  · subst hk
    refine own_thrW (a := T4.setTop (mkF m 85 #[.val (.int nn), .val (.int pa), .val (.int pb), .val (.int pg), .val (.int pd), .val (.int (3 : Int32)), .val (.int w0), .val (.int w1), .val (.int w2), .val (.int w3), .unset, .unset] [])) (fun t kt => ?_) ?_
    · show Steps p.tables e below (T4.setTop (mkF m 32 #[.val (.int nn), .val (.int pa), .val (.int pb), .val (.int pg), .val (.int pd), .val (.int (3 : Int32)), .val (.int w0), .val (.int w1), .val (.int w2), .val (.int w3), .unset, .unset] [])) _
      refine XS.iload X4.here hx rfl (hb hby at_32) rfl ?_
      refine XS.iconst X4.here hx rfl (hb hby at_34) ?_
      refine XS.icmpYes X4.here hx rfl (pc0 := 35) (pc' := 48) rfl (hb hby at_35) rfl (feq (by decide)).2 (by decide) (by decide) ?_
      refine XS.iload X4.here hx rfl (hb hby at_48) rfl ?_
      refine XS.iconst X4.here hx rfl (hb hby at_50) ?_
      refine XS.icmpYes X4.here hx rfl (pc0 := 51) (pc' := 79) rfl (hb hby at_51) rfl (feq (by decide)).2 (by decide) (by decide) ?_
      refine XS.iload X4.here hx rfl (hb hby at_79) rfl ?_
      refine XS.iconst X4.here hx rfl (hb hby at_81) ?_
      refine XS.icmpNo X4.here hx rfl (hb hby at_82) rfl (teq rfl).2 ?_
      exact kt
    obtain ⟨T29, h29, X29, e29, E29, A29, D29, U29, st29⟩ := newO X4 hx hZ hown (hw _ (List.mem_of_getElem? (i := 91) rfl)) (hw _ (List.mem_of_getElem? (i := 15) rfl)) (hw _ (List.mem_of_getElem? (i := 7) rfl)) e4 (g := (mkF m 85 #[.val (.int nn), .val (.int pa), .val (.int pb), .val (.int pg), .val (.int pd), .val (.int (3 : Int32)), .val (.int w0), .val (.int w1), .val (.int w2), .val (.int w3), .unset, .unset] [])) rfl (hb hby at_85) (by decide : 0 + 1 ≤ _) (by decide : 0 + 4 ≤ _)
    obtain ⟨b29, g29⟩ : ∃ z, z = h0.size := ⟨_, rfl⟩
    rw [← g29] at A29 D29 st29 U29
    have g_b29 : n0 ≤ b29 := Nat.le_trans Z0 (Nat.le_of_eq g29.symm)
    have sz_b29 : h0.size ≤ b29 := Nat.le_trans (Nat.le_refl h0.size) (Nat.le_of_eq g29.symm)
    have Z30 : n0 ≤ h29.size := Nat.le_trans Z0 E29.1
    have Z30h : h0.size ≤ h29.size := Nat.le_trans (Nat.le_refl h0.size) E29.1
    have F_value_b29 : Fld Z h29 b29 "java/lang/String" "value" "[B" .null := D29 (Or.inr (hw _ (List.mem_of_getElem? (i := 28) rfl))) (ty := (.array .byte)) (by decide)
    have F_coder_b29 : Fld Z h29 b29 "java/lang/String" "coder" "B" (.int (0 : Int32)) := D29 (Or.inr (hw _ (List.mem_of_getElem? (i := 30) rfl))) (ty := .byte) (by decide)
    refine own_thrW (a := T29.setTop (mkF m 88 #[.val (.int nn), .val (.int pa), .val (.int pb), .val (.int pg), .val (.int pd), .val (.int (3 : Int32)), .val (.int w0), .val (.int w1), .val (.int w2), .val (.int w3), .unset, .unset] [(.ref b29)])) (fun t kt => st29 t kt) ?_
    refine own_thrW (a := T29.setTop (mkF m 90 #[.val (.int nn), .val (.int pa), .val (.int pb), .val (.int pg), .val (.int pd), .val (.int (3 : Int32)), .val (.int w0), .val (.int w1), .val (.int w2), .val (.int w3), .unset, .unset] [(.int (3 : Int32)), (.ref b29), (.ref b29)])) (fun t kt => ?_) ?_
    · show Steps p.tables e below (T29.setTop (mkF m 88 #[.val (.int nn), .val (.int pa), .val (.int pb), .val (.int pg), .val (.int pd), .val (.int (3 : Int32)), .val (.int w0), .val (.int w1), .val (.int w2), .val (.int w3), .unset, .unset] [(.ref b29)])) _
      refine XS.dup X29.here hx rfl (hb hby at_88) rfl rfl ?_
      refine XS.iconst X29.here hx rfl (hb hby at_89) ?_
      exact kt
    obtain ⟨T31, h31, k31, X31, e31, E31, A31, st31⟩ := newP X29 hx hZ (hw _ (List.mem_of_getElem? (i := 92) rfl)) e29 (g := (mkF m 90 #[.val (.int nn), .val (.int pa), .val (.int pb), .val (.int pg), .val (.int pd), .val (.int (3 : Int32)), .val (.int w0), .val (.int w1), .val (.int w2), .val (.int w3), .unset, .unset] [(.int (3 : Int32)), (.ref b29), (.ref b29)])) rfl (hb hby at_90) rfl (by decide) (cap := 3) (by decide) (by decide) (by decide : 1 + 1 ≤ _) (by decide : 4 + 3 ≤ _)
    obtain ⟨b31, g31⟩ : ∃ z, z = h29.size := ⟨_, rfl⟩
    rw [← g31] at A31 st31
    have g_b31 : n0 ≤ b31 := Nat.le_trans Z30 (Nat.le_of_eq g31.symm)
    have sz_b31 : h0.size ≤ b31 := Nat.le_trans Z30h (Nat.le_of_eq g31.symm)
    have lt_b29_b31 : b29 < b31 := Nat.lt_of_lt_of_le A29.lt (Nat.le_of_eq g31.symm)
    have ne_b29_b31 : b29 ≠ b31 := Nat.ne_of_lt lt_b29_b31
    have V_b31 : Arv Z h31 b31 k31 .char (3 : Int32) [(.int (0 : Int32)), (.int (0 : Int32)), (.int (0 : Int32))] (.int (0 : Int32)) := (Arv.new A31 (by decide)).pad (pad_rep [] (.int (0 : Int32)) 3)
    have Z32 : n0 ≤ h31.size := Nat.le_trans Z30 E31.1
    have Z32h : h0.size ≤ h31.size := Nat.le_trans Z30h E31.1
    refine own_thrW (a := T31.setTop (mkF m 92 #[.val (.int nn), .val (.int pa), .val (.int pb), .val (.int pg), .val (.int pd), .val (.int (3 : Int32)), .val (.int w0), .val (.int w1), .val (.int w2), .val (.int w3), .unset, .unset] [(.ref b31), (.ref b29), (.ref b29)])) (fun t kt => st31 t kt) ?_
    refine own_thrW (a := T31.setTop (mkF m 96 #[.val (.int nn), .val (.int pa), .val (.int pb), .val (.int pg), .val (.int pd), .val (.int (3 : Int32)), .val (.int w0), .val (.int w1), .val (.int w2), .val (.int w3), .unset, .unset] [(.int w0), (.int (0 : Int32)), (.ref b31), (.ref b31), (.ref b29), (.ref b29)])) (fun t kt => ?_) ?_
    · show Steps p.tables e below (T31.setTop (mkF m 92 #[.val (.int nn), .val (.int pa), .val (.int pb), .val (.int pg), .val (.int pd), .val (.int (3 : Int32)), .val (.int w0), .val (.int w1), .val (.int w2), .val (.int w3), .unset, .unset] [(.ref b31), (.ref b29), (.ref b29)])) _
      refine XS.dup X31.here hx rfl (hb hby at_92) rfl rfl ?_
      refine XS.iconst X31.here hx rfl (hb hby at_93) ?_
      refine XS.iload X31.here hx rfl (hb hby at_94) rfl ?_
      exact kt
    obtain ⟨cl33, Ar33, q33, S33, M33, H33, G33⟩ := id V_b31
    have hin33 : ¬ ((0 : Int32) < 0 ∨ cl33.slots.size ≤ ((0 : Int32)).toNatClampNeg) := inb_of S33 ⟨by decide, by decide⟩
    obtain ⟨T33, h33, X33, e33, W33, st33⟩ := stC X31 hx hZ e31 Ar33 (j := (0 : Int32)) hin33 (g := (mkF m 96 #[.val (.int nn), .val (.int pa), .val (.int pb), .val (.int pg), .val (.int pd), .val (.int (3 : Int32)), .val (.int w0), .val (.int w1), .val (.int w2), .val (.int w3), .unset, .unset] [(.int w0), (.int (0 : Int32)), (.ref b31), (.ref b31), (.ref b29), (.ref b29)])) rfl rfl (hb hby at_96)
    have Z34 : n0 ≤ h33.size := Nat.le_trans Z32 (Nat.le_of_eq W33.size.symm)
    have Z34h : h0.size ≤ h33.size := Nat.le_trans Z32h (Nat.le_of_eq W33.size.symm)
    have V33 : Arv Z h33 b31 k31 .char (3 : Int32) [(.int (w0.toUInt32.toUInt16.toUInt32.toInt32)), (.int (0 : Int32)), (.int (0 : Int32))] (.int (0 : Int32)) := Arv.set Ar33 q33 S33 M33 H33 G33 (fits_nar_char _) W33 0 rfl (Nat.le_of_ble_eq_true rfl)
    obtain ⟨lc33, X33, N33⟩ := own_pack1 X33 N4 g_b31
    refine own_thrW (a := T33.setTop (mkF m 97 #[.val (.int nn), .val (.int pa), .val (.int pb), .val (.int pg), .val (.int pd), .val (.int (3 : Int32)), .val (.int w0), .val (.int w1), .val (.int w2), .val (.int w3), .unset, .unset] [(.ref b31), (.ref b29), (.ref b29)])) (fun t kt => st33 t kt) ?_
    refine own_thrW (a := T33.setTop (mkF m 101 #[.val (.int nn), .val (.int pa), .val (.int pb), .val (.int pg), .val (.int pd), .val (.int (3 : Int32)), .val (.int w0), .val (.int w1), .val (.int w2), .val (.int w3), .unset, .unset] [(.int w1), (.int (1 : Int32)), (.ref b31), (.ref b31), (.ref b29), (.ref b29)])) (fun t kt => ?_) ?_
    · show Steps p.tables e below (T33.setTop (mkF m 97 #[.val (.int nn), .val (.int pa), .val (.int pb), .val (.int pg), .val (.int pd), .val (.int (3 : Int32)), .val (.int w0), .val (.int w1), .val (.int w2), .val (.int w3), .unset, .unset] [(.ref b31), (.ref b29), (.ref b29)])) _
      refine XS.dup X33.here hx rfl (hb hby at_97) rfl rfl ?_
      refine XS.iconst X33.here hx rfl (hb hby at_98) ?_
      refine XS.iload X33.here hx rfl (hb hby at_99) rfl ?_
      exact kt
    obtain ⟨cl35, Ar35, q35, S35, M35, H35, G35⟩ := id V33
    have hin35 : ¬ ((1 : Int32) < 0 ∨ cl35.slots.size ≤ ((1 : Int32)).toNatClampNeg) := inb_of S35 ⟨by decide, by decide⟩
    obtain ⟨T35, h35, X35, e35, W35, st35⟩ := stC X33 hx hZ e33 Ar35 (j := (1 : Int32)) hin35 (g := (mkF m 101 #[.val (.int nn), .val (.int pa), .val (.int pb), .val (.int pg), .val (.int pd), .val (.int (3 : Int32)), .val (.int w0), .val (.int w1), .val (.int w2), .val (.int w3), .unset, .unset] [(.int w1), (.int (1 : Int32)), (.ref b31), (.ref b31), (.ref b29), (.ref b29)])) rfl rfl (hb hby at_101)
    have Z36 : n0 ≤ h35.size := Nat.le_trans Z34 (Nat.le_of_eq W35.size.symm)
    have Z36h : h0.size ≤ h35.size := Nat.le_trans Z34h (Nat.le_of_eq W35.size.symm)
    have V35 : Arv Z h35 b31 k31 .char (3 : Int32) [(.int (w0.toUInt32.toUInt16.toUInt32.toInt32)), (.int (w1.toUInt32.toUInt16.toUInt32.toInt32)), (.int (0 : Int32))] (.int (0 : Int32)) := Arv.set Ar35 q35 S35 M35 H35 G35 (fits_nar_char _) W35 1 rfl (Nat.le_of_ble_eq_true rfl)
    obtain ⟨lc35, X35, N35⟩ := own_pack1 X35 N33 g_b31
    refine own_thrW (a := T35.setTop (mkF m 102 #[.val (.int nn), .val (.int pa), .val (.int pb), .val (.int pg), .val (.int pd), .val (.int (3 : Int32)), .val (.int w0), .val (.int w1), .val (.int w2), .val (.int w3), .unset, .unset] [(.ref b31), (.ref b29), (.ref b29)])) (fun t kt => st35 t kt) ?_
    refine own_thrW (a := T35.setTop (mkF m 106 #[.val (.int nn), .val (.int pa), .val (.int pb), .val (.int pg), .val (.int pd), .val (.int (3 : Int32)), .val (.int w0), .val (.int w1), .val (.int w2), .val (.int w3), .unset, .unset] [(.int w2), (.int (2 : Int32)), (.ref b31), (.ref b31), (.ref b29), (.ref b29)])) (fun t kt => ?_) ?_
    · show Steps p.tables e below (T35.setTop (mkF m 102 #[.val (.int nn), .val (.int pa), .val (.int pb), .val (.int pg), .val (.int pd), .val (.int (3 : Int32)), .val (.int w0), .val (.int w1), .val (.int w2), .val (.int w3), .unset, .unset] [(.ref b31), (.ref b29), (.ref b29)])) _
      refine XS.dup X35.here hx rfl (hb hby at_102) rfl rfl ?_
      refine XS.iconst X35.here hx rfl (hb hby at_103) ?_
      refine XS.iload X35.here hx rfl (hb hby at_104) rfl ?_
      exact kt
    obtain ⟨cl37, Ar37, q37, S37, M37, H37, G37⟩ := id V35
    have hin37 : ¬ ((2 : Int32) < 0 ∨ cl37.slots.size ≤ ((2 : Int32)).toNatClampNeg) := inb_of S37 ⟨by decide, by decide⟩
    obtain ⟨T37, h37, X37, e37, W37, st37⟩ := stC X35 hx hZ e35 Ar37 (j := (2 : Int32)) hin37 (g := (mkF m 106 #[.val (.int nn), .val (.int pa), .val (.int pb), .val (.int pg), .val (.int pd), .val (.int (3 : Int32)), .val (.int w0), .val (.int w1), .val (.int w2), .val (.int w3), .unset, .unset] [(.int w2), (.int (2 : Int32)), (.ref b31), (.ref b31), (.ref b29), (.ref b29)])) rfl rfl (hb hby at_106)
    have Z38 : n0 ≤ h37.size := Nat.le_trans Z36 (Nat.le_of_eq W37.size.symm)
    have Z38h : h0.size ≤ h37.size := Nat.le_trans Z36h (Nat.le_of_eq W37.size.symm)
    have V37 : Arv Z h37 b31 k31 .char (3 : Int32) [(.int (w0.toUInt32.toUInt16.toUInt32.toInt32)), (.int (w1.toUInt32.toUInt16.toUInt32.toInt32)), (.int (w2.toUInt32.toUInt16.toUInt32.toInt32))] (.int (0 : Int32)) := Arv.set Ar37 q37 S37 M37 H37 G37 (fits_nar_char _) W37 2 rfl (Nat.le_of_ble_eq_true rfl)
    obtain ⟨lc37, X37, N37⟩ := own_pack1 X37 N35 g_b31
    refine own_thrW (a := T37.setTop (mkF m 107 #[.val (.int nn), .val (.int pa), .val (.int pb), .val (.int pg), .val (.int pd), .val (.int (3 : Int32)), .val (.int w0), .val (.int w1), .val (.int w2), .val (.int w3), .unset, .unset] [(.ref b31), (.ref b29), (.ref b29)])) (fun t kt => st37 t kt) ?_
    have vr39 := V37
    rw [own_i2c Hw0, own_i2c Hw1, own_i2c Hw2] at vr39
    have c41 := ((((F_value_b29.ext E31).other W33 (Or.inl ne_b29_b31)).other W35 (Or.inl ne_b29_b31)).other W37 (Or.inl ne_b29_b31))
    have c42 := ((((F_coder_b29.ext E31).other W33 (Or.inl ne_b29_b31)).other W35 (Or.inl ne_b29_b31)).other W37 (Or.inl ne_b29_b31))
    have c43 := (((((hO.ext E29).ext E31).wr W33 g_b31).wr W35 g_b31).wr W37 g_b31)
    obtain ⟨_, _, ⟨T40, L40, k40, n40⟩, -, X40, ⟨Lc40, hQ40, l40, y40, z40⟩, st40⟩ := X37.specialBack hx (y := (⟨"java/lang/String", "<init>", "([C)V"⟩ : MethodName)) rfl hown (mvT hZ (hw _ (List.mem_of_getElem? (i := 93) rfl))) (mvT hZ (hw _ (List.mem_of_getElem? (i := 94) rfl))) (mvT hZ (hw _ (List.mem_of_getElem? (i := 95) rfl))) (by decide) (StrChars.Road.backV hZ (fun d hd => hw d (own_sw d hd)) (hw _ (List.mem_of_getElem? (i := 15) rfl)) (x := b29) (b := b31) (cs := [w0, w1, w2]) (bs := [(w0.toInt8.toInt32), (w1.toInt8.toInt32), (w2.toInt8.toInt32)]) (n := 3) (W := 1) g_b29 Z38 ((((A29.ext E31).wr W33).wr W35).wr W37) c41 c42 vr39 (S_cs.ext c43.2) hcs rfl rfl (by decide) (by decide) (own_fa (own_in Hw0) (own_fa (own_in Hw1) (own_fa (own_in Hw2) own_f0))) rfl (by decide) (by decide)) (g := (mkF m 107 #[.val (.int nn), .val (.int pa), .val (.int pb), .val (.int pg), .val (.int pd), .val (.int (3 : Int32)), .val (.int w0), .val (.int w1), .val (.int w2), .val (.int w3), .unset, .unset] [(.ref b31), (.ref b29), (.ref b29)])) rfl (by rw [hml]; rfl) (Steps.refl _) (a := b29) (argsL := [(.ref b31)]) (rest := [(.ref b29)]) (lenOf pd__28_5bC_29V rfl) rfl (by show 2 * 0 + _ ≤ _; exact Nat.le_of_eq rfl) (hb hby at_107) (fun _ _ => ⟨rfl, e37, (by decide : 2 + 1 ≤ _), (by decide : 7 + 3 ≤ _)⟩)
    dsimp only [Pt.U, Pt.locs, Pt.cells, Pt.slots] at X40 l40 y40 z40 st40 hQ40
    obtain ⟨rfl, N40q, K40, o40_e, o40_c, sv40, ks40, -, -, -, o40_v, o40_A⟩ := hQ40
    have Z44 : n0 ≤ T40.heap.size := Nat.le_trans Z38 K40.1
    have Z44h : h0.size ≤ T40.heap.size := Nat.le_trans Z38h K40.1
    have o40_a : Arv Z T40.heap sv40 ks40 .byte (3 : Int32) [(.int (w0.toInt8.toInt32)), (.int (w1.toInt8.toInt32)), (.int (w2.toInt8.toInt32))] (.int (0 : Int32)) := o40_A
    rw [own_lo Hw0, own_lo Hw1, own_lo Hw2] at o40_a
    obtain ⟨lc40, X40, N40⟩ := own_pack X40 l40 y40 z40 N37 N40q (C := 3) (S' := 10) rfl rfl
    refine own_thrW (a := T40.setTop (mkF m 110 #[.val (.int nn), .val (.int pa), .val (.int pb), .val (.int pg), .val (.int pd), .val (.int (3 : Int32)), .val (.int w0), .val (.int w1), .val (.int w2), .val (.int w3), .unset, .unset] [(.ref b29)])) (fun t kt => st40.trans kt) ?_
    refine own_thrW (a := T40.setTop (mkF m 149 #[.val (.int nn), .val (.int pa), .val (.int pb), .val (.int pg), .val (.int pd), .val (.int (3 : Int32)), .val (.int w0), .val (.int w1), .val (.int w2), .val (.int w3), .val (.ref b29), .unset] [(.ref b29)])) (fun t kt => ?_) ?_
    · show Steps p.tables e below (T40.setTop (mkF m 110 #[.val (.int nn), .val (.int pa), .val (.int pb), .val (.int pg), .val (.int pd), .val (.int (3 : Int32)), .val (.int w0), .val (.int w1), .val (.int w2), .val (.int w3), .unset, .unset] [(.ref b29)])) _
      refine XS.astore X40.here hx rfl (hb hby at_110) rfl rfl (l' := #[.val (.int nn), .val (.int pa), .val (.int pb), .val (.int pg), .val (.int pd), .val (.int (3 : Int32)), .val (.int w0), .val (.int w1), .val (.int w2), .val (.int w3), .val (.ref b29), .unset]) rfl ?_
      refine XS.goto X40.here hx rfl (pc0 := 112) (pc' := 147) rfl (hb hby at_112) (by decide) (by decide) ?_
      refine XS.aload X40.here hx rfl (hb hby at_147) rfl rfl ?_
      exact kt
    obtain ⟨_, _, ⟨T45, L45, k45, n45⟩, -, X45, hSq45, hgr45, ⟨Lc45, hQ45, l45, y45, z45⟩, st45⟩ := callSS X40 hx (y := (⟨"com/example/chronoshard/chronoshard/model/Limits", "checkInstanceId", "(Ljava/lang/String;)Ljava/lang/String;"⟩ : MethodName)) hown (mvT hZ (hw _ (List.mem_of_getElem? (i := 31) rfl))) (mvT hZ (hw _ (List.mem_of_getElem? (i := 32) rfl))) (mvT hZ (hw _ (List.mem_of_getElem? (i := 33) rfl))) (mvT hZ (hw _ (List.mem_of_getElem? (i := 34) rfl))) (by decide) (backOfS (W := 0) (rmC3 l Z a0 hw [] b29 sv40 ks40 w0 w1 w2 cs fm T40.heap n0 Z44 o40_e o40_v o40_c o40_a S_cs hcs S_fm hfm (c43.keep K40 (allS g_b29 all0)) Hw0 Hw1 Hw2) hZ (hw _ (List.mem_of_getElem? (i := 34) rfl)) (hw _ (List.mem_of_getElem? (i := 33) rfl)) (by decide) (by decide)) (g := (mkF m 149 #[.val (.int nn), .val (.int pa), .val (.int pb), .val (.int pg), .val (.int pd), .val (.int (3 : Int32)), .val (.int w0), .val (.int w1), .val (.int w2), .val (.int w3), .val (.ref b29), .unset] [(.ref b29)])) rfl (by rw [hml]; rfl) (argsL := [(.ref b29)]) (rest := []) (lenOf pd__28Ljava_2flang_2fString_3b_29Ljava_2flang_2fString_3b rfl) rfl (by show 2 * 0 + _ ≤ _; exact Nat.le_of_eq rfl) (hb hby at_149) (fun _ _ => ⟨rfl, rfl, (by decide : 3 + 4 ≤ _), (by decide : 10 + 168 ≤ _)⟩)
    dsimp only [Pt.U, Pt.locs, Pt.cells, Pt.slots] at X45 l45 y45 z45 st45 hQ45 hSq45 hgr45
    have hS45 := hS0.trans hSq45 (Nat.le_trans (Nat.zero_le _) hgr45)
    have hZ45 : Z.Warmed39 (s.setVm T45.vm).vm := State.Warmed39.trans (t := s.setVm s.vm) hZ hSq45.1
    have hown45 : (s.setVm T45.vm).vm.findClass "com/example/chronoshard/chronoshard/model/LimitsCheckInstanceIdPinLaw" = some m.cls := by rw [show (s.setVm T45.vm).vm = T45.vm from rfl, hSq45.1.alike.findClass]; exact hown
    have X45 : Stand p l e _ (s.setVm T45.vm) m _ below meth c T45 _ _ _ := X45
    obtain ⟨rfl, N45q, K45⟩ := hQ45
    have Z46 : n0 ≤ T45.heap.size := Nat.le_trans Z44 K45.1
    have Z46h : h0.size ≤ T45.heap.size := Nat.le_trans Z44h K45.1
    obtain ⟨lc45, X45, N45⟩ := own_pack X45 l45 y45 z45 N40 N45q (C := 7) (S' := 178) rfl rfl
    refine own_thrW (a := T45.setTop (mkF m 152 #[.val (.int nn), .val (.int pa), .val (.int pb), .val (.int pg), .val (.int pd), .val (.int (3 : Int32)), .val (.int w0), .val (.int w1), .val (.int w2), .val (.int w3), .val (.ref b29), .unset] [(.ref b29)])) (fun t kt => st45.trans kt) ?_
    refine own_thrW (a := T45.setTop (mkF m 158 #[.val (.int nn), .val (.int pa), .val (.int pb), .val (.int pg), .val (.int pd), .val (.int (3 : Int32)), .val (.int w0), .val (.int w1), .val (.int w2), .val (.int w3), .val (.ref b29), .val (.ref b29)] [(.ref b29), (.ref b29)])) (fun t kt => ?_) ?_
    · show Steps p.tables e below (T45.setTop (mkF m 152 #[.val (.int nn), .val (.int pa), .val (.int pb), .val (.int pg), .val (.int pd), .val (.int (3 : Int32)), .val (.int w0), .val (.int w1), .val (.int w2), .val (.int w3), .val (.ref b29), .unset] [(.ref b29)])) _
      refine XS.astore X45.here hx rfl (hb hby at_152) rfl rfl (l' := #[.val (.int nn), .val (.int pa), .val (.int pb), .val (.int pg), .val (.int pd), .val (.int (3 : Int32)), .val (.int w0), .val (.int w1), .val (.int w2), .val (.int w3), .val (.ref b29), .val (.ref b29)]) rfl ?_
      refine XS.aload X45.here hx rfl (hb hby at_154) rfl rfl ?_
      refine XS.aload X45.here hx rfl (hb hby at_156) rfl rfl ?_
      exact kt
    have S47 := S_cs.ext ((c43.keep K40 (allS g_b29 all0)).keep K45 all0).2
    refine own_thrW (a := T45.setTop (mkF m 163 #[.val (.int nn), .val (.int pa), .val (.int pb), .val (.int pg), .val (.int pd), .val (.int (3 : Int32)), .val (.int w0), .val (.int w1), .val (.int w2), .val (.int w3), .val (.ref b29), .val (.ref b29)] [(.ref b29)])) (fun t kt => ?_) ?_
    · show Steps p.tables e below (T45.setTop (mkF m 158 #[.val (.int nn), .val (.int pa), .val (.int pb), .val (.int pg), .val (.int pd), .val (.int (3 : Int32)), .val (.int w0), .val (.int w1), .val (.int w2), .val (.int w3), .val (.ref b29), .val (.ref b29)] [(.ref b29), (.ref b29)])) _
      refine Jvm.RoadKit.acmp (g := (mkF m 158 #[.val (.int nn), .val (.int pa), .val (.int pb), .val (.int pg), .val (.int pd), .val (.int (3 : Int32)), .val (.int w0), .val (.int w1), .val (.int w2), .val (.int w3), .val (.ref b29), .val (.ref b29)] [(.ref b29), (.ref b29)])) X45 hx rfl rfl rfl (pc0 := 158) (pc' := 161) (same := true) rfl (hb hby at_158) rfl (decide_eq_true rfl) (by decide) (by decide) ?_
      refine XS.aload X45.here hx rfl (hb hby at_161) rfl rfl ?_
      exact kt
    obtain ⟨cq48, kq48, q48a, q48b, q48c⟩ := isOf hZ45 rfl (o40_e.keep K45)
    obtain ⟨_, _, ⟨T48, L48, k48, n48⟩, -, X48, ⟨Lc48, hQ48, l48, y48, z48⟩, st48⟩ := X45.virtualBack hx (y := (⟨"java/lang/String", "length", "()I"⟩ : MethodName)) (z := (⟨"java/lang/String", "length", "()I"⟩ : MethodName)) hown45 (mvT hZ45 (hw _ (List.mem_of_getElem? (i := 90) rfl))) (mvT hZ45 (hw _ (List.mem_of_getElem? (i := 55) rfl))) (notFace_of_selects (args := #[]) (mvT hZ45 (hw _ (List.mem_of_getElem? (i := 57) rfl)))) (mvT hZ45 (hw _ (List.mem_of_getElem? (i := 57) rfl))) (mvT hZ45 (hw _ (List.mem_of_getElem? (i := 56) rfl))) (by decide) (backOf (W := 0) (rmLN3 l Z a0 hw [] b29 sv40 ks40 [(.int w0), (.int w1), (.int w2)] cs T45.heap n0 Z46 (o40_e.keep K45) (o40_v.keep K45 nin0) (o40_c.keep K45 nin0) (o40_a.keep K45 nin0) S47 hcs) hZ45 (hw _ (List.mem_of_getElem? (i := 58) rfl)) (hw _ (List.mem_of_getElem? (i := 7) rfl)) (by decide) (by decide)) q48a q48c (g := (mkF m 163 #[.val (.int nn), .val (.int pa), .val (.int pb), .val (.int pg), .val (.int pd), .val (.int (3 : Int32)), .val (.int w0), .val (.int w1), .val (.int w2), .val (.int w3), .val (.ref b29), .val (.ref b29)] [(.ref b29)])) rfl (by rw [hml]; rfl) (Steps.refl _) (argsL := []) (rest := []) (lenOf pd__28_29I rfl) rfl (by show 2 * 0 + _ ≤ _; exact Nat.le_of_eq rfl) (hb hby at_163) (fun _ _ => ⟨rfl, rfl, (by decide : 7 + 0 ≤ _), (by decide : 178 + 0 ≤ _)⟩)
    dsimp only [Pt.U, Pt.locs, Pt.cells, Pt.slots] at X48 l48 y48 z48 st48 hQ48
    obtain ⟨rfl, N48q, e48⟩ := hQ48
    obtain ⟨lc48, X48, N48⟩ := own_pack X48 l48 y48 z48 N45 N48q (C := 7) (S' := 178) rfl rfl
    refine own_thrW (a := T48.setTop (mkF m 166 #[.val (.int nn), .val (.int pa), .val (.int pb), .val (.int pg), .val (.int pd), .val (.int (3 : Int32)), .val (.int w0), .val (.int w1), .val (.int w2), .val (.int w3), .val (.ref b29), .val (.ref b29)] [(.int (3 : Int32))])) (fun t kt => st48.trans kt) ?_
    refine own_thrW (a := T48.setTop (mkF m 176 #[.val (.int nn), .val (.int pa), .val (.int pb), .val (.int pg), .val (.int pd), .val (.int (3 : Int32)), .val (.int w0), .val (.int w1), .val (.int w2), .val (.int w3), .val (.ref b29), .val (.ref b29)] [(.int (1 : Int32))])) (fun t kt => ?_) ?_
    · show Steps p.tables e below (T48.setTop (mkF m 166 #[.val (.int nn), .val (.int pa), .val (.int pb), .val (.int pg), .val (.int pd), .val (.int (3 : Int32)), .val (.int w0), .val (.int w1), .val (.int w2), .val (.int w3), .val (.ref b29), .val (.ref b29)] [(.int (3 : Int32))])) _
      refine XS.iload X48.here hx rfl (hb hby at_166) rfl ?_
      refine XS.icmpNo X48.here hx rfl (hb hby at_168) rfl (teq rfl).2 ?_
      refine XS.iconst X48.here hx rfl (hb hby at_171) ?_
      refine XS.goto X48.here hx rfl (pc0 := 172) (pc' := 176) rfl (hb hby at_172) (by decide) (by decide) ?_
      exact kt
    exact own_endW X48 hS45 (by rw [e48]; exact (Nat.le_refl _)) hlk (v := some (.int (1 : Int32))) (fun h => by rw [Bd.returns] at h; cases h) (fun fs hr => retN X48 hx (t := .boolean) Bd.returns (by simp) (hb hby at_176) hr) ⟨rfl, N48⟩ (by decide : 7 ≤ _) (by decide : 178 ≤ _)
  · subst hk
    refine own_thrW (a := T4.setTop (mkF m 115 #[.val (.int nn), .val (.int pa), .val (.int pb), .val (.int pg), .val (.int pd), .val (.int (4 : Int32)), .val (.int w0), .val (.int w1), .val (.int w2), .val (.int w3), .unset, .unset] [])) (fun t kt => ?_) ?_
    · show Steps p.tables e below (T4.setTop (mkF m 32 #[.val (.int nn), .val (.int pa), .val (.int pb), .val (.int pg), .val (.int pd), .val (.int (4 : Int32)), .val (.int w0), .val (.int w1), .val (.int w2), .val (.int w3), .unset, .unset] [])) _
      refine XS.iload X4.here hx rfl (hb hby at_32) rfl ?_
      refine XS.iconst X4.here hx rfl (hb hby at_34) ?_
      refine XS.icmpYes X4.here hx rfl (pc0 := 35) (pc' := 48) rfl (hb hby at_35) rfl (feq (by decide)).2 (by decide) (by decide) ?_
      refine XS.iload X4.here hx rfl (hb hby at_48) rfl ?_
      refine XS.iconst X4.here hx rfl (hb hby at_50) ?_
      refine XS.icmpYes X4.here hx rfl (pc0 := 51) (pc' := 79) rfl (hb hby at_51) rfl (feq (by decide)).2 (by decide) (by decide) ?_
      refine XS.iload X4.here hx rfl (hb hby at_79) rfl ?_
      refine XS.iconst X4.here hx rfl (hb hby at_81) ?_
      refine XS.icmpYes X4.here hx rfl (pc0 := 82) (pc' := 115) rfl (hb hby at_82) rfl (feq (by decide)).2 (by decide) (by decide) ?_
      exact kt
    obtain ⟨T49, h49, X49, e49, E49, A49, D49, U49, st49⟩ := newO X4 hx hZ hown (hw _ (List.mem_of_getElem? (i := 91) rfl)) (hw _ (List.mem_of_getElem? (i := 15) rfl)) (hw _ (List.mem_of_getElem? (i := 7) rfl)) e4 (g := (mkF m 115 #[.val (.int nn), .val (.int pa), .val (.int pb), .val (.int pg), .val (.int pd), .val (.int (4 : Int32)), .val (.int w0), .val (.int w1), .val (.int w2), .val (.int w3), .unset, .unset] [])) rfl (hb hby at_115) (by decide : 0 + 1 ≤ _) (by decide : 0 + 4 ≤ _)
    obtain ⟨b49, g49⟩ : ∃ z, z = h0.size := ⟨_, rfl⟩
    rw [← g49] at A49 D49 st49 U49
    have g_b49 : n0 ≤ b49 := Nat.le_trans Z0 (Nat.le_of_eq g49.symm)
    have sz_b49 : h0.size ≤ b49 := Nat.le_trans (Nat.le_refl h0.size) (Nat.le_of_eq g49.symm)
    have Z50 : n0 ≤ h49.size := Nat.le_trans Z0 E49.1
    have Z50h : h0.size ≤ h49.size := Nat.le_trans (Nat.le_refl h0.size) E49.1
    have F_value_b49 : Fld Z h49 b49 "java/lang/String" "value" "[B" .null := D49 (Or.inr (hw _ (List.mem_of_getElem? (i := 28) rfl))) (ty := (.array .byte)) (by decide)
    have F_coder_b49 : Fld Z h49 b49 "java/lang/String" "coder" "B" (.int (0 : Int32)) := D49 (Or.inr (hw _ (List.mem_of_getElem? (i := 30) rfl))) (ty := .byte) (by decide)
    refine own_thrW (a := T49.setTop (mkF m 118 #[.val (.int nn), .val (.int pa), .val (.int pb), .val (.int pg), .val (.int pd), .val (.int (4 : Int32)), .val (.int w0), .val (.int w1), .val (.int w2), .val (.int w3), .unset, .unset] [(.ref b49)])) (fun t kt => st49 t kt) ?_
    refine own_thrW (a := T49.setTop (mkF m 120 #[.val (.int nn), .val (.int pa), .val (.int pb), .val (.int pg), .val (.int pd), .val (.int (4 : Int32)), .val (.int w0), .val (.int w1), .val (.int w2), .val (.int w3), .unset, .unset] [(.int (4 : Int32)), (.ref b49), (.ref b49)])) (fun t kt => ?_) ?_
    · show Steps p.tables e below (T49.setTop (mkF m 118 #[.val (.int nn), .val (.int pa), .val (.int pb), .val (.int pg), .val (.int pd), .val (.int (4 : Int32)), .val (.int w0), .val (.int w1), .val (.int w2), .val (.int w3), .unset, .unset] [(.ref b49)])) _
      refine XS.dup X49.here hx rfl (hb hby at_118) rfl rfl ?_
      refine XS.iconst X49.here hx rfl (hb hby at_119) ?_
      exact kt
    obtain ⟨T51, h51, k51, X51, e51, E51, A51, st51⟩ := newP X49 hx hZ (hw _ (List.mem_of_getElem? (i := 92) rfl)) e49 (g := (mkF m 120 #[.val (.int nn), .val (.int pa), .val (.int pb), .val (.int pg), .val (.int pd), .val (.int (4 : Int32)), .val (.int w0), .val (.int w1), .val (.int w2), .val (.int w3), .unset, .unset] [(.int (4 : Int32)), (.ref b49), (.ref b49)])) rfl (hb hby at_120) rfl (by decide) (cap := 4) (by decide) (by decide) (by decide : 1 + 1 ≤ _) (by decide : 4 + 4 ≤ _)
    obtain ⟨b51, g51⟩ : ∃ z, z = h49.size := ⟨_, rfl⟩
    rw [← g51] at A51 st51
    have g_b51 : n0 ≤ b51 := Nat.le_trans Z50 (Nat.le_of_eq g51.symm)
    have sz_b51 : h0.size ≤ b51 := Nat.le_trans Z50h (Nat.le_of_eq g51.symm)
    have lt_b49_b51 : b49 < b51 := Nat.lt_of_lt_of_le A49.lt (Nat.le_of_eq g51.symm)
    have ne_b49_b51 : b49 ≠ b51 := Nat.ne_of_lt lt_b49_b51
    have V_b51 : Arv Z h51 b51 k51 .char (4 : Int32) [(.int (0 : Int32)), (.int (0 : Int32)), (.int (0 : Int32)), (.int (0 : Int32))] (.int (0 : Int32)) := (Arv.new A51 (by decide)).pad (pad_rep [] (.int (0 : Int32)) 4)
    have Z52 : n0 ≤ h51.size := Nat.le_trans Z50 E51.1
    have Z52h : h0.size ≤ h51.size := Nat.le_trans Z50h E51.1
    refine own_thrW (a := T51.setTop (mkF m 122 #[.val (.int nn), .val (.int pa), .val (.int pb), .val (.int pg), .val (.int pd), .val (.int (4 : Int32)), .val (.int w0), .val (.int w1), .val (.int w2), .val (.int w3), .unset, .unset] [(.ref b51), (.ref b49), (.ref b49)])) (fun t kt => st51 t kt) ?_
    refine own_thrW (a := T51.setTop (mkF m 126 #[.val (.int nn), .val (.int pa), .val (.int pb), .val (.int pg), .val (.int pd), .val (.int (4 : Int32)), .val (.int w0), .val (.int w1), .val (.int w2), .val (.int w3), .unset, .unset] [(.int w0), (.int (0 : Int32)), (.ref b51), (.ref b51), (.ref b49), (.ref b49)])) (fun t kt => ?_) ?_
    · show Steps p.tables e below (T51.setTop (mkF m 122 #[.val (.int nn), .val (.int pa), .val (.int pb), .val (.int pg), .val (.int pd), .val (.int (4 : Int32)), .val (.int w0), .val (.int w1), .val (.int w2), .val (.int w3), .unset, .unset] [(.ref b51), (.ref b49), (.ref b49)])) _
      refine XS.dup X51.here hx rfl (hb hby at_122) rfl rfl ?_
      refine XS.iconst X51.here hx rfl (hb hby at_123) ?_
      refine XS.iload X51.here hx rfl (hb hby at_124) rfl ?_
      exact kt
    obtain ⟨cl53, Ar53, q53, S53, M53, H53, G53⟩ := id V_b51
    have hin53 : ¬ ((0 : Int32) < 0 ∨ cl53.slots.size ≤ ((0 : Int32)).toNatClampNeg) := inb_of S53 ⟨by decide, by decide⟩
    obtain ⟨T53, h53, X53, e53, W53, st53⟩ := stC X51 hx hZ e51 Ar53 (j := (0 : Int32)) hin53 (g := (mkF m 126 #[.val (.int nn), .val (.int pa), .val (.int pb), .val (.int pg), .val (.int pd), .val (.int (4 : Int32)), .val (.int w0), .val (.int w1), .val (.int w2), .val (.int w3), .unset, .unset] [(.int w0), (.int (0 : Int32)), (.ref b51), (.ref b51), (.ref b49), (.ref b49)])) rfl rfl (hb hby at_126)
    have Z54 : n0 ≤ h53.size := Nat.le_trans Z52 (Nat.le_of_eq W53.size.symm)
    have Z54h : h0.size ≤ h53.size := Nat.le_trans Z52h (Nat.le_of_eq W53.size.symm)
    have V53 : Arv Z h53 b51 k51 .char (4 : Int32) [(.int (w0.toUInt32.toUInt16.toUInt32.toInt32)), (.int (0 : Int32)), (.int (0 : Int32)), (.int (0 : Int32))] (.int (0 : Int32)) := Arv.set Ar53 q53 S53 M53 H53 G53 (fits_nar_char _) W53 0 rfl (Nat.le_of_ble_eq_true rfl)
    obtain ⟨lc53, X53, N53⟩ := own_pack1 X53 N4 g_b51
    refine own_thrW (a := T53.setTop (mkF m 127 #[.val (.int nn), .val (.int pa), .val (.int pb), .val (.int pg), .val (.int pd), .val (.int (4 : Int32)), .val (.int w0), .val (.int w1), .val (.int w2), .val (.int w3), .unset, .unset] [(.ref b51), (.ref b49), (.ref b49)])) (fun t kt => st53 t kt) ?_
    refine own_thrW (a := T53.setTop (mkF m 131 #[.val (.int nn), .val (.int pa), .val (.int pb), .val (.int pg), .val (.int pd), .val (.int (4 : Int32)), .val (.int w0), .val (.int w1), .val (.int w2), .val (.int w3), .unset, .unset] [(.int w1), (.int (1 : Int32)), (.ref b51), (.ref b51), (.ref b49), (.ref b49)])) (fun t kt => ?_) ?_
    · show Steps p.tables e below (T53.setTop (mkF m 127 #[.val (.int nn), .val (.int pa), .val (.int pb), .val (.int pg), .val (.int pd), .val (.int (4 : Int32)), .val (.int w0), .val (.int w1), .val (.int w2), .val (.int w3), .unset, .unset] [(.ref b51), (.ref b49), (.ref b49)])) _
      refine XS.dup X53.here hx rfl (hb hby at_127) rfl rfl ?_
      refine XS.iconst X53.here hx rfl (hb hby at_128) ?_
      refine XS.iload X53.here hx rfl (hb hby at_129) rfl ?_
      exact kt
    obtain ⟨cl55, Ar55, q55, S55, M55, H55, G55⟩ := id V53
    have hin55 : ¬ ((1 : Int32) < 0 ∨ cl55.slots.size ≤ ((1 : Int32)).toNatClampNeg) := inb_of S55 ⟨by decide, by decide⟩
    obtain ⟨T55, h55, X55, e55, W55, st55⟩ := stC X53 hx hZ e53 Ar55 (j := (1 : Int32)) hin55 (g := (mkF m 131 #[.val (.int nn), .val (.int pa), .val (.int pb), .val (.int pg), .val (.int pd), .val (.int (4 : Int32)), .val (.int w0), .val (.int w1), .val (.int w2), .val (.int w3), .unset, .unset] [(.int w1), (.int (1 : Int32)), (.ref b51), (.ref b51), (.ref b49), (.ref b49)])) rfl rfl (hb hby at_131)
    have Z56 : n0 ≤ h55.size := Nat.le_trans Z54 (Nat.le_of_eq W55.size.symm)
    have Z56h : h0.size ≤ h55.size := Nat.le_trans Z54h (Nat.le_of_eq W55.size.symm)
    have V55 : Arv Z h55 b51 k51 .char (4 : Int32) [(.int (w0.toUInt32.toUInt16.toUInt32.toInt32)), (.int (w1.toUInt32.toUInt16.toUInt32.toInt32)), (.int (0 : Int32)), (.int (0 : Int32))] (.int (0 : Int32)) := Arv.set Ar55 q55 S55 M55 H55 G55 (fits_nar_char _) W55 1 rfl (Nat.le_of_ble_eq_true rfl)
    obtain ⟨lc55, X55, N55⟩ := own_pack1 X55 N53 g_b51
    refine own_thrW (a := T55.setTop (mkF m 132 #[.val (.int nn), .val (.int pa), .val (.int pb), .val (.int pg), .val (.int pd), .val (.int (4 : Int32)), .val (.int w0), .val (.int w1), .val (.int w2), .val (.int w3), .unset, .unset] [(.ref b51), (.ref b49), (.ref b49)])) (fun t kt => st55 t kt) ?_
    refine own_thrW (a := T55.setTop (mkF m 136 #[.val (.int nn), .val (.int pa), .val (.int pb), .val (.int pg), .val (.int pd), .val (.int (4 : Int32)), .val (.int w0), .val (.int w1), .val (.int w2), .val (.int w3), .unset, .unset] [(.int w2), (.int (2 : Int32)), (.ref b51), (.ref b51), (.ref b49), (.ref b49)])) (fun t kt => ?_) ?_
    · show Steps p.tables e below (T55.setTop (mkF m 132 #[.val (.int nn), .val (.int pa), .val (.int pb), .val (.int pg), .val (.int pd), .val (.int (4 : Int32)), .val (.int w0), .val (.int w1), .val (.int w2), .val (.int w3), .unset, .unset] [(.ref b51), (.ref b49), (.ref b49)])) _
      refine XS.dup X55.here hx rfl (hb hby at_132) rfl rfl ?_
      refine XS.iconst X55.here hx rfl (hb hby at_133) ?_
      refine XS.iload X55.here hx rfl (hb hby at_134) rfl ?_
      exact kt
    obtain ⟨cl57, Ar57, q57, S57, M57, H57, G57⟩ := id V55
    have hin57 : ¬ ((2 : Int32) < 0 ∨ cl57.slots.size ≤ ((2 : Int32)).toNatClampNeg) := inb_of S57 ⟨by decide, by decide⟩
    obtain ⟨T57, h57, X57, e57, W57, st57⟩ := stC X55 hx hZ e55 Ar57 (j := (2 : Int32)) hin57 (g := (mkF m 136 #[.val (.int nn), .val (.int pa), .val (.int pb), .val (.int pg), .val (.int pd), .val (.int (4 : Int32)), .val (.int w0), .val (.int w1), .val (.int w2), .val (.int w3), .unset, .unset] [(.int w2), (.int (2 : Int32)), (.ref b51), (.ref b51), (.ref b49), (.ref b49)])) rfl rfl (hb hby at_136)
    have Z58 : n0 ≤ h57.size := Nat.le_trans Z56 (Nat.le_of_eq W57.size.symm)
    have Z58h : h0.size ≤ h57.size := Nat.le_trans Z56h (Nat.le_of_eq W57.size.symm)
    have V57 : Arv Z h57 b51 k51 .char (4 : Int32) [(.int (w0.toUInt32.toUInt16.toUInt32.toInt32)), (.int (w1.toUInt32.toUInt16.toUInt32.toInt32)), (.int (w2.toUInt32.toUInt16.toUInt32.toInt32)), (.int (0 : Int32))] (.int (0 : Int32)) := Arv.set Ar57 q57 S57 M57 H57 G57 (fits_nar_char _) W57 2 rfl (Nat.le_of_ble_eq_true rfl)
    obtain ⟨lc57, X57, N57⟩ := own_pack1 X57 N55 g_b51
    refine own_thrW (a := T57.setTop (mkF m 137 #[.val (.int nn), .val (.int pa), .val (.int pb), .val (.int pg), .val (.int pd), .val (.int (4 : Int32)), .val (.int w0), .val (.int w1), .val (.int w2), .val (.int w3), .unset, .unset] [(.ref b51), (.ref b49), (.ref b49)])) (fun t kt => st57 t kt) ?_
    refine own_thrW (a := T57.setTop (mkF m 141 #[.val (.int nn), .val (.int pa), .val (.int pb), .val (.int pg), .val (.int pd), .val (.int (4 : Int32)), .val (.int w0), .val (.int w1), .val (.int w2), .val (.int w3), .unset, .unset] [(.int w3), (.int (3 : Int32)), (.ref b51), (.ref b51), (.ref b49), (.ref b49)])) (fun t kt => ?_) ?_
    · show Steps p.tables e below (T57.setTop (mkF m 137 #[.val (.int nn), .val (.int pa), .val (.int pb), .val (.int pg), .val (.int pd), .val (.int (4 : Int32)), .val (.int w0), .val (.int w1), .val (.int w2), .val (.int w3), .unset, .unset] [(.ref b51), (.ref b49), (.ref b49)])) _
      refine XS.dup X57.here hx rfl (hb hby at_137) rfl rfl ?_
      refine XS.iconst X57.here hx rfl (hb hby at_138) ?_
      refine XS.iload X57.here hx rfl (hb hby at_139) rfl ?_
      exact kt
    obtain ⟨cl59, Ar59, q59, S59, M59, H59, G59⟩ := id V57
    have hin59 : ¬ ((3 : Int32) < 0 ∨ cl59.slots.size ≤ ((3 : Int32)).toNatClampNeg) := inb_of S59 ⟨by decide, by decide⟩
    obtain ⟨T59, h59, X59, e59, W59, st59⟩ := stC X57 hx hZ e57 Ar59 (j := (3 : Int32)) hin59 (g := (mkF m 141 #[.val (.int nn), .val (.int pa), .val (.int pb), .val (.int pg), .val (.int pd), .val (.int (4 : Int32)), .val (.int w0), .val (.int w1), .val (.int w2), .val (.int w3), .unset, .unset] [(.int w3), (.int (3 : Int32)), (.ref b51), (.ref b51), (.ref b49), (.ref b49)])) rfl rfl (hb hby at_141)
    have Z60 : n0 ≤ h59.size := Nat.le_trans Z58 (Nat.le_of_eq W59.size.symm)
    have Z60h : h0.size ≤ h59.size := Nat.le_trans Z58h (Nat.le_of_eq W59.size.symm)
    have V59 : Arv Z h59 b51 k51 .char (4 : Int32) [(.int (w0.toUInt32.toUInt16.toUInt32.toInt32)), (.int (w1.toUInt32.toUInt16.toUInt32.toInt32)), (.int (w2.toUInt32.toUInt16.toUInt32.toInt32)), (.int (w3.toUInt32.toUInt16.toUInt32.toInt32))] (.int (0 : Int32)) := Arv.set Ar59 q59 S59 M59 H59 G59 (fits_nar_char _) W59 3 rfl (Nat.le_of_ble_eq_true rfl)
    obtain ⟨lc59, X59, N59⟩ := own_pack1 X59 N57 g_b51
    refine own_thrW (a := T59.setTop (mkF m 142 #[.val (.int nn), .val (.int pa), .val (.int pb), .val (.int pg), .val (.int pd), .val (.int (4 : Int32)), .val (.int w0), .val (.int w1), .val (.int w2), .val (.int w3), .unset, .unset] [(.ref b51), (.ref b49), (.ref b49)])) (fun t kt => st59 t kt) ?_
    have vr61 := V59
    rw [own_i2c Hw0, own_i2c Hw1, own_i2c Hw2, own_i2c Hw3] at vr61
    have c63 := (((((F_value_b49.ext E51).other W53 (Or.inl ne_b49_b51)).other W55 (Or.inl ne_b49_b51)).other W57 (Or.inl ne_b49_b51)).other W59 (Or.inl ne_b49_b51))
    have c64 := (((((F_coder_b49.ext E51).other W53 (Or.inl ne_b49_b51)).other W55 (Or.inl ne_b49_b51)).other W57 (Or.inl ne_b49_b51)).other W59 (Or.inl ne_b49_b51))
    have c65 := ((((((hO.ext E49).ext E51).wr W53 g_b51).wr W55 g_b51).wr W57 g_b51).wr W59 g_b51)
    obtain ⟨_, _, ⟨T62, L62, k62, n62⟩, -, X62, ⟨Lc62, hQ62, l62, y62, z62⟩, st62⟩ := X59.specialBack hx (y := (⟨"java/lang/String", "<init>", "([C)V"⟩ : MethodName)) rfl hown (mvT hZ (hw _ (List.mem_of_getElem? (i := 93) rfl))) (mvT hZ (hw _ (List.mem_of_getElem? (i := 94) rfl))) (mvT hZ (hw _ (List.mem_of_getElem? (i := 95) rfl))) (by decide) (StrChars.Road.backV hZ (fun d hd => hw d (own_sw d hd)) (hw _ (List.mem_of_getElem? (i := 15) rfl)) (x := b49) (b := b51) (cs := [w0, w1, w2, w3]) (bs := [(w0.toInt8.toInt32), (w1.toInt8.toInt32), (w2.toInt8.toInt32), (w3.toInt8.toInt32)]) (n := 4) (W := 1) g_b49 Z60 (((((A49.ext E51).wr W53).wr W55).wr W57).wr W59) c63 c64 vr61 (S_cs.ext c65.2) hcs rfl rfl (by decide) (by decide) (own_fa (own_in Hw0) (own_fa (own_in Hw1) (own_fa (own_in Hw2) (own_fa (own_in Hw3) own_f0)))) rfl (by decide) (by decide)) (g := (mkF m 142 #[.val (.int nn), .val (.int pa), .val (.int pb), .val (.int pg), .val (.int pd), .val (.int (4 : Int32)), .val (.int w0), .val (.int w1), .val (.int w2), .val (.int w3), .unset, .unset] [(.ref b51), (.ref b49), (.ref b49)])) rfl (by rw [hml]; rfl) (Steps.refl _) (a := b49) (argsL := [(.ref b51)]) (rest := [(.ref b49)]) (lenOf pd__28_5bC_29V rfl) rfl (by show 2 * 0 + _ ≤ _; exact Nat.le_of_eq rfl) (hb hby at_142) (fun _ _ => ⟨rfl, e59, (by decide : 2 + 1 ≤ _), (by decide : 8 + 4 ≤ _)⟩)
    dsimp only [Pt.U, Pt.locs, Pt.cells, Pt.slots] at X62 l62 y62 z62 st62 hQ62
    obtain ⟨rfl, N62q, K62, o62_e, o62_c, sv62, ks62, -, -, -, o62_v, o62_A⟩ := hQ62
    have Z66 : n0 ≤ T62.heap.size := Nat.le_trans Z60 K62.1
    have Z66h : h0.size ≤ T62.heap.size := Nat.le_trans Z60h K62.1
    have o62_a : Arv Z T62.heap sv62 ks62 .byte (4 : Int32) [(.int (w0.toInt8.toInt32)), (.int (w1.toInt8.toInt32)), (.int (w2.toInt8.toInt32)), (.int (w3.toInt8.toInt32))] (.int (0 : Int32)) := o62_A
    rw [own_lo Hw0, own_lo Hw1, own_lo Hw2, own_lo Hw3] at o62_a
    obtain ⟨lc62, X62, N62⟩ := own_pack X62 l62 y62 z62 N59 N62q (C := 3) (S' := 12) rfl rfl
    refine own_thrW (a := T62.setTop (mkF m 145 #[.val (.int nn), .val (.int pa), .val (.int pb), .val (.int pg), .val (.int pd), .val (.int (4 : Int32)), .val (.int w0), .val (.int w1), .val (.int w2), .val (.int w3), .unset, .unset] [(.ref b49)])) (fun t kt => st62.trans kt) ?_
    refine own_thrW (a := T62.setTop (mkF m 149 #[.val (.int nn), .val (.int pa), .val (.int pb), .val (.int pg), .val (.int pd), .val (.int (4 : Int32)), .val (.int w0), .val (.int w1), .val (.int w2), .val (.int w3), .val (.ref b49), .unset] [(.ref b49)])) (fun t kt => ?_) ?_
    · show Steps p.tables e below (T62.setTop (mkF m 145 #[.val (.int nn), .val (.int pa), .val (.int pb), .val (.int pg), .val (.int pd), .val (.int (4 : Int32)), .val (.int w0), .val (.int w1), .val (.int w2), .val (.int w3), .unset, .unset] [(.ref b49)])) _
      refine XS.astore X62.here hx rfl (hb hby at_145) rfl rfl (l' := #[.val (.int nn), .val (.int pa), .val (.int pb), .val (.int pg), .val (.int pd), .val (.int (4 : Int32)), .val (.int w0), .val (.int w1), .val (.int w2), .val (.int w3), .val (.ref b49), .unset]) rfl ?_
      refine XS.aload X62.here hx rfl (hb hby at_147) rfl rfl ?_
      exact kt
    obtain ⟨_, _, ⟨T67, L67, k67, n67⟩, -, X67, hSq67, hgr67, ⟨Lc67, hQ67, l67, y67, z67⟩, st67⟩ := callSS X62 hx (y := (⟨"com/example/chronoshard/chronoshard/model/Limits", "checkInstanceId", "(Ljava/lang/String;)Ljava/lang/String;"⟩ : MethodName)) hown (mvT hZ (hw _ (List.mem_of_getElem? (i := 31) rfl))) (mvT hZ (hw _ (List.mem_of_getElem? (i := 32) rfl))) (mvT hZ (hw _ (List.mem_of_getElem? (i := 33) rfl))) (mvT hZ (hw _ (List.mem_of_getElem? (i := 34) rfl))) (by decide) (backOfS (W := 0) (rmC4 l Z a0 hw [] b49 sv62 ks62 w0 w1 w2 w3 cs fm T62.heap n0 Z66 o62_e o62_v o62_c o62_a S_cs hcs S_fm hfm (c65.keep K62 (allS g_b49 all0)) Hw0 Hw1 Hw2 Hw3) hZ (hw _ (List.mem_of_getElem? (i := 34) rfl)) (hw _ (List.mem_of_getElem? (i := 33) rfl)) (by decide) (by decide)) (g := (mkF m 149 #[.val (.int nn), .val (.int pa), .val (.int pb), .val (.int pg), .val (.int pd), .val (.int (4 : Int32)), .val (.int w0), .val (.int w1), .val (.int w2), .val (.int w3), .val (.ref b49), .unset] [(.ref b49)])) rfl (by rw [hml]; rfl) (argsL := [(.ref b49)]) (rest := []) (lenOf pd__28Ljava_2flang_2fString_3b_29Ljava_2flang_2fString_3b rfl) rfl (by show 2 * 0 + _ ≤ _; exact Nat.le_of_eq rfl) (hb hby at_149) (fun _ _ => ⟨rfl, rfl, (by decide : 3 + 4 ≤ _), (by decide : 12 + 168 ≤ _)⟩)
    dsimp only [Pt.U, Pt.locs, Pt.cells, Pt.slots] at X67 l67 y67 z67 st67 hQ67 hSq67 hgr67
    have hS67 := hS0.trans hSq67 (Nat.le_trans (Nat.zero_le _) hgr67)
    have hZ67 : Z.Warmed39 (s.setVm T67.vm).vm := State.Warmed39.trans (t := s.setVm s.vm) hZ hSq67.1
    have hown67 : (s.setVm T67.vm).vm.findClass "com/example/chronoshard/chronoshard/model/LimitsCheckInstanceIdPinLaw" = some m.cls := by rw [show (s.setVm T67.vm).vm = T67.vm from rfl, hSq67.1.alike.findClass]; exact hown
    have X67 : Stand p l e _ (s.setVm T67.vm) m _ below meth c T67 _ _ _ := X67
    obtain ⟨rfl, N67q, K67⟩ := hQ67
    have Z68 : n0 ≤ T67.heap.size := Nat.le_trans Z66 K67.1
    have Z68h : h0.size ≤ T67.heap.size := Nat.le_trans Z66h K67.1
    obtain ⟨lc67, X67, N67⟩ := own_pack X67 l67 y67 z67 N62 N67q (C := 7) (S' := 180) rfl rfl
    refine own_thrW (a := T67.setTop (mkF m 152 #[.val (.int nn), .val (.int pa), .val (.int pb), .val (.int pg), .val (.int pd), .val (.int (4 : Int32)), .val (.int w0), .val (.int w1), .val (.int w2), .val (.int w3), .val (.ref b49), .unset] [(.ref b49)])) (fun t kt => st67.trans kt) ?_
    refine own_thrW (a := T67.setTop (mkF m 158 #[.val (.int nn), .val (.int pa), .val (.int pb), .val (.int pg), .val (.int pd), .val (.int (4 : Int32)), .val (.int w0), .val (.int w1), .val (.int w2), .val (.int w3), .val (.ref b49), .val (.ref b49)] [(.ref b49), (.ref b49)])) (fun t kt => ?_) ?_
    · show Steps p.tables e below (T67.setTop (mkF m 152 #[.val (.int nn), .val (.int pa), .val (.int pb), .val (.int pg), .val (.int pd), .val (.int (4 : Int32)), .val (.int w0), .val (.int w1), .val (.int w2), .val (.int w3), .val (.ref b49), .unset] [(.ref b49)])) _
      refine XS.astore X67.here hx rfl (hb hby at_152) rfl rfl (l' := #[.val (.int nn), .val (.int pa), .val (.int pb), .val (.int pg), .val (.int pd), .val (.int (4 : Int32)), .val (.int w0), .val (.int w1), .val (.int w2), .val (.int w3), .val (.ref b49), .val (.ref b49)]) rfl ?_
      refine XS.aload X67.here hx rfl (hb hby at_154) rfl rfl ?_
      refine XS.aload X67.here hx rfl (hb hby at_156) rfl rfl ?_
      exact kt
    have S69 := S_cs.ext ((c65.keep K62 (allS g_b49 all0)).keep K67 all0).2
    refine own_thrW (a := T67.setTop (mkF m 163 #[.val (.int nn), .val (.int pa), .val (.int pb), .val (.int pg), .val (.int pd), .val (.int (4 : Int32)), .val (.int w0), .val (.int w1), .val (.int w2), .val (.int w3), .val (.ref b49), .val (.ref b49)] [(.ref b49)])) (fun t kt => ?_) ?_
    · show Steps p.tables e below (T67.setTop (mkF m 158 #[.val (.int nn), .val (.int pa), .val (.int pb), .val (.int pg), .val (.int pd), .val (.int (4 : Int32)), .val (.int w0), .val (.int w1), .val (.int w2), .val (.int w3), .val (.ref b49), .val (.ref b49)] [(.ref b49), (.ref b49)])) _
      refine Jvm.RoadKit.acmp (g := (mkF m 158 #[.val (.int nn), .val (.int pa), .val (.int pb), .val (.int pg), .val (.int pd), .val (.int (4 : Int32)), .val (.int w0), .val (.int w1), .val (.int w2), .val (.int w3), .val (.ref b49), .val (.ref b49)] [(.ref b49), (.ref b49)])) X67 hx rfl rfl rfl (pc0 := 158) (pc' := 161) (same := true) rfl (hb hby at_158) rfl (decide_eq_true rfl) (by decide) (by decide) ?_
      refine XS.aload X67.here hx rfl (hb hby at_161) rfl rfl ?_
      exact kt
    obtain ⟨cq70, kq70, q70a, q70b, q70c⟩ := isOf hZ67 rfl (o62_e.keep K67)
    obtain ⟨_, _, ⟨T70, L70, k70, n70⟩, -, X70, ⟨Lc70, hQ70, l70, y70, z70⟩, st70⟩ := X67.virtualBack hx (y := (⟨"java/lang/String", "length", "()I"⟩ : MethodName)) (z := (⟨"java/lang/String", "length", "()I"⟩ : MethodName)) hown67 (mvT hZ67 (hw _ (List.mem_of_getElem? (i := 90) rfl))) (mvT hZ67 (hw _ (List.mem_of_getElem? (i := 55) rfl))) (notFace_of_selects (args := #[]) (mvT hZ67 (hw _ (List.mem_of_getElem? (i := 57) rfl)))) (mvT hZ67 (hw _ (List.mem_of_getElem? (i := 57) rfl))) (mvT hZ67 (hw _ (List.mem_of_getElem? (i := 56) rfl))) (by decide) (backOf (W := 0) (rmLN4 l Z a0 hw [] b49 sv62 ks62 [(.int w0), (.int w1), (.int w2), (.int w3)] cs T67.heap n0 Z68 (o62_e.keep K67) (o62_v.keep K67 nin0) (o62_c.keep K67 nin0) (o62_a.keep K67 nin0) S69 hcs) hZ67 (hw _ (List.mem_of_getElem? (i := 58) rfl)) (hw _ (List.mem_of_getElem? (i := 7) rfl)) (by decide) (by decide)) q70a q70c (g := (mkF m 163 #[.val (.int nn), .val (.int pa), .val (.int pb), .val (.int pg), .val (.int pd), .val (.int (4 : Int32)), .val (.int w0), .val (.int w1), .val (.int w2), .val (.int w3), .val (.ref b49), .val (.ref b49)] [(.ref b49)])) rfl (by rw [hml]; rfl) (Steps.refl _) (argsL := []) (rest := []) (lenOf pd__28_29I rfl) rfl (by show 2 * 0 + _ ≤ _; exact Nat.le_of_eq rfl) (hb hby at_163) (fun _ _ => ⟨rfl, rfl, (by decide : 7 + 0 ≤ _), (by decide : 180 + 0 ≤ _)⟩)
    dsimp only [Pt.U, Pt.locs, Pt.cells, Pt.slots] at X70 l70 y70 z70 st70 hQ70
    obtain ⟨rfl, N70q, e70⟩ := hQ70
    obtain ⟨lc70, X70, N70⟩ := own_pack X70 l70 y70 z70 N67 N70q (C := 7) (S' := 180) rfl rfl
    refine own_thrW (a := T70.setTop (mkF m 166 #[.val (.int nn), .val (.int pa), .val (.int pb), .val (.int pg), .val (.int pd), .val (.int (4 : Int32)), .val (.int w0), .val (.int w1), .val (.int w2), .val (.int w3), .val (.ref b49), .val (.ref b49)] [(.int (4 : Int32))])) (fun t kt => st70.trans kt) ?_
    refine own_thrW (a := T70.setTop (mkF m 176 #[.val (.int nn), .val (.int pa), .val (.int pb), .val (.int pg), .val (.int pd), .val (.int (4 : Int32)), .val (.int w0), .val (.int w1), .val (.int w2), .val (.int w3), .val (.ref b49), .val (.ref b49)] [(.int (1 : Int32))])) (fun t kt => ?_) ?_
    · show Steps p.tables e below (T70.setTop (mkF m 166 #[.val (.int nn), .val (.int pa), .val (.int pb), .val (.int pg), .val (.int pd), .val (.int (4 : Int32)), .val (.int w0), .val (.int w1), .val (.int w2), .val (.int w3), .val (.ref b49), .val (.ref b49)] [(.int (4 : Int32))])) _
      refine XS.iload X70.here hx rfl (hb hby at_166) rfl ?_
      refine XS.icmpNo X70.here hx rfl (hb hby at_168) rfl (teq rfl).2 ?_
      refine XS.iconst X70.here hx rfl (hb hby at_171) ?_
      refine XS.goto X70.here hx rfl (pc0 := 172) (pc' := 176) rfl (hb hby at_172) (by decide) (by decide) ?_
      exact kt
    exact own_endW X70 hS67 (by rw [e70]; exact (Nat.le_refl _)) hlk (v := some (.int (1 : Int32))) (fun h => by rw [Bd.returns] at h; cases h) (fun fs hr => retN X70 hx (t := .boolean) Bd.returns (by simp) (hb hby at_176) hr) ⟨rfl, N70⟩ (by decide : 7 ≤ _) (by decide : 180 ≤ _)
set_option maxRecDepth 65536 in
set_option maxHeartbeats 40000000 in
theorem comes_1 {Post : Tables → Env → Array Value → State → Outcome → State → Prop} (hpost : ∀ tb e args s v u, (limb_1_1.after args s (.returned v) u = true ∧ limb_1_2.after args s (.returned v) u = true ∧ True) → ReturnedEndW s (.returned v) u (Jvm.fieldLocs frame_1_writes args s ++ Jvm.arrayLocs frame_1_arrays args s ++ Jvm.staticLocs frame_1_statics s) 24 2176 → Post tb e args s (.returned v) u) :
    ArmFor flags0 classFile x code maxLocals ret World_1 tables_1 room_1 Calls_1 rest_1 Pre_1 Post := by
  intro l hfl _ _ p e ha hc hk s m args below hf hA hF happ hP
  obtain ⟨hcalls, hrest, hpre⟩ := hP
  obtain ⟨-, -, -, hnamed, -, -, -, hat⟩ := (Spec.applies_iff hf).mp happ
  obtain ⟨hg, hn⟩ := and_e (Cond.before_iff.mp (show (Jvm.Cond.and given_1 narrow_1).before args s = true from hpre))
  obtain ⟨g1, g2⟩ := and_e hg
  obtain ⟨g3, g4⟩ := and_e g2
  obtain ⟨g5, g6⟩ := and_e g4
  obtain ⟨g7, g8⟩ := and_e g6
  obtain ⟨g9, g10⟩ := and_e g8
  obtain ⟨w0, w1, w2, w3, w4, rfl⟩ : ∃ w0 w1 w2 w3 w4 : Value, args = #[w0, w1, w2, w3, w4] := by
    have hs : args.size = 5 := by simpa [Cond.value, given_1] using g1
    obtain ⟨L⟩ := args
    match L, hs with
    | [w0, w1, w2, w3, w4], _ => exact ⟨w0, w1, w2, w3, w4, rfl⟩
  have hw := fun d (hd : d ∈ tables_1) => atoms_spec (ws := Jvm.Cond.code x code maxLocals ret :: tables_1) hat d (List.mem_cons_of_mem _ hd)
  have hfit : Fit s := fun {y c} hc i hi => by
    obtain ⟨ha, rfl⟩ := Array.getElem?_eq_some_iff.mp hc
    have q := List.all_eq_true.mp ((Array.all_eq_true_iff_forall_mem.mp hF) _ (Array.getElem_mem ha)) i (List.mem_range.mpr hi)
    simpa [Array.getElem?_eq_getElem hi] using q
  obtain ⟨hsets, hown0⟩ := atoms_of _ (rest_1_c_eq ▸ (show rest_1_c.before _ s = true from hrest))
  have hr0 := Cond.before_iff.mp hown0
  obtain ⟨i0, ei0⟩ := is_v g3
  obtain rfl : w0 = (.int i0) := Option.some.inj ei0
  obtain ⟨i1, ei1⟩ := is_v g5
  obtain rfl : w1 = (.int i1) := Option.some.inj ei1
  obtain ⟨i2, ei2⟩ := is_v g7
  obtain rfl : w2 = (.int i2) := Option.some.inj ei2
  obtain ⟨i3, ei3⟩ := is_v g9
  obtain rfl : w3 = (.int i3) := Option.some.inj ei3
  obtain ⟨i4, ei4⟩ := is_v g10
  obtain rfl : w4 = (.int i4) := Option.some.inj ei4
  obtain ⟨cs, ecs⟩ := is_v (Cond.before_iff.mp (hsets _ (List.mem_of_getElem? (i := 1) rfl)))
  have S_cs : Sta s s.heap "java/lang/String" "COMPACT_STRINGS" "Z" (.int cs) := Sta.start ecs (Or.inl (hsets _ (List.mem_of_getElem? (i := 0) rfl)))
  have hcs : ¬ cs = (0 : Int32) := own_not0 ecs (Cond.before_iff.mp (hsets _ (List.mem_of_getElem? (i := 2) rfl)))
  obtain ⟨fm, efm, hfm⟩ := isR_v (Cond.before_iff.mp (hsets _ (List.mem_of_getElem? (i := 8) rfl)))
  have S_fm : Sta s s.heap "jdk/internal/util/Preconditions" "SIOOBE_FORMATTER" "Ljava/util/function/BiFunction;" fm := Sta.start efm (Or.inl (hsets _ (List.mem_of_getElem? (i := 7) rfl)))
  obtain ⟨n, o, h1, h2, h3, _, L, rfl, ⟨rfl, N⟩, hq⟩ := rm0 l s _ hw tables_1 i0 i1 i2 i3 i4 cs fm s.heap s.heap.size (Nat.le_refl _) S_cs hcs S_fm hfm (Old.start s) p e ha hc hk s m _ below hf ((Spec.applies_iff_loose hf).mp happ).1 ⟨rfl, State.Warmed39.refl s, rfl⟩ trivial
  refine ⟨n, _, h1, h2, h3, hpost _ _ _ _ _ _ ⟨Cond.after_iff.mpr rfl, Cond.after_iff.mpr (eq_i res_at (Term.int_eval (1)) rfl), trivial⟩ ⟨hq.1, hq.2.1, hq.2.2.1, (hq.2.2.2.sift fun y hy => Or.inr (N y hy)).mono (by decide) (by decide)⟩⟩
theorem main_1_1 : Claimed_1_1 := comes_1 fun _ _ _ _ _ _ h hF => ⟨h.1, hF⟩
theorem main_1_2 : Claimed_1_2 := comes_1 fun _ _ _ _ _ _ h hF => ⟨h.2.1, hF⟩
end Jvm.Pilot.@@N@@
namespace Jvm.Pilot.@@N@@
open Jvm Jvm.ClassFile Sem Op Lib Jvm.Free Jvm.Stand Jvm.Pilot.@@N@@.Jvm.D
/-! MADE BY PROGRAM (witnessworld.py) out of the Statement's table words and the real class files: 21 classes; the members and pool entries that the words name. The judged class is class 1, her method 2. -/
namespace start1
open Jvm.ClassFile
def u (s : String) : CpInfo := .utf8 (stringToUtf16 s)
/-- a pool by its gaps: so many unusable entries, then the entry; so many at the end -/
def gap : Nat → List CpInfo → List CpInfo
  | 0, r => r
  | n + 1, r => .unusable :: gap n r
def poolList (es : List (Nat × CpInfo)) (last : Nat) : List CpInfo := es.foldr (fun e r => gap e.1 (e.2 :: r)) (gap last [])
def pool (es : List (Nat × CpInfo)) (last : Nat) : Array CpInfo := ⟨poolList es last⟩
def fileOf (pool : Array CpInfo) (this : Nat) (attrs : Array Attribute := #[]) (ms : Array MethodInfo := #[]) (fl : Nat := 33) (sup : Nat := 0) (ifs : Array Nat := #[]) (fds : Array FieldInfo := #[]) : ClassFile where
  minorVersion := 0
  majorVersion := 65
  constantPool := pool
  accessFlags := fl
  thisClass := this
  superClass := sup
  interfaces := ifs
  fields := fds
  methods := ms
  attributes := attrs
def plain (name : String) (sup : Option ClassId) : Class where
  name := name
  kind := .ordinary
  loader := none
  accessFlags := 33
  super := sup
  interfaces := #[]
  cf := none
  fields := #[]
  methods := #[]
  instanceTypes := #[]
  staticTypes := #[]
  resolved := #[]
  callSites := []
  init := .initialized
  statics := none
  mirror := none

def pool0 : Array CpInfo := pool [(5, u "<init>"), (0, u "()V"), (1, .class_ 10), (1, u "java/lang/Object")] 113

def k0c0 : Code := { maxStack := 0, maxLocals := 1, code := object_method_1_code, exceptionTable := #[], attributes := #[] }
def k0m0 : Method := { name := "<init>", desc := "()V", sig := { parameters := [], returnType := none }, accessFlags := 1, code := some k0c0 }
/-- java/lang/Object -/
def k0 : Class := { plain "java/lang/Object" none with
  accessFlags := 33
  interfaces := #[]
  cf := some (fileOf pool0 8 #[] #[{ accessFlags := 1, nameIndex := 5, descriptorIndex := 6, attributes := #[] }] 33 0 #[] #[])
  fields := #[]
  methods := #[k0m0]
  instanceTypes := #[]
  staticTypes := #[]
  resolved := Array.replicate 124 none
  statics := none }

def pool1 : Array CpInfo := pool [(2, .class_ 4), (1, u "java/lang/Object"), (0, u "<init>"), (0, u "()V"), (0, .integer 2147483647), (0, .methodref 9 10), (0, .class_ 11), (0, .nameAndType 12 13), (0, u "com/example/chronoshard/chronoshard/model/LimitsCheckInstanceIdPinLaw"), (0, u "printable"), (0, u "(I)C"), (0, .methodref 15 16), (0, .class_ 17), (0, .nameAndType 18 19), (0, u "java/lang/String"), (0, u "valueOf"), (0, u "(C)Ljava/lang/String;"), (0, .methodref 15 21), (0, .nameAndType 5 22), (0, u "([C)V"), (0, .methodref 24 25), (0, .class_ 26), (0, .nameAndType 27 28), (0, u "com/example/chronoshard/chronoshard/model/Limits"), (0, u "checkInstanceId"), (0, u "(Ljava/lang/String;)Ljava/lang/String;"), (0, .methodref 15 30), (0, .nameAndType 31 32), (0, u "length"), (0, u "()I"), (2, u "law"), (0, u "(IIIII)Z")] 3

def k1m0 : Method := { name := "<init>", desc := "()V", sig := { parameters := [], returnType := none }, accessFlags := 2, code := none }
def k1c1 : Code := { maxStack := 3, maxLocals := 1, code := method_2_code, exceptionTable := #[], attributes := #[] }
def k1m1 : Method := { name := "printable", desc := "(I)C", sig := { parameters := [.int], returnType := some .char }, accessFlags := 10, code := some k1c1 }
def k1c2 : Code := { maxStack := 6, maxLocals := 12, code := code, exceptionTable := #[], attributes := #[] }
def k1m2 : Method := { name := "law", desc := "(IIIII)Z", sig := { parameters := [.int, .int, .int, .int, .int], returnType := some .boolean }, accessFlags := 9, code := some k1c2 }
/-- com/example/chronoshard/chronoshard/model/LimitsCheckInstanceIdPinLaw -/
def k1 : Class := { plain "com/example/chronoshard/chronoshard/model/LimitsCheckInstanceIdPinLaw" (some 0) with
  accessFlags := 49
  interfaces := #[]
  cf := some (fileOf pool1 9 #[] #[{ accessFlags := 2, nameIndex := 5, descriptorIndex := 6, attributes := #[] }, { accessFlags := 10, nameIndex := 12, descriptorIndex := 13, attributes := #[] }, { accessFlags := 9, nameIndex := 35, descriptorIndex := 36, attributes := #[] }] 49 2 #[] #[])
  fields := #[]
  methods := #[k1m0, k1m1, k1m2]
  instanceTypes := #[]
  staticTypes := #[]
  resolved := Array.replicate 40 none
  statics := none }

def pool2 : Array CpInfo := pool [(1, .class_ 2), (0, u "java/io/Serializable"), (0, .class_ 4), (0, u "java/lang/Object")] 2

/-- java/io/Serializable -/
def k2 : Class := { plain "java/io/Serializable" (some 0) with
  accessFlags := 1537
  interfaces := #[]
  cf := some (fileOf pool2 1 #[] #[] 1537 3 #[] #[])
  fields := #[]
  methods := #[]
  instanceTypes := #[]
  staticTypes := #[]
  resolved := Array.replicate 7 none
  statics := none }

def pool3 : Array CpInfo := pool [(1, .class_ 2), (0, u "java/lang/Comparable"), (0, .class_ 4), (0, u "java/lang/Object")] 7

/-- java/lang/Comparable -/
def k3 : Class := { plain "java/lang/Comparable" (some 0) with
  accessFlags := 1537
  interfaces := #[]
  cf := some (fileOf pool3 1 #[] #[] 1537 3 #[] #[])
  fields := #[]
  methods := #[]
  instanceTypes := #[]
  staticTypes := #[]
  resolved := Array.replicate 12 none
  statics := none }

def pool4 : Array CpInfo := pool [(2, .class_ 4), (1, u "java/lang/CharSequence"), (42, .class_ 48), (0, u "java/lang/CharSequence$1CodePointIterator"), (10, .class_ 60), (0, u "java/lang/CharSequence$1CharIterator"), (5, .class_ 67), (0, u "java/lang/Object")] 63

/-- java/lang/CharSequence -/
def k4 : Class := { plain "java/lang/CharSequence" (some 0) with
  accessFlags := 1537
  interfaces := #[]
  cf := some (fileOf pool4 2 #[.nestMembers #[47, 59]] #[] 1537 66 #[] #[])
  fields := #[]
  methods := #[]
  instanceTypes := #[]
  staticTypes := #[]
  resolved := Array.replicate 131 none
  statics := none }

def pool5 : Array CpInfo := pool [(1, .class_ 2), (0, u "java/lang/constant/Constable"), (0, .class_ 4), (0, u "java/lang/Object")] 6

/-- java/lang/constant/Constable -/
def k5 : Class := { plain "java/lang/constant/Constable" (some 0) with
  accessFlags := 1537
  interfaces := #[]
  cf := some (fileOf pool5 1 #[] #[] 1537 3 #[] #[])
  fields := #[]
  methods := #[]
  instanceTypes := #[]
  staticTypes := #[]
  resolved := Array.replicate 11 none
  statics := none }

def pool6 : Array CpInfo := pool [(1, .class_ 2), (0, u "java/lang/constant/ConstantDesc"), (0, .class_ 4), (0, u "java/lang/Object")] 32

/-- java/lang/constant/ConstantDesc -/
def k6 : Class := { plain "java/lang/constant/ConstantDesc" (some 0) with
  accessFlags := 1537
  interfaces := #[]
  cf := some (fileOf pool6 1 #[] #[] 1537 3 #[] #[])
  fields := #[]
  methods := #[]
  instanceTypes := #[]
  staticTypes := #[]
  resolved := Array.replicate 37 none
  statics := none }

def pool7 : Array CpInfo := pool [(1, .methodref 2 3), (0, .class_ 4), (0, .nameAndType 5 6), (0, u "java/lang/Object"), (0, u "<init>"), (0, u "()V"), (2, .fieldref 10 11), (0, .class_ 12), (0, .nameAndType 13 14), (0, u "java/lang/String"), (0, u "value"), (0, u "[B"), (0, .fieldref 10 16), (0, .nameAndType 17 18), (0, u "coder"), (0, u "B"), (2, u "hash"), (0, u "I"), (2, u "hashIsZero"), (0, u "Z"), (0, .methodref 10 28), (0, .nameAndType 5 29), (0, u "([CIILjava/lang/Void;)V"), (8, .fieldref 10 39), (0, .nameAndType 40 26), (0, u "COMPACT_STRINGS"), (1, .class_ 44), (1, u "java/lang/StringUTF16"), (0, u "compress"), (1, .methodref 42 48), (0, .nameAndType 49 50), (0, u "coderFromArrayLen"), (0, u "([BI)B"), (2, u "toBytes"), (53, .class_ 109), (1, u "java/lang/StringLatin1"), (32, u "()Z"), (34, .methodref 42 178), (0, .nameAndType 45 179), (0, u "([CII)[B"), (29, .methodref 10 210), (0, .nameAndType 5 211), (0, u "([BB)V"), (122, u "()I"), (0, .methodref 10 336), (0, .nameAndType 17 337), (0, u "()B"), (25, u "([BI)C"), (5, u "(C)Z"), (21, u "(II)V"), (35, u "(I)C"), (64, .methodref 10 493), (0, .nameAndType 494 142), (0, u "isLatin1"), (0, .methodref 107 496), (0, .nameAndType 497 363), (0, u "charAt"), (3, u "checkIndex"), (5, u "length"), (67, .class_ 576), (0, u "java/lang/CharSequence"), (22, u "CASE_INSENSITIVE_ORDER"), (0, u "Ljava/util/Comparator;"), (91, u "isEmpty"), (89, u "valueOf"), (0, u "(C)Ljava/lang/String;"), (226, u "([C)V"), (4, .methodref 107 1016), (0, .nameAndType 1017 369), (0, u "canEncode"), (0, .methodref 107 1019), (0, .nameAndType 53 1020), (0, u "(C)[B"), (32, .fieldref 1054 1055), (0, .class_ 1056), (0, .nameAndType 1057 1058), (0, u "jdk/internal/util/Preconditions"), (0, u "SIOOBE_FORMATTER"), (0, u "Ljava/util/function/BiFunction;"), (0, .methodref 1054 1060), (0, .nameAndType 501 1061), (0, u "(IILjava/util/function/BiFunction;)I"), (39, u "serialPersistentFields"), (0, u "[Ljava/io/ObjectStreamField;"), (0, .class_ 1104), (0, u "java/lang/String$CaseInsensitiveComparator"), (1, .class_ 1107), (0, u "java/io/Serializable"), (0, .class_ 1109), (0, u "java/lang/Comparable"), (0, .class_ 1111), (0, u "java/lang/constant/Constable"), (0, .class_ 1113), (0, u "java/lang/constant/ConstantDesc"), (2, u "serialVersionUID"), (0, u "J"), (3, u "REPL"), (0, u "C"), (2, u "LATIN1"), (1, u "UTF16")] 323

def k7m0 : Method := { name := "<init>", desc := "()V", sig := { parameters := [], returnType := none }, accessFlags := 1, code := none }
def k7c1 : Code := { maxStack := 5, maxLocals := 2, code := jdk_42_method_3_code, exceptionTable := #[], attributes := #[] }
def k7m1 : Method := { name := "<init>", desc := "([C)V", sig := { parameters := [(.array .char)], returnType := none }, accessFlags := 1, code := some k7c1 }
def k7c2 : Code := { maxStack := 2, maxLocals := 1, code := jdk_42_method_54_code, exceptionTable := #[], attributes := #[] }
def k7m2 : Method := { name := "length", desc := "()I", sig := { parameters := [], returnType := some .int }, accessFlags := 1, code := some k7c2 }
def k7c3 : Code := { maxStack := 1, maxLocals := 1, code := jdk_42_method_55_code, exceptionTable := #[], attributes := #[] }
def k7m3 : Method := { name := "isEmpty", desc := "()Z", sig := { parameters := [], returnType := some .boolean }, accessFlags := 1, code := some k7c3 }
def k7c4 : Code := { maxStack := 2, maxLocals := 2, code := jdk_42_method_56_code, exceptionTable := #[], attributes := #[] }
def k7m4 : Method := { name := "charAt", desc := "(I)C", sig := { parameters := [.int], returnType := some .char }, accessFlags := 1, code := some k7c4 }
def k7c5 : Code := { maxStack := 4, maxLocals := 1, code := jdk_42_method_139_code, exceptionTable := #[], attributes := #[] }
def k7m5 : Method := { name := "valueOf", desc := "(C)Ljava/lang/String;", sig := { parameters := [.char], returnType := some (.object "java/lang/String") }, accessFlags := 9, code := some k7c5 }
def k7c6 : Code := { maxStack := 4, maxLocals := 6, code := jdk_42_method_149_code, exceptionTable := #[], attributes := #[] }
def k7m6 : Method := { name := "<init>", desc := "([CIILjava/lang/Void;)V", sig := { parameters := [(.array .char), .int, .int, (.object "java/lang/Void")], returnType := none }, accessFlags := 2, code := some k7c6 }
def k7c7 : Code := { maxStack := 2, maxLocals := 3, code := jdk_42_method_151_code, exceptionTable := #[], attributes := #[] }
def k7m7 : Method := { name := "<init>", desc := "([BB)V", sig := { parameters := [(.array .byte), .byte], returnType := none }, accessFlags := 0, code := some k7c7 }
def k7c8 : Code := { maxStack := 1, maxLocals := 1, code := jdk_42_method_152_code, exceptionTable := #[], attributes := #[] }
def k7m8 : Method := { name := "coder", desc := "()B", sig := { parameters := [], returnType := some .byte }, accessFlags := 0, code := some k7c8 }
def k7c9 : Code := { maxStack := 1, maxLocals := 1, code := jdk_42_method_154_code, exceptionTable := #[], attributes := #[] }
def k7m9 : Method := { name := "isLatin1", desc := "()Z", sig := { parameters := [], returnType := some .boolean }, accessFlags := 0, code := some k7c9 }
def k7c10 : Code := { maxStack := 3, maxLocals := 2, code := jdk_42_method_155_code, exceptionTable := #[], attributes := #[] }
def k7m10 : Method := { name := "checkIndex", desc := "(II)V", sig := { parameters := [.int, .int], returnType := none }, accessFlags := 8, code := some k7c10 }
/-- java/lang/String -/
def k7 : Class := { plain "java/lang/String" (some 0) with
  accessFlags := 49
  interfaces := #[2, 3, 4, 5, 6]
  cf := some (fileOf pool7 10 #[.nestMembers #[1103]] #[{ accessFlags := 1, nameIndex := 5, descriptorIndex := 6, attributes := #[] }, { accessFlags := 1, nameIndex := 5, descriptorIndex := 1010, attributes := #[] }, { accessFlags := 1, nameIndex := 507, descriptorIndex := 334, attributes := #[] }, { accessFlags := 1, nameIndex := 692, descriptorIndex := 142, attributes := #[] }, { accessFlags := 1, nameIndex := 497, descriptorIndex := 427, attributes := #[] }, { accessFlags := 9, nameIndex := 782, descriptorIndex := 783, attributes := #[] }, { accessFlags := 2, nameIndex := 5, descriptorIndex := 29, attributes := #[] }, { accessFlags := 0, nameIndex := 5, descriptorIndex := 211, attributes := #[] }, { accessFlags := 0, nameIndex := 17, descriptorIndex := 337, attributes := #[] }, { accessFlags := 0, nameIndex := 494, descriptorIndex := 142, attributes := #[] }, { accessFlags := 8, nameIndex := 501, descriptorIndex := 391, attributes := #[] }] 49 2 #[1106, 1108, 575, 1110, 1112] #[{ accessFlags := 18, nameIndex := 13, descriptorIndex := 14, attributes := #[] }, { accessFlags := 18, nameIndex := 17, descriptorIndex := 18, attributes := #[] }, { accessFlags := 2, nameIndex := 21, descriptorIndex := 22, attributes := #[] }, { accessFlags := 2, nameIndex := 25, descriptorIndex := 26, attributes := #[] }, { accessFlags := 26, nameIndex := 1116, descriptorIndex := 1117, attributes := #[] }, { accessFlags := 24, nameIndex := 40, descriptorIndex := 26, attributes := #[] }, { accessFlags := 26, nameIndex := 1101, descriptorIndex := 1102, attributes := #[] }, { accessFlags := 26, nameIndex := 1121, descriptorIndex := 1122, attributes := #[] }, { accessFlags := 25, nameIndex := 599, descriptorIndex := 600, attributes := #[] }, { accessFlags := 24, nameIndex := 1125, descriptorIndex := 18, attributes := #[] }, { accessFlags := 24, nameIndex := 1127, descriptorIndex := 18, attributes := #[] }])
  fields := #[{ name := "value", type := (.array .byte), accessFlags := 18, slot := 0, constantValue := 0 }, { name := "coder", type := .byte, accessFlags := 18, slot := 1, constantValue := 0 }, { name := "hash", type := .int, accessFlags := 2, slot := 2, constantValue := 0 }, { name := "hashIsZero", type := .boolean, accessFlags := 2, slot := 3, constantValue := 0 }, { name := "serialVersionUID", type := .long, accessFlags := 26, slot := 0, constantValue := 0 }, { name := "COMPACT_STRINGS", type := .boolean, accessFlags := 24, slot := 1, constantValue := 0 }, { name := "serialPersistentFields", type := (.array (.object "java/io/ObjectStreamField")), accessFlags := 26, slot := 2, constantValue := 0 }, { name := "REPL", type := .char, accessFlags := 26, slot := 3, constantValue := 0 }, { name := "CASE_INSENSITIVE_ORDER", type := (.object "java/util/Comparator"), accessFlags := 25, slot := 4, constantValue := 0 }, { name := "LATIN1", type := .byte, accessFlags := 24, slot := 5, constantValue := 0 }, { name := "UTF16", type := .byte, accessFlags := 24, slot := 6, constantValue := 0 }]
  methods := #[k7m0, k7m1, k7m2, k7m3, k7m4, k7m5, k7m6, k7m7, k7m8, k7m9, k7m10]
  instanceTypes := #[(.array .byte), .byte, .int, .boolean]
  staticTypes := #[.long, .boolean, (.array (.object "java/io/ObjectStreamField")), .char, (.object "java/util/Comparator"), .byte, .byte]
  resolved := Array.replicate 1451 none
  statics := some 0 }

def pool8 : Array CpInfo := pool [(1, .class_ 2), (0, u "java/lang/String"), (1, .class_ 6), (1, u "java/lang/Object"), (0, u "<init>"), (0, u "()V"), (0, .methodref 1 10), (0, .nameAndType 11 12), (0, u "checkIndex"), (0, u "(II)V"), (1, .class_ 16), (1, u "java/lang/StringLatin1"), (36, u "([BI)C"), (36, u "canEncode"), (14, u "(C)Z"), (15, u "$assertionsDisabled"), (0, u "Z"), (98, .class_ 223), (1, u "java/lang/StringLatin1$LinesSpliterator"), (28, u "charAt"), (127, u "toBytes"), (1, u "(C)[B"), (7, .class_ 391), (0, u "java/lang/StringLatin1$CharsSpliterator")] 3

def k8m0 : Method := { name := "<init>", desc := "()V", sig := { parameters := [], returnType := none }, accessFlags := 0, code := none }
def k8c1 : Code := { maxStack := 2, maxLocals := 2, code := jdk_43_method_2_code, exceptionTable := #[], attributes := #[] }
def k8m1 : Method := { name := "charAt", desc := "([BI)C", sig := { parameters := [(.array .byte), .int], returnType := some .char }, accessFlags := 9, code := some k8c1 }
def k8c2 : Code := { maxStack := 2, maxLocals := 1, code := jdk_43_method_3_code, exceptionTable := #[], attributes := #[] }
def k8m2 : Method := { name := "canEncode", desc := "(C)Z", sig := { parameters := [.char], returnType := some .boolean }, accessFlags := 9, code := some k8c2 }
def k8c3 : Code := { maxStack := 4, maxLocals := 1, code := jdk_43_method_46_code, exceptionTable := #[], attributes := #[] }
def k8m3 : Method := { name := "toBytes", desc := "(C)[B", sig := { parameters := [.char], returnType := some (.array .byte) }, accessFlags := 9, code := some k8c3 }
/-- java/lang/StringLatin1 -/
def k8 : Class := { plain "java/lang/StringLatin1" (some 0) with
  accessFlags := 48
  interfaces := #[]
  cf := some (fileOf pool8 14 #[.nestMembers #[390, 221]] #[{ accessFlags := 0, nameIndex := 7, descriptorIndex := 8, attributes := #[] }, { accessFlags := 9, nameIndex := 252, descriptorIndex := 53, attributes := #[] }, { accessFlags := 9, nameIndex := 90, descriptorIndex := 105, attributes := #[] }, { accessFlags := 9, nameIndex := 380, descriptorIndex := 382, attributes := #[] }] 48 4 #[] #[{ accessFlags := 4120, nameIndex := 121, descriptorIndex := 122, attributes := #[] }])
  fields := #[{ name := "$assertionsDisabled", type := .boolean, accessFlags := 4120, slot := 0, constantValue := 0 }]
  methods := #[k8m0, k8m1, k8m2, k8m3]
  instanceTypes := #[]
  staticTypes := #[.boolean]
  resolved := Array.replicate 395 none
  statics := none }

def pool9 : Array CpInfo := pool [(2, .class_ 4), (1, u "java/lang/Object"), (0, u "<init>"), (0, u "()V"), (2, .class_ 10), (0, u "com/example/chronoshard/chronoshard/model/Limits"), (4, u "NAME_CHARACTER"), (0, u "Ljava/util/function/IntPredicate;"), (0, .methodref 9 18), (0, .nameAndType 19 20), (0, u "checkText"), (0, u "(Ljava/lang/String;Ljava/lang/String;ILjava/lang/String;Ljava/util/function/IntPredicate;)Ljava/lang/String;"), (4, .string 26), (0, u "instance id"), (0, .string 28), (0, u "printable ASCII, space to '~'"), (0, .invokeDynamic 0 30), (0, .nameAndType 31 32), (0, u "test"), (0, u "()Ljava/util/function/IntPredicate;"), (2, .methodref 36 37), (0, .class_ 38), (0, .nameAndType 39 40), (0, u "java/util/Objects"), (0, u "requireNonNull"), (0, u "(Ljava/lang/Object;Ljava/lang/String;)Ljava/lang/Object;"), (10, .methodref 52 53), (0, .class_ 54), (0, .nameAndType 55 56), (0, u "java/lang/String"), (0, u "isEmpty"), (0, u "()Z"), (0, .methodref 52 58), (0, .nameAndType 59 60), (0, u "length"), (0, u "()I"), (3, .methodref 52 65), (0, .nameAndType 66 67), (0, u "charAt"), (0, u "(I)C"), (0, .interfaceMethodref 69 70), (0, .class_ 71), (0, .nameAndType 31 72), (0, u "java/util/function/IntPredicate"), (0, u "(I)Z"), (24, u "MAX_TASK_NAME_LENGTH"), (0, u "I"), (2, u "MAX_INSTANCE_ID_LENGTH"), (1, u "MAX_NODE_ID_LENGTH"), (0, u "MAX_SCHEDULE_NAME_LENGTH"), (0, u "MAX_PAYLOAD_BYTES"), (0, u "NAME_CHARACTERS"), (0, u "Ljava/lang/String;"), (3, u "(Ljava/lang/String;)Ljava/lang/String;"), (2, u "checkInstanceId"), (3, u "lambda$checkInstanceId$1"), (5, .methodType 72), (0, .methodHandle 6 126), (0, .methodref 9 127), (0, .nameAndType 118 72), (9, .methodHandle 6 138), (0, .methodref 139 140), (0, .class_ 141), (0, .nameAndType 142 143), (0, u "java/lang/invoke/LambdaMetafactory"), (0, u "metafactory"), (0, u "(Ljava/lang/invoke/MethodHandles$Lookup;Ljava/lang/String;Ljava/lang/invoke/MethodType;Ljava/lang/invoke/MethodType;Ljava/lang/invoke/MethodHandle;Ljava/lang/invoke/MethodType;)Ljava/lang/invoke/CallSite;")] 12

def k9m0 : Method := { name := "<init>", desc := "()V", sig := { parameters := [], returnType := none }, accessFlags := 2, code := none }
def k9c1 : Code := { maxStack := 5, maxLocals := 1, code := prog_8_method_5_code, exceptionTable := #[], attributes := #[] }
def k9m1 : Method := { name := "checkInstanceId", desc := "(Ljava/lang/String;)Ljava/lang/String;", sig := { parameters := [(.object "java/lang/String")], returnType := some (.object "java/lang/String") }, accessFlags := 9, code := some k9c1 }
def k9c2 : Code := { maxStack := 5, maxLocals := 6, code := prog_8_method_7_code, exceptionTable := #[], attributes := #[] }
def k9m2 : Method := { name := "checkText", desc := "(Ljava/lang/String;Ljava/lang/String;ILjava/lang/String;Ljava/util/function/IntPredicate;)Ljava/lang/String;", sig := { parameters := [(.object "java/lang/String"), (.object "java/lang/String"), .int, (.object "java/lang/String"), (.object "java/util/function/IntPredicate")], returnType := some (.object "java/lang/String") }, accessFlags := 10, code := some k9c2 }
def k9c3 : Code := { maxStack := 2, maxLocals := 1, code := prog_8_method_9_code, exceptionTable := #[], attributes := #[] }
def k9m3 : Method := { name := "lambda$checkInstanceId$1", desc := "(I)Z", sig := { parameters := [.int], returnType := some .boolean }, accessFlags := 4106, code := some k9c3 }
/-- com/example/chronoshard/chronoshard/model/Limits -/
def k9 : Class := { plain "com/example/chronoshard/chronoshard/model/Limits" (some 0) with
  accessFlags := 49
  interfaces := #[]
  cf := some (fileOf pool9 9 #[.bootstrapMethods #[⟨137, #[124, 125, 124]⟩, ⟨0, #[]⟩, ⟨0, #[]⟩, ⟨0, #[]⟩, ⟨0, #[]⟩]] #[{ accessFlags := 2, nameIndex := 5, descriptorIndex := 6, attributes := #[] }, { accessFlags := 9, nameIndex := 114, descriptorIndex := 111, attributes := #[] }, { accessFlags := 10, nameIndex := 19, descriptorIndex := 20, attributes := #[] }, { accessFlags := 4106, nameIndex := 118, descriptorIndex := 72, attributes := #[] }] 49 2 #[] #[{ accessFlags := 25, nameIndex := 97, descriptorIndex := 98, attributes := #[] }, { accessFlags := 25, nameIndex := 101, descriptorIndex := 98, attributes := #[] }, { accessFlags := 25, nameIndex := 103, descriptorIndex := 98, attributes := #[] }, { accessFlags := 25, nameIndex := 104, descriptorIndex := 98, attributes := #[] }, { accessFlags := 25, nameIndex := 105, descriptorIndex := 98, attributes := #[] }, { accessFlags := 26, nameIndex := 106, descriptorIndex := 107, attributes := #[] }, { accessFlags := 26, nameIndex := 15, descriptorIndex := 16, attributes := #[] }])
  fields := #[{ name := "MAX_TASK_NAME_LENGTH", type := .int, accessFlags := 25, slot := 0, constantValue := 0 }, { name := "MAX_INSTANCE_ID_LENGTH", type := .int, accessFlags := 25, slot := 1, constantValue := 0 }, { name := "MAX_NODE_ID_LENGTH", type := .int, accessFlags := 25, slot := 2, constantValue := 0 }, { name := "MAX_SCHEDULE_NAME_LENGTH", type := .int, accessFlags := 25, slot := 3, constantValue := 0 }, { name := "MAX_PAYLOAD_BYTES", type := .int, accessFlags := 25, slot := 4, constantValue := 0 }, { name := "NAME_CHARACTERS", type := (.object "java/lang/String"), accessFlags := 26, slot := 5, constantValue := 0 }, { name := "NAME_CHARACTER", type := (.object "java/util/function/IntPredicate"), accessFlags := 26, slot := 6, constantValue := 0 }]
  methods := #[k9m0, k9m1, k9m2, k9m3]
  instanceTypes := #[]
  staticTypes := #[.int, .int, .int, .int, .int, (.object "java/lang/String"), (.object "java/util/function/IntPredicate")]
  resolved := Array.replicate 156 none
  callSites := [(1, 8, .constant 2)]
  statics := none }

def pool10 : Array CpInfo := pool [(9, u "test"), (6, .class_ 18), (1, u "java/util/function/IntPredicate"), (0, u "(I)Z"), (0, .class_ 21), (0, u "java/lang/Object")] 45

def k10m0 : Method := { name := "test", desc := "(I)Z", sig := { parameters := [.int], returnType := some .boolean }, accessFlags := 1025, code := none }
/-- java/util/function/IntPredicate -/
def k10 : Class := { plain "java/util/function/IntPredicate" (some 0) with
  accessFlags := 1537
  interfaces := #[]
  cf := some (fileOf pool10 16 #[] #[{ accessFlags := 1025, nameIndex := 9, descriptorIndex := 19, attributes := #[] }] 1537 20 #[] #[])
  fields := #[]
  methods := #[k10m0]
  instanceTypes := #[]
  staticTypes := #[]
  resolved := Array.replicate 67 none
  statics := none }

def pool11 : Array CpInfo := pool [(2, .class_ 4), (1, u "java/lang/Object"), (0, u "<init>"), (0, u "()V"), (35, .class_ 44), (1, u "java/util/Objects"), (0, u "requireNonNull"), (48, u "(Ljava/lang/Object;Ljava/lang/String;)Ljava/lang/Object;")] 89

def k11m0 : Method := { name := "<init>", desc := "()V", sig := { parameters := [], returnType := none }, accessFlags := 2, code := none }
def k11c1 : Code := { maxStack := 3, maxLocals := 2, code := jdk_31_method_11_code, exceptionTable := #[], attributes := #[] }
def k11m1 : Method := { name := "requireNonNull", desc := "(Ljava/lang/Object;Ljava/lang/String;)Ljava/lang/Object;", sig := { parameters := [(.object "java/lang/Object"), (.object "java/lang/String")], returnType := some (.object "java/lang/Object") }, accessFlags := 9, code := some k11c1 }
/-- java/util/Objects -/
def k11 : Class := { plain "java/util/Objects" (some 0) with
  accessFlags := 49
  interfaces := #[]
  cf := some (fileOf pool11 42 #[] #[{ accessFlags := 2, nameIndex := 5, descriptorIndex := 6, attributes := #[] }, { accessFlags := 9, nameIndex := 45, descriptorIndex := 94, attributes := #[] }] 49 2 #[] #[])
  fields := #[]
  methods := #[k11m0, k11m1]
  instanceTypes := #[]
  staticTypes := #[]
  resolved := Array.replicate 184 none
  statics := none }

def pool12 : Array CpInfo := pool [(2, .class_ 4), (1, u "java/lang/Object"), (0, u "<init>"), (0, u "()V"), (17, .class_ 26), (1, u "jdk/internal/util/Preconditions"), (6, u "checkIndex"), (21, .class_ 56), (0, u "jdk/internal/util/Preconditions$4"), (57, .class_ 115), (0, u "jdk/internal/util/Preconditions$1"), (7, u "SIOOBE_FORMATTER"), (0, u "Ljava/util/function/BiFunction;"), (0, .class_ 126), (0, u "jdk/internal/util/Preconditions$2"), (3, u "AIOOBE_FORMATTER"), (0, .class_ 132), (0, u "jdk/internal/util/Preconditions$3"), (3, u "IOOBE_FORMATTER"), (41, u "(IILjava/util/function/BiFunction;)I")] 15

def k12m0 : Method := { name := "<init>", desc := "()V", sig := { parameters := [], returnType := none }, accessFlags := 1, code := none }
def k12c1 : Code := { maxStack := 3, maxLocals := 3, code := jdk_41_method_11_code, exceptionTable := #[], attributes := #[] }
def k12m1 : Method := { name := "checkIndex", desc := "(IILjava/util/function/BiFunction;)I", sig := { parameters := [.int, .int, (.object "java/util/function/BiFunction")], returnType := some .int }, accessFlags := 9, code := some k12c1 }
/-- jdk/internal/util/Preconditions -/
def k12 : Class := { plain "jdk/internal/util/Preconditions" (some 0) with
  accessFlags := 33
  interfaces := #[]
  cf := some (fileOf pool12 24 #[.nestMembers #[55, 131, 125, 114]] #[{ accessFlags := 1, nameIndex := 5, descriptorIndex := 6, attributes := #[] }, { accessFlags := 9, nameIndex := 33, descriptorIndex := 178, attributes := #[] }] 33 2 #[] #[{ accessFlags := 25, nameIndex := 123, descriptorIndex := 124, attributes := #[] }, { accessFlags := 25, nameIndex := 130, descriptorIndex := 124, attributes := #[] }, { accessFlags := 25, nameIndex := 136, descriptorIndex := 124, attributes := #[] }])
  fields := #[{ name := "SIOOBE_FORMATTER", type := (.object "java/util/function/BiFunction"), accessFlags := 25, slot := 0, constantValue := 0 }, { name := "AIOOBE_FORMATTER", type := (.object "java/util/function/BiFunction"), accessFlags := 25, slot := 1, constantValue := 0 }, { name := "IOOBE_FORMATTER", type := (.object "java/util/function/BiFunction"), accessFlags := 25, slot := 2, constantValue := 0 }]
  methods := #[k12m0, k12m1]
  instanceTypes := #[]
  staticTypes := #[(.object "java/util/function/BiFunction"), (.object "java/util/function/BiFunction"), (.object "java/util/function/BiFunction")]
  resolved := Array.replicate 194 none
  statics := some 1 }

def pool13 : Array CpInfo := pool [(6, .class_ 8), (1, u "java/lang/Object"), (0, u "<init>"), (0, u "()V"), (1, .class_ 14), (1, u "java/lang/StringUTF16"), (31, u "$assertionsDisabled"), (0, u "Z"), (13, u "HI_BYTE_SHIFT"), (0, u "I"), (2, u "LO_BYTE_SHIFT"), (49, .methodref 12 116), (0, .nameAndType 117 118), (0, u "compress"), (0, u "([CI[BII)I"), (3, u "([CII)[B"), (138, u "coderFromArrayLen"), (0, u "([BI)B"), (106, .class_ 371), (1, u "java/lang/StringUTF16$LinesSpliterator"), (58, u "MAX_LENGTH"), (196, .class_ 628), (0, u "java/lang/StringUTF16$CodePointsSpliterator"), (0, .class_ 630), (0, u "java/lang/StringUTF16$CharsSpliterator")] 4

def k13m0 : Method := { name := "<init>", desc := "()V", sig := { parameters := [], returnType := none }, accessFlags := 0, code := none }
def k13c1 : Code := { maxStack := 2, maxLocals := 2, code := jdk_52_method_15_code, exceptionTable := #[], attributes := #[] }
def k13m1 : Method := { name := "coderFromArrayLen", desc := "([BI)B", sig := { parameters := [(.array .byte), .int], returnType := some .byte }, accessFlags := 8, code := some k13c1 }
def k13c2 : Code := { maxStack := 5, maxLocals := 6, code := jdk_52_method_16_code, exceptionTable := #[], attributes := #[] }
def k13m2 : Method := { name := "compress", desc := "([CII)[B", sig := { parameters := [(.array .char), .int, .int], returnType := some (.array .byte) }, accessFlags := 9, code := some k13c2 }
def k13c3 : Code := { maxStack := 3, maxLocals := 7, code := jdk_52_method_21_code, exceptionTable := #[], attributes := #[] }
def k13m3 : Method := { name := "compress", desc := "([CI[BII)I", sig := { parameters := [(.array .char), .int, (.array .byte), .int, .int], returnType := some .int }, accessFlags := 9, code := some k13c3 }
/-- java/lang/StringUTF16 -/
def k13 : Class := { plain "java/lang/StringUTF16" (some 0) with
  accessFlags := 48
  interfaces := #[]
  cf := some (fileOf pool13 12 #[.nestMembers #[627, 629, 369]] #[{ accessFlags := 0, nameIndex := 9, descriptorIndex := 10, attributes := #[] }, { accessFlags := 8, nameIndex := 261, descriptorIndex := 262, attributes := #[] }, { accessFlags := 9, nameIndex := 117, descriptorIndex := 122, attributes := #[] }, { accessFlags := 9, nameIndex := 117, descriptorIndex := 118, attributes := #[] }] 48 6 #[] #[{ accessFlags := 26, nameIndex := 61, descriptorIndex := 62, attributes := #[] }, { accessFlags := 26, nameIndex := 65, descriptorIndex := 62, attributes := #[] }, { accessFlags := 24, nameIndex := 430, descriptorIndex := 62, attributes := #[] }, { accessFlags := 4120, nameIndex := 46, descriptorIndex := 47, attributes := #[] }])
  fields := #[{ name := "HI_BYTE_SHIFT", type := .int, accessFlags := 26, slot := 0, constantValue := 0 }, { name := "LO_BYTE_SHIFT", type := .int, accessFlags := 26, slot := 1, constantValue := 0 }, { name := "MAX_LENGTH", type := .int, accessFlags := 24, slot := 2, constantValue := 0 }, { name := "$assertionsDisabled", type := .boolean, accessFlags := 4120, slot := 3, constantValue := 0 }]
  methods := #[k13m0, k13m1, k13m2, k13m3]
  instanceTypes := #[]
  staticTypes := #[.int, .int, .int, .boolean]
  resolved := Array.replicate 635 none
  statics := none }

def pool14 : Array CpInfo := pool [(9, u "<init>"), (6, .class_ 18), (1, u "java/lang/Object"), (0, u "()V"), (1, .class_ 23), (1, u "jdk/internal/util/ArraysSupport"), (0, u "LOG2_ARRAY_LONG_INDEX_SCALE"), (0, u "I"), (2, u "U"), (0, u "Ljdk/internal/misc/Unsafe;"), (8, u "BIG_ENDIAN"), (0, u "Z"), (8, u "LOG2_BYTE_BIT_SIZE"), (4, u "LOG2_ARRAY_INT_INDEX_SCALE"), (54, u "JLA"), (0, u "Ljdk/internal/access/JavaLangAccess;"), (11, u "LOG2_ARRAY_BOOLEAN_INDEX_SCALE"), (9, u "LOG2_ARRAY_BYTE_INDEX_SCALE"), (5, u "LOG2_ARRAY_CHAR_INDEX_SCALE"), (5, u "LOG2_ARRAY_SHORT_INDEX_SCALE"), (18, u "LOG2_ARRAY_FLOAT_INDEX_SCALE"), (24, u "LOG2_ARRAY_DOUBLE_INDEX_SCALE"), (89, u "T_BOOLEAN"), (2, u "T_CHAR"), (1, u "T_FLOAT"), (1, u "T_DOUBLE"), (1, u "T_BYTE"), (1, u "T_SHORT"), (1, u "T_INT"), (1, u "T_LONG"), (1, u "SOFT_MAX_ARRAY_LENGTH")] 83

def k14m0 : Method := { name := "<init>", desc := "()V", sig := { parameters := [], returnType := none }, accessFlags := 2, code := none }
/-- jdk/internal/util/ArraysSupport -/
def k14 : Class := { plain "jdk/internal/util/ArraysSupport" (some 0) with
  accessFlags := 33
  interfaces := #[]
  cf := some (fileOf pool14 21 #[] #[{ accessFlags := 2, nameIndex := 9, descriptorIndex := 19, attributes := #[] }] 33 16 #[] #[{ accessFlags := 24, nameIndex := 28, descriptorIndex := 29, attributes := #[] }, { accessFlags := 26, nameIndex := 38, descriptorIndex := 39, attributes := #[] }, { accessFlags := 25, nameIndex := 121, descriptorIndex := 25, attributes := #[] }, { accessFlags := 25, nameIndex := 131, descriptorIndex := 25, attributes := #[] }, { accessFlags := 25, nameIndex := 137, descriptorIndex := 25, attributes := #[] }, { accessFlags := 25, nameIndex := 143, descriptorIndex := 25, attributes := #[] }, { accessFlags := 25, nameIndex := 53, descriptorIndex := 25, attributes := #[] }, { accessFlags := 25, nameIndex := 24, descriptorIndex := 25, attributes := #[] }, { accessFlags := 25, nameIndex := 162, descriptorIndex := 25, attributes := #[] }, { accessFlags := 25, nameIndex := 187, descriptorIndex := 25, attributes := #[] }, { accessFlags := 26, nameIndex := 48, descriptorIndex := 25, attributes := #[] }, { accessFlags := 25, nameIndex := 277, descriptorIndex := 25, attributes := #[] }, { accessFlags := 25, nameIndex := 280, descriptorIndex := 25, attributes := #[] }, { accessFlags := 25, nameIndex := 282, descriptorIndex := 25, attributes := #[] }, { accessFlags := 25, nameIndex := 284, descriptorIndex := 25, attributes := #[] }, { accessFlags := 25, nameIndex := 286, descriptorIndex := 25, attributes := #[] }, { accessFlags := 25, nameIndex := 288, descriptorIndex := 25, attributes := #[] }, { accessFlags := 25, nameIndex := 290, descriptorIndex := 25, attributes := #[] }, { accessFlags := 25, nameIndex := 292, descriptorIndex := 25, attributes := #[] }, { accessFlags := 26, nameIndex := 108, descriptorIndex := 109, attributes := #[] }, { accessFlags := 25, nameIndex := 294, descriptorIndex := 25, attributes := #[] }])
  fields := #[{ name := "U", type := (.object "jdk/internal/misc/Unsafe"), accessFlags := 24, slot := 0, constantValue := 0 }, { name := "BIG_ENDIAN", type := .boolean, accessFlags := 26, slot := 1, constantValue := 0 }, { name := "LOG2_ARRAY_BOOLEAN_INDEX_SCALE", type := .int, accessFlags := 25, slot := 2, constantValue := 0 }, { name := "LOG2_ARRAY_BYTE_INDEX_SCALE", type := .int, accessFlags := 25, slot := 3, constantValue := 0 }, { name := "LOG2_ARRAY_CHAR_INDEX_SCALE", type := .int, accessFlags := 25, slot := 4, constantValue := 0 }, { name := "LOG2_ARRAY_SHORT_INDEX_SCALE", type := .int, accessFlags := 25, slot := 5, constantValue := 0 }, { name := "LOG2_ARRAY_INT_INDEX_SCALE", type := .int, accessFlags := 25, slot := 6, constantValue := 0 }, { name := "LOG2_ARRAY_LONG_INDEX_SCALE", type := .int, accessFlags := 25, slot := 7, constantValue := 0 }, { name := "LOG2_ARRAY_FLOAT_INDEX_SCALE", type := .int, accessFlags := 25, slot := 8, constantValue := 0 }, { name := "LOG2_ARRAY_DOUBLE_INDEX_SCALE", type := .int, accessFlags := 25, slot := 9, constantValue := 0 }, { name := "LOG2_BYTE_BIT_SIZE", type := .int, accessFlags := 26, slot := 10, constantValue := 0 }, { name := "T_BOOLEAN", type := .int, accessFlags := 25, slot := 11, constantValue := 0 }, { name := "T_CHAR", type := .int, accessFlags := 25, slot := 12, constantValue := 0 }, { name := "T_FLOAT", type := .int, accessFlags := 25, slot := 13, constantValue := 0 }, { name := "T_DOUBLE", type := .int, accessFlags := 25, slot := 14, constantValue := 0 }, { name := "T_BYTE", type := .int, accessFlags := 25, slot := 15, constantValue := 0 }, { name := "T_SHORT", type := .int, accessFlags := 25, slot := 16, constantValue := 0 }, { name := "T_INT", type := .int, accessFlags := 25, slot := 17, constantValue := 0 }, { name := "T_LONG", type := .int, accessFlags := 25, slot := 18, constantValue := 0 }, { name := "JLA", type := (.object "jdk/internal/access/JavaLangAccess"), accessFlags := 26, slot := 19, constantValue := 0 }, { name := "SOFT_MAX_ARRAY_LENGTH", type := .int, accessFlags := 25, slot := 20, constantValue := 0 }]
  methods := #[k14m0]
  instanceTypes := #[]
  staticTypes := #[(.object "jdk/internal/misc/Unsafe"), .boolean, .int, .int, .int, .int, .int, .int, .int, .int, .int, .int, .int, .int, .int, .int, .int, .int, .int, (.object "jdk/internal/access/JavaLangAccess"), .int]
  resolved := Array.replicate 378 none
  statics := none }

def pool15 : Array CpInfo := pool [(1, u "java/lang/Cloneable"), (0, .class_ 1), (0, u "java/lang/Object"), (0, .class_ 3)] 3

/-- java/lang/Cloneable -/
def k15 : Class := { plain "java/lang/Cloneable" (some 0) with
  accessFlags := 1537
  interfaces := #[]
  cf := some (fileOf pool15 2 #[] #[] 1537 4 #[] #[])
  fields := #[]
  methods := #[]
  instanceTypes := #[]
  staticTypes := #[]
  resolved := Array.replicate 8 none
  statics := none }

/-- the primitive byte -/
def k16 : Class := { plain "byte" none with kind := .primitive 'B', accessFlags := 0x411 }
/-- [B -/
def k17 : Class := { plain "[B" (some 0) with kind := .array 16 .byte, interfaces := #[15, 2], accessFlags := 1041 }

/-- the primitive char -/
def k18 : Class := { plain "char" none with kind := .primitive 'C', accessFlags := 0x411 }
/-- [C -/
def k19 : Class := { plain "[C" (some 0) with kind := .array 18 .char, interfaces := #[15, 2], accessFlags := 1041 }

def classes0 : Array Class := #[k0, k1, k2, k3, k4, k5, k6, k7, k8, k9, k10, k11, k12, k13, k14, k15, k16, k17, k18, k19]
/-- the class that the rule has made for the site at 8 of com/example/chronoshard/chronoshard/model/Limits.checkInstanceId -/
def k20 : Class := Jvm.LamKit.madeRec { classes := classes0 } "com/example/chronoshard/chronoshard/model/Limits" (Jvm.Lambda.Shape.mk "java/util/function/IntPredicate" "test" (Jvm.ClassFile.MethodDescriptor.mk ([Jvm.ClassFile.FieldType.int] : List Jvm.ClassFile.FieldType) (Option.some Jvm.ClassFile.FieldType.boolean)) ([] : List Jvm.ClassFile.FieldType) (6 : Nat) "com/example/chronoshard/chronoshard/model/Limits" "lambda$checkInstanceId$1" (Jvm.ClassFile.MethodDescriptor.mk ([Jvm.ClassFile.FieldType.int] : List Jvm.ClassFile.FieldType) (Option.some Jvm.ClassFile.FieldType.boolean)) false (Jvm.ClassFile.MethodDescriptor.mk ([Jvm.ClassFile.FieldType.int] : List Jvm.ClassFile.FieldType) (Option.some Jvm.ClassFile.FieldType.boolean))) 20

def heap : Heap := #[{ cls := 7, slots := #[.long 0, .int 1, .null, .int 0, .null, .int 0, .int 0], vm := .statics 7 },
  { cls := 12, slots := #[.null, .null, .null], vm := .statics 12 },
  { cls := 20, slots := #[], vm := .none }]
def classes : Array Class := #[k0, k1, k2, k3, k4, k5, k6, k7, k8, k9, k10, k11, k12, k13, k14, k15, k16, k17, k18, k19, k20]
def interned : List (Array UInt16 × Addr) := []
def slotsUsed : Nat := 10
def theMethod : MethodId := ⟨1, 2⟩
def args0 : Array Value := #[.int 5, .int 6, .int 7, .int 8, .int 9]
def aboutOver (below : List Frame) : State where
  vm := { classes := classes, interned := interned.toArray }
  heap := heap
  slotsUsed := slotsUsed
  threads := #[{ frames := .invoking theMethod args0 :: below }]
def below0 : List Frame := [.native { method := ⟨0, 0⟩, args := #[] }]
def about1 : State := aboutOver below0
def p0 : Program := .bare "" "" ""
def e0 : Env := launch0.env 0 0 0
theorem w_frames : about1.frames = Frame.invoking theMethod args0 :: below0 := rfl
set_option maxRecDepth 65536 in
theorem w_args : argsFit about1.vm theMethod args0 = true := by decide +kernel
set_option maxRecDepth 65536 in
theorem w_heap : heapFits about1 = true := by decide +kernel
set_option maxRecDepth 65536 in
theorem w_runnable : about1.curStatus? = some .runnable := by decide +kernel
set_option maxRecDepth 65536 in
theorem w_alone : about1.alone = true := by decide +kernel
set_option maxRecDepth 65536 in
theorem w_named : about1.methodNamed? x = some theMethod := by decide +kernel
set_option maxRecDepth 65536 in
theorem w_hears : about1.hears theMethod below0 = true := by decide +kernel
set_option maxRecDepth 65536 in
theorem w_ripe : about1.ripe theMethod args0 below0 = true := by decide +kernel
theorem w_running : about1.status = .running := rfl
set_option maxRecDepth 65536 in
theorem w_room : about1.hasRoom e0.platform room_1 = true :=
  launch0.hasRoom_least _ room_1 (by decide +kernel) (by decide +kernel) (by decide +kernel) (by decide +kernel) (by decide +kernel) (by decide +kernel)
theorem allAtoms_all (ts : List Jvm.Cond) (a : Array Jvm.Value) (st : Jvm.State) : (allAtoms ts).before a st = ts.all (fun c => c.before a st) := by
  induction ts with
  | nil => rfl
  | cons c t ih =>
    show (Jvm.Cond.and c (allAtoms t)).before a st = _
    rw [Jvm.Cond.before_and, ih, List.all_cons]
def words1 : List Jvm.Cond := Jvm.Cond.code x code maxLocals ret :: tables_1
/-- a 'code' word, met by the world's own term for the bytes: nothing is compared byte by byte -/
theorem code_word {y : MethodName} {bytes : ByteArray} {mx : Nat} {rt : Option FieldType} {a : Array Value} {s : State} {m : MethodId} {meth : Method} {c : Code} (h1 : s.methodNamed? y = some m) (h2 : s.vm.method? m = some meth) (h3 : meth.code = some c) (h4 : c.code = bytes)
    (h5 : (c.maxLocals == mx && c.exceptionTable.isEmpty && decide (c.maxStack ≤ mostOperands) && decide (meth.sig.returnType = rt) && !meth.locks && decide (parseMethodDescriptor y.desc = some meth.sig)) = true) : (Jvm.Cond.code y bytes mx rt).before a s = true := by
  simp only [Bool.and_eq_true, beq_iff_eq, Bool.not_eq_true', decide_eq_true_eq] at h5
  obtain ⟨⟨⟨⟨⟨g1, g2⟩, g3⟩, g4⟩, g5⟩, g6⟩ := h5
  simp [Cond.before, Cond.holds, Cond.value, h1, h2, h3, h4, g1, g2, g3, g4, g5, g6]
def isCode : Jvm.Cond → Bool
  | .code _ _ _ _ => true
  | _ => false
theorem all_split {L : List Jvm.Cond} {P : Jvm.Cond → Bool} (h1 : L.all (fun c => isCode c || P c) = true) (h2 : ∀ c ∈ L.filter isCode, P c = true) : L.all P = true := by
  refine List.all_eq_true.mpr fun c hc => ?_
  have h := List.all_eq_true.mp h1 c hc
  rcases Bool.eq_false_or_eq_true (isCode c) with hi | hi
  · exact h2 c (List.mem_filter.mpr ⟨hc, hi⟩)
  · simpa [hi] using h
set_option maxRecDepth 65536 in
theorem w_c0 : (Jvm.Cond.code x code maxLocals ret).before args0 about1 = true := code_word (m := ⟨1, 2⟩) (meth := k1m2) (c := k1c2) (by decide +kernel) rfl rfl rfl (by decide +kernel)
set_option maxRecDepth 65536 in
theorem w_c1 : (Jvm.Cond.code ({ cls := "com/example/chronoshard/chronoshard/model/LimitsCheckInstanceIdPinLaw", name := "printable", desc := "(I)C" } : Jvm.MethodName) method_2_code (1 : Nat) (Option.some Jvm.ClassFile.FieldType.char)).before args0 about1 = true := code_word (m := ⟨1, 1⟩) (meth := k1m1) (c := k1c1) (by decide +kernel) rfl rfl rfl (by decide +kernel)
set_option maxRecDepth 65536 in
theorem w_c2 : (Jvm.Cond.code ({ cls := "java/lang/String", name := "valueOf", desc := "(C)Ljava/lang/String;" } : Jvm.MethodName) jdk_42_method_139_code (1 : Nat) (Option.some (Jvm.ClassFile.FieldType.object "java/lang/String"))).before args0 about1 = true := code_word (m := ⟨7, 5⟩) (meth := k7m5) (c := k7c5) (by decide +kernel) rfl rfl rfl (by decide +kernel)
set_option maxRecDepth 65536 in
theorem w_c3 : (Jvm.Cond.code ({ cls := "java/lang/StringLatin1", name := "canEncode", desc := "(C)Z" } : Jvm.MethodName) jdk_43_method_3_code (1 : Nat) (Option.some Jvm.ClassFile.FieldType.boolean)).before args0 about1 = true := code_word (m := ⟨8, 2⟩) (meth := k8m2) (c := k8c2) (by decide +kernel) rfl rfl rfl (by decide +kernel)
set_option maxRecDepth 65536 in
theorem w_c4 : (Jvm.Cond.code ({ cls := "java/lang/StringLatin1", name := "toBytes", desc := "(C)[B" } : Jvm.MethodName) jdk_43_method_46_code (1 : Nat) (Option.some (Jvm.ClassFile.FieldType.array Jvm.ClassFile.FieldType.byte))).before args0 about1 = true := code_word (m := ⟨8, 3⟩) (meth := k8m3) (c := k8c3) (by decide +kernel) rfl rfl rfl (by decide +kernel)
set_option maxRecDepth 65536 in
theorem w_c5 : (Jvm.Cond.code ({ cls := "java/lang/String", name := "<init>", desc := "([BB)V" } : Jvm.MethodName) jdk_42_method_151_code (3 : Nat) (Option.none : Option Jvm.ClassFile.FieldType)).before args0 about1 = true := code_word (m := ⟨7, 7⟩) (meth := k7m7) (c := k7c7) (by decide +kernel) rfl rfl rfl (by decide +kernel)
set_option maxRecDepth 65536 in
theorem w_c6 : (Jvm.Cond.code ({ cls := "java/lang/Object", name := "<init>", desc := "()V" } : Jvm.MethodName) object_method_1_code (1 : Nat) (Option.none : Option Jvm.ClassFile.FieldType)).before args0 about1 = true := code_word (m := ⟨0, 0⟩) (meth := k0m0) (c := k0c0) (by decide +kernel) rfl rfl rfl (by decide +kernel)
set_option maxRecDepth 65536 in
theorem w_c7 : (Jvm.Cond.code ({ cls := "com/example/chronoshard/chronoshard/model/Limits", name := "checkInstanceId", desc := "(Ljava/lang/String;)Ljava/lang/String;" } : Jvm.MethodName) prog_8_method_5_code (1 : Nat) (Option.some (Jvm.ClassFile.FieldType.object "java/lang/String"))).before args0 about1 = true := code_word (m := ⟨9, 1⟩) (meth := k9m1) (c := k9c1) (by decide +kernel) rfl rfl rfl (by decide +kernel)
set_option maxRecDepth 65536 in
theorem w_c8 : (Jvm.Cond.code ({ cls := "com/example/chronoshard/chronoshard/model/Limits", name := "checkText", desc := "(Ljava/lang/String;Ljava/lang/String;ILjava/lang/String;Ljava/util/function/IntPredicate;)Ljava/lang/String;" } : Jvm.MethodName) prog_8_method_7_code (6 : Nat) (Option.some (Jvm.ClassFile.FieldType.object "java/lang/String"))).before args0 about1 = true := code_word (m := ⟨9, 2⟩) (meth := k9m2) (c := k9c2) (by decide +kernel) rfl rfl rfl (by decide +kernel)
set_option maxRecDepth 65536 in
theorem w_c9 : (Jvm.Cond.code ({ cls := "java/util/Objects", name := "requireNonNull", desc := "(Ljava/lang/Object;Ljava/lang/String;)Ljava/lang/Object;" } : Jvm.MethodName) jdk_31_method_11_code (2 : Nat) (Option.some (Jvm.ClassFile.FieldType.object "java/lang/Object"))).before args0 about1 = true := code_word (m := ⟨11, 1⟩) (meth := k11m1) (c := k11c1) (by decide +kernel) rfl rfl rfl (by decide +kernel)
set_option maxRecDepth 65536 in
theorem w_c10 : (Jvm.Cond.code ({ cls := "java/lang/String", name := "isEmpty", desc := "()Z" } : Jvm.MethodName) jdk_42_method_55_code (1 : Nat) (Option.some Jvm.ClassFile.FieldType.boolean)).before args0 about1 = true := code_word (m := ⟨7, 3⟩) (meth := k7m3) (c := k7c3) (by decide +kernel) rfl rfl rfl (by decide +kernel)
set_option maxRecDepth 65536 in
theorem w_c11 : (Jvm.Cond.code ({ cls := "java/lang/String", name := "length", desc := "()I" } : Jvm.MethodName) jdk_42_method_54_code (1 : Nat) (Option.some Jvm.ClassFile.FieldType.int)).before args0 about1 = true := code_word (m := ⟨7, 2⟩) (meth := k7m2) (c := k7c2) (by decide +kernel) rfl rfl rfl (by decide +kernel)
set_option maxRecDepth 65536 in
theorem w_c12 : (Jvm.Cond.code ({ cls := "java/lang/String", name := "coder", desc := "()B" } : Jvm.MethodName) jdk_42_method_152_code (1 : Nat) (Option.some Jvm.ClassFile.FieldType.byte)).before args0 about1 = true := code_word (m := ⟨7, 8⟩) (meth := k7m8) (c := k7c8) (by decide +kernel) rfl rfl rfl (by decide +kernel)
set_option maxRecDepth 65536 in
theorem w_c13 : (Jvm.Cond.code ({ cls := "java/lang/String", name := "charAt", desc := "(I)C" } : Jvm.MethodName) jdk_42_method_56_code (2 : Nat) (Option.some Jvm.ClassFile.FieldType.char)).before args0 about1 = true := code_word (m := ⟨7, 4⟩) (meth := k7m4) (c := k7c4) (by decide +kernel) rfl rfl rfl (by decide +kernel)
set_option maxRecDepth 65536 in
theorem w_c14 : (Jvm.Cond.code ({ cls := "java/lang/String", name := "isLatin1", desc := "()Z" } : Jvm.MethodName) jdk_42_method_154_code (1 : Nat) (Option.some Jvm.ClassFile.FieldType.boolean)).before args0 about1 = true := code_word (m := ⟨7, 9⟩) (meth := k7m9) (c := k7c9) (by decide +kernel) rfl rfl rfl (by decide +kernel)
set_option maxRecDepth 65536 in
theorem w_c15 : (Jvm.Cond.code ({ cls := "java/lang/StringLatin1", name := "charAt", desc := "([BI)C" } : Jvm.MethodName) jdk_43_method_2_code (2 : Nat) (Option.some Jvm.ClassFile.FieldType.char)).before args0 about1 = true := code_word (m := ⟨8, 1⟩) (meth := k8m1) (c := k8c1) (by decide +kernel) rfl rfl rfl (by decide +kernel)
set_option maxRecDepth 65536 in
theorem w_c16 : (Jvm.Cond.code ({ cls := "java/lang/String", name := "checkIndex", desc := "(II)V" } : Jvm.MethodName) jdk_42_method_155_code (2 : Nat) (Option.none : Option Jvm.ClassFile.FieldType)).before args0 about1 = true := code_word (m := ⟨7, 10⟩) (meth := k7m10) (c := k7c10) (by decide +kernel) rfl rfl rfl (by decide +kernel)
set_option maxRecDepth 65536 in
theorem w_c17 : (Jvm.Cond.code ({ cls := "jdk/internal/util/Preconditions", name := "checkIndex", desc := "(IILjava/util/function/BiFunction;)I" } : Jvm.MethodName) jdk_41_method_11_code (3 : Nat) (Option.some Jvm.ClassFile.FieldType.int)).before args0 about1 = true := code_word (m := ⟨12, 1⟩) (meth := k12m1) (c := k12c1) (by decide +kernel) rfl rfl rfl (by decide +kernel)
set_option maxRecDepth 65536 in
theorem w_c18 : (Jvm.Cond.code ({ cls := "com/example/chronoshard/chronoshard/model/Limits", name := "lambda$checkInstanceId$1", desc := "(I)Z" } : Jvm.MethodName) prog_8_method_9_code (1 : Nat) (Option.some Jvm.ClassFile.FieldType.boolean)).before args0 about1 = true := code_word (m := ⟨9, 3⟩) (meth := k9m3) (c := k9c3) (by decide +kernel) rfl rfl rfl (by decide +kernel)
set_option maxRecDepth 65536 in
theorem w_c19 : (Jvm.Cond.code ({ cls := "java/lang/String", name := "<init>", desc := "([C)V" } : Jvm.MethodName) jdk_42_method_3_code (2 : Nat) (Option.none : Option Jvm.ClassFile.FieldType)).before args0 about1 = true := code_word (m := ⟨7, 1⟩) (meth := k7m1) (c := k7c1) (by decide +kernel) rfl rfl rfl (by decide +kernel)
set_option maxRecDepth 65536 in
theorem w_c20 : (Jvm.Cond.code ({ cls := "java/lang/String", name := "<init>", desc := "([CIILjava/lang/Void;)V" } : Jvm.MethodName) jdk_42_method_149_code (6 : Nat) (Option.none : Option Jvm.ClassFile.FieldType)).before args0 about1 = true := code_word (m := ⟨7, 6⟩) (meth := k7m6) (c := k7c6) (by decide +kernel) rfl rfl rfl (by decide +kernel)
set_option maxRecDepth 65536 in
theorem w_c21 : (Jvm.Cond.code ({ cls := "java/lang/StringUTF16", name := "compress", desc := "([CII)[B" } : Jvm.MethodName) jdk_52_method_16_code (6 : Nat) (Option.some (Jvm.ClassFile.FieldType.array Jvm.ClassFile.FieldType.byte))).before args0 about1 = true := code_word (m := ⟨13, 2⟩) (meth := k13m2) (c := k13c2) (by decide +kernel) rfl rfl rfl (by decide +kernel)
set_option maxRecDepth 65536 in
theorem w_c22 : (Jvm.Cond.code ({ cls := "java/lang/StringUTF16", name := "compress", desc := "([CI[BII)I" } : Jvm.MethodName) jdk_52_method_21_code (7 : Nat) (Option.some Jvm.ClassFile.FieldType.int)).before args0 about1 = true := code_word (m := ⟨13, 3⟩) (meth := k13m3) (c := k13c3) (by decide +kernel) rfl rfl rfl (by decide +kernel)
set_option maxRecDepth 65536 in
theorem w_c23 : (Jvm.Cond.code ({ cls := "java/lang/StringUTF16", name := "coderFromArrayLen", desc := "([BI)B" } : Jvm.MethodName) jdk_52_method_15_code (2 : Nat) (Option.some Jvm.ClassFile.FieldType.byte)).before args0 about1 = true := code_word (m := ⟨13, 1⟩) (meth := k13m1) (c := k13c1) (by decide +kernel) rfl rfl rfl (by decide +kernel)
def codes1 : List Jvm.Cond := [Jvm.Cond.code x code maxLocals ret, Jvm.Cond.code ({ cls := "com/example/chronoshard/chronoshard/model/LimitsCheckInstanceIdPinLaw", name := "printable", desc := "(I)C" } : Jvm.MethodName) method_2_code (1 : Nat) (Option.some Jvm.ClassFile.FieldType.char), Jvm.Cond.code ({ cls := "java/lang/String", name := "valueOf", desc := "(C)Ljava/lang/String;" } : Jvm.MethodName) jdk_42_method_139_code (1 : Nat) (Option.some (Jvm.ClassFile.FieldType.object "java/lang/String")), Jvm.Cond.code ({ cls := "java/lang/StringLatin1", name := "canEncode", desc := "(C)Z" } : Jvm.MethodName) jdk_43_method_3_code (1 : Nat) (Option.some Jvm.ClassFile.FieldType.boolean), Jvm.Cond.code ({ cls := "java/lang/StringLatin1", name := "toBytes", desc := "(C)[B" } : Jvm.MethodName) jdk_43_method_46_code (1 : Nat) (Option.some (Jvm.ClassFile.FieldType.array Jvm.ClassFile.FieldType.byte)), Jvm.Cond.code ({ cls := "java/lang/String", name := "<init>", desc := "([BB)V" } : Jvm.MethodName) jdk_42_method_151_code (3 : Nat) (Option.none : Option Jvm.ClassFile.FieldType), Jvm.Cond.code ({ cls := "java/lang/Object", name := "<init>", desc := "()V" } : Jvm.MethodName) object_method_1_code (1 : Nat) (Option.none : Option Jvm.ClassFile.FieldType), Jvm.Cond.code ({ cls := "com/example/chronoshard/chronoshard/model/Limits", name := "checkInstanceId", desc := "(Ljava/lang/String;)Ljava/lang/String;" } : Jvm.MethodName) prog_8_method_5_code (1 : Nat) (Option.some (Jvm.ClassFile.FieldType.object "java/lang/String")), Jvm.Cond.code ({ cls := "com/example/chronoshard/chronoshard/model/Limits", name := "checkText", desc := "(Ljava/lang/String;Ljava/lang/String;ILjava/lang/String;Ljava/util/function/IntPredicate;)Ljava/lang/String;" } : Jvm.MethodName) prog_8_method_7_code (6 : Nat) (Option.some (Jvm.ClassFile.FieldType.object "java/lang/String")), Jvm.Cond.code ({ cls := "java/util/Objects", name := "requireNonNull", desc := "(Ljava/lang/Object;Ljava/lang/String;)Ljava/lang/Object;" } : Jvm.MethodName) jdk_31_method_11_code (2 : Nat) (Option.some (Jvm.ClassFile.FieldType.object "java/lang/Object")), Jvm.Cond.code ({ cls := "java/lang/String", name := "isEmpty", desc := "()Z" } : Jvm.MethodName) jdk_42_method_55_code (1 : Nat) (Option.some Jvm.ClassFile.FieldType.boolean), Jvm.Cond.code ({ cls := "java/lang/String", name := "length", desc := "()I" } : Jvm.MethodName) jdk_42_method_54_code (1 : Nat) (Option.some Jvm.ClassFile.FieldType.int), Jvm.Cond.code ({ cls := "java/lang/String", name := "coder", desc := "()B" } : Jvm.MethodName) jdk_42_method_152_code (1 : Nat) (Option.some Jvm.ClassFile.FieldType.byte), Jvm.Cond.code ({ cls := "java/lang/String", name := "charAt", desc := "(I)C" } : Jvm.MethodName) jdk_42_method_56_code (2 : Nat) (Option.some Jvm.ClassFile.FieldType.char), Jvm.Cond.code ({ cls := "java/lang/String", name := "isLatin1", desc := "()Z" } : Jvm.MethodName) jdk_42_method_154_code (1 : Nat) (Option.some Jvm.ClassFile.FieldType.boolean), Jvm.Cond.code ({ cls := "java/lang/StringLatin1", name := "charAt", desc := "([BI)C" } : Jvm.MethodName) jdk_43_method_2_code (2 : Nat) (Option.some Jvm.ClassFile.FieldType.char), Jvm.Cond.code ({ cls := "java/lang/String", name := "checkIndex", desc := "(II)V" } : Jvm.MethodName) jdk_42_method_155_code (2 : Nat) (Option.none : Option Jvm.ClassFile.FieldType), Jvm.Cond.code ({ cls := "jdk/internal/util/Preconditions", name := "checkIndex", desc := "(IILjava/util/function/BiFunction;)I" } : Jvm.MethodName) jdk_41_method_11_code (3 : Nat) (Option.some Jvm.ClassFile.FieldType.int), Jvm.Cond.code ({ cls := "com/example/chronoshard/chronoshard/model/Limits", name := "lambda$checkInstanceId$1", desc := "(I)Z" } : Jvm.MethodName) prog_8_method_9_code (1 : Nat) (Option.some Jvm.ClassFile.FieldType.boolean), Jvm.Cond.code ({ cls := "java/lang/String", name := "<init>", desc := "([C)V" } : Jvm.MethodName) jdk_42_method_3_code (2 : Nat) (Option.none : Option Jvm.ClassFile.FieldType), Jvm.Cond.code ({ cls := "java/lang/String", name := "<init>", desc := "([CIILjava/lang/Void;)V" } : Jvm.MethodName) jdk_42_method_149_code (6 : Nat) (Option.none : Option Jvm.ClassFile.FieldType), Jvm.Cond.code ({ cls := "java/lang/StringUTF16", name := "compress", desc := "([CII)[B" } : Jvm.MethodName) jdk_52_method_16_code (6 : Nat) (Option.some (Jvm.ClassFile.FieldType.array Jvm.ClassFile.FieldType.byte)), Jvm.Cond.code ({ cls := "java/lang/StringUTF16", name := "compress", desc := "([CI[BII)I" } : Jvm.MethodName) jdk_52_method_21_code (7 : Nat) (Option.some Jvm.ClassFile.FieldType.int), Jvm.Cond.code ({ cls := "java/lang/StringUTF16", name := "coderFromArrayLen", desc := "([BI)B" } : Jvm.MethodName) jdk_52_method_15_code (2 : Nat) (Option.some Jvm.ClassFile.FieldType.byte)]
set_option maxRecDepth 65536 in
theorem codes_eq : words1.filter isCode = codes1 := rfl
theorem w_codes : ∀ c ∈ words1.filter isCode, c.before args0 about1 = true := by
  rw [codes_eq]
  intro c hc
  simp only [codes1, List.mem_cons, List.not_mem_nil, or_false] at hc
  rcases hc with rfl | rfl | rfl | rfl | rfl | rfl | rfl | rfl | rfl | rfl | rfl | rfl | rfl | rfl | rfl | rfl | rfl | rfl | rfl | rfl | rfl | rfl | rfl | rfl
  · exact w_c0
  · exact w_c1
  · exact w_c2
  · exact w_c3
  · exact w_c4
  · exact w_c5
  · exact w_c6
  · exact w_c7
  · exact w_c8
  · exact w_c9
  · exact w_c10
  · exact w_c11
  · exact w_c12
  · exact w_c13
  · exact w_c14
  · exact w_c15
  · exact w_c16
  · exact w_c17
  · exact w_c18
  · exact w_c19
  · exact w_c20
  · exact w_c21
  · exact w_c22
  · exact w_c23
set_option maxRecDepth 65536 in
theorem w_t1 : (words1.take 24).all (fun c => isCode c || c.before args0 about1) = true := by decide +kernel
set_option maxRecDepth 65536 in
theorem w_t2 : ((words1.drop 24).take 24).all (fun c => isCode c || c.before args0 about1) = true := by decide +kernel
set_option maxRecDepth 65536 in
theorem w_t3 : (((words1.drop 24).drop 24).take 24).all (fun c => isCode c || c.before args0 about1) = true := by decide +kernel
set_option maxRecDepth 65536 in
theorem w_t4 : ((((words1.drop 24).drop 24).drop 24).take 24).all (fun c => isCode c || c.before args0 about1) = true := by decide +kernel
set_option maxRecDepth 65536 in
theorem w_t5 : ((((words1.drop 24).drop 24).drop 24).drop 24).all (fun c => isCode c || c.before args0 about1) = true := by decide +kernel
theorem w_tables : (allAtoms (Jvm.Cond.code x code maxLocals ret :: tables_1)).before args0 about1 = true := by
  rw [allAtoms_all]
  show words1.all (fun c => c.before args0 about1) = true
  refine all_split ?_ w_codes
  rw [← List.take_append_drop 24 words1, List.all_append, w_t1, ← List.take_append_drop 24 (words1.drop 24), List.all_append, w_t2, ← List.take_append_drop 24 ((words1.drop 24).drop 24), List.all_append, w_t3, ← List.take_append_drop 24 (((words1.drop 24).drop 24).drop 24), List.all_append, w_t4, w_t5]
  rfl
set_option maxRecDepth 65536 in
theorem w_rest : rest_1_c.before args0 about1 = true := by decide +kernel
set_option maxRecDepth 65536 in
theorem w_case : (Jvm.Cond.and given_1 narrow_1).before args0 about1 = true := by decide +kernel
theorem w_applies : (headSpec (Jvm.Cond.code x code maxLocals ret :: tables_1) room_1).applies x e0.platform about1 = true :=
  (Spec.applies_iff w_frames).mpr ⟨w_running, w_runnable, w_alone, w_named, w_hears, w_ripe, w_room, w_tables⟩
theorem atStart : AtStart classFile x code maxLocals ret World_1 tables_1 room_1 Calls_1 rest_1 Pre_1 launch0 p0 e0 about1 theMethod args0 below0 :=
  ⟨lists_1, trivial, launch0.admits_env _ _ _, launch0.least_env, fairChoices_fair.cas, fairChoices_fair.clock, w_frames, w_args, w_heap, w_applies, trivial, w_rest, w_case⟩
end start1
theorem witness_1 : WitnessClaimed_1 := ⟨start1.p0, start1.e0, start1.about1, start1.theMethod, start1.args0, start1.below0, start1.atStart⟩
end Jvm.Pilot.@@N@@
