import JvmDerived
import JvmDerived.Pilot.@@N@@Statement
import JvmDerived.Pilot.@@N@@Code
set_option linter.unusedVariables false
set_option linter.unusedSimpArgs false
namespace Jvm.RoadKit
open Sem ClassFile Op Lib Jvm.Stand Jvm.Free Jvm.LawKit
section New
variable {p : Program} {l : Launch} {e : Env} {R : Room} {s : State} {m : MethodId} {args : Array Value} {below : List Frame} {meth : Method} {c : Code} {T : State} {locs : List Loc} {cells slots : Nat}
theorem retI (X : Stand p l e R s m args below meth c T locs cells slots) (hx : p.tables.exec = Jvm.exec) {pc : Nat} {Ls : Array Slot} {z : Int32} {rest : List Value} (hret : meth.sig.returnType = some .int) (hd : decode c.code pc = .ok (.ireturn, 1)) {fs : List Frame}
    (hl : ∀ (f : JFrame) (acts : List Action), f.method = m → f.locked = none → f.entered = [] → (doReturn e (T.setTop f) acts (some (.int z))).1 = T.setFrames fs) : Steps p.tables e below (T.setTop (mkF m pc Ls (.int z :: rest))) (T.setFrames fs) :=
  retOut X hx hret rfl (Or.inl ⟨rfl, Or.inl rfl, z, rfl⟩) hd hl
theorem retJ (X : Stand p l e R s m args below meth c T locs cells slots) (hx : p.tables.exec = Jvm.exec) {pc : Nat} {Ls : Array Slot} {z : Int64} {rest : List Value} (hret : meth.sig.returnType = some .long) (hd : decode c.code pc = .ok (.lreturn, 1)) {fs : List Frame}
    (hl : ∀ (f : JFrame) (acts : List Action), f.method = m → f.locked = none → f.entered = [] → (doReturn e (T.setTop f) acts (some (.long z))).1 = T.setFrames fs) : Steps p.tables e below (T.setTop (mkF m pc Ls (.long z :: rest))) (T.setFrames fs) :=
  retOut X hx hret rfl (Or.inr (Or.inl ⟨rfl, rfl, z, rfl⟩)) hd hl
theorem narA {t : FieldType} {w : Value} (ht : t.isReference = true) (hw : w.isRef = true) : narrow t w = w := by
  rcases ref_cases hw with rfl | ⟨z, rfl⟩ <;> cases t <;> first | rfl | (simp [FieldType.isReference] at ht)
theorem retA (X : Stand p l e R s m args below meth c T locs cells slots) (hx : p.tables.exec = Jvm.exec) {pc : Nat} {Ls : Array Slot} {t : FieldType} {w : Value} {rest : List Value} (hret : meth.sig.returnType = some t) (ht : t.isReference = true) (hw : w.isRef = true) (hd : decode c.code pc = .ok (.areturn, 1)) {fs : List Frame}
    (hl : ∀ (f : JFrame) (acts : List Action), f.method = m → f.locked = none → f.entered = [] → (doReturn e (T.setTop f) acts (some w)).1 = T.setFrames fs) : Steps p.tables e below (T.setTop (mkF m pc Ls (w :: rest))) (T.setFrames fs) :=
  retOut X hx hret (narA ht hw) (Or.inr (Or.inr (Or.inr (Or.inr ⟨rfl, ht, hw⟩)))) hd hl
theorem own_pack {n0 : Nat} {L Lc : List Loc} {k n rc rs C S' : Nat} (X : Stand p l e R s m args below meth c T L k n) (hl : L = locs ++ Lc) (hk : k = cells + rc) (hn : n = slots + rs) (N : Fr n0 locs) (Nq : Fr n0 Lc) (hC : cells + rc = C) (hS : slots + rs = S') : ∃ lc, Stand p l e R s m args below meth c T lc C S' ∧ Fr n0 lc := by
  subst hl hk hn hC hS; exact ⟨_, X, N.app Nq⟩
theorem own_pack1 {n0 : Nat} {a : Addr} {sl : Nat} (X : Stand p l e R s m args below meth c T (locs ++ [⟨a, sl⟩]) cells slots) (N : Fr n0 locs) (q : n0 ≤ a) : ∃ lc, Stand p l e R s m args below meth c T lc cells slots ∧ Fr n0 lc := ⟨_, X, Fr.snoc X N q⟩
/-- the run from a comes to an end that Q allows -/
def own_G (tb : Tables) (e : Env) (below : List Frame) (s : State) (Q : Option Value → Heap → List Loc → Prop) (C S : Nat) (a : State) : Prop :=
  ∃ (t : State) (o : Outcome), Steps tb e below a t ∧ t.status = .running ∧ Ended t below o ∧ ∃ v L, o = .returned v ∧ Q v t.heap L ∧ FrameEnd s o t L C S
theorem own_thr {tb : Tables} {Q : Option Value → Heap → List Loc → Prop} {C S : Nat} {a b : State} (h : ∀ t, Steps tb e below a t → Steps tb e below b t) (g : own_G tb e below s Q C S a) : own_G tb e below s Q C S b := by
  obtain ⟨t, o, h1, h2⟩ := g; exact ⟨t, o, h t h1, h2⟩
theorem own_end (X : Stand p l e R s m args below meth c T locs cells slots) (hlk : meth.locks = false) {v : Option Value} (hv : meth.sig.returnType = none → v = none) {g : JFrame} {Q : Option Value → Heap → List Loc → Prop} {C S : Nat}
    (hr : ∀ fs, (∀ (f : JFrame) (acts : List Action), f.method = m → f.locked = none → f.entered = [] → (doReturn e (T.setTop f) acts v).1 = T.setFrames fs) → Steps p.tables e below (T.setTop g) (T.setFrames fs))
    (hQ : Q v T.heap locs) (hC : cells ≤ C) (hS : slots ≤ S) : own_G p.tables e below s Q C S (T.setTop g) := by
  obtain ⟨fs, hr', hrun, hended, hW, hsame⟩ := X.leave (v := v) hv hlk
  exact ⟨_, _, hr fs hr', hrun, hended, _, _, rfl, hQ, ⟨_, rfl⟩, hW, hsame.mono hC hS⟩
def own_GW (tb : Tables) (e : Env) (below : List Frame) (s : State) (Q : Option Value → Heap → List Loc → Prop) (C S : Nat) (a : State) : Prop :=
  ∃ (t : State) (o : Outcome), Steps tb e below a t ∧ t.status = .running ∧ Ended t below o ∧ ∃ v L, o = .returned v ∧ Q v t.heap L ∧ ReturnedEndW s o t L C S
theorem own_thrW {tb : Tables} {Q : Option Value → Heap → List Loc → Prop} {C S : Nat} {a b : State} (h : ∀ t, Steps tb e below a t → Steps tb e below b t) (g : own_GW tb e below s Q C S a) : own_GW tb e below s Q C S b := by
  obtain ⟨t, o, h1, h2⟩ := g; exact ⟨t, o, h t h1, h2⟩
theorem own_endW {vm₁ : Vm} {k : Nat} (X : Stand p l e R (s.setVm vm₁) m args below meth c T locs cells slots) (hS : s.Since vm₁ k) (hk : k ≤ T.heap.size) (hlk : meth.locks = false) {v : Option Value} (hv : meth.sig.returnType = none → v = none) {g : JFrame} {Q : Option Value → Heap → List Loc → Prop} {C S : Nat}
    (hr : ∀ fs, (∀ (f : JFrame) (acts : List Action), f.method = m → f.locked = none → f.entered = [] → (doReturn e (T.setTop f) acts v).1 = T.setFrames fs) → Steps p.tables e below (T.setTop g) (T.setFrames fs))
    (hQ : Q v T.heap locs) (hC : cells ≤ C) (hSl : slots ≤ S) : own_GW p.tables e below s Q C S (T.setTop g) := by
  obtain ⟨fs, hr', hrun, hended, hret, hW, hint, hsame⟩ := X.leaveW hS hk (v := v) hv hlk
  exact ⟨_, _, hr fs hr', hrun, hended, _, _, rfl, hQ, ⟨_, rfl⟩, hW, hint, hsame.mono hC hSl⟩
def own_GH (tb : Tables) (e : Env) (below : List Frame) (s Z : State) (EL : List (String × Nat)) (Q : Option Value → Heap → List Loc → Prop) (C S : Nat) (a : State) : Prop :=
  ∃ (t : State) (o : Outcome), Steps tb e below a t ∧ t.status = .running ∧ Ended t below o ∧ ∃ v L, o = .returned v ∧ Q v t.heap L ∧ CHr Z EL s.vm s.heap t.vm t.heap ∧ ReturnedEndW s o t L C S
theorem own_thrH {tb : Tables} {Z : State} {EL : List (String × Nat)} {Q : Option Value → Heap → List Loc → Prop} {C S : Nat} {a b : State} (h : ∀ t, Steps tb e below a t → Steps tb e below b t) (g : own_GH tb e below s Z EL Q C S a) : own_GH tb e below s Z EL Q C S b := by
  obtain ⟨t, o, h1, h2⟩ := g; exact ⟨t, o, h t h1, h2⟩
theorem own_endH {vm₁ : Vm} {k : Nat} {Z : State} {a0 : Array Value} {EL : List (String × Nat)} {h0 H : Heap} (X : Stand p l e R (s.setVm vm₁) m args below meth c T locs cells slots) (hS : s.Since vm₁ k) (hk : k ≤ T.heap.size) (hZ : Z.Warmed39 vm₁) (hEL : EW Z a0 EL) (CH : CHr Z EL s.vm h0 vm₁ H) (hh : s.heap = h0) (eT : T.heap = H) (hlk : meth.locks = false) {v : Option Value} (hv : meth.sig.returnType = none → v = none) {g : JFrame} {Q : Option Value → Heap → List Loc → Prop} {C S : Nat}
    (hr : ∀ fs, (∀ (f : JFrame) (acts : List Action), f.method = m → f.locked = none → f.entered = [] → (doReturn e (T.setTop f) acts v).1 = T.setFrames fs) → Steps p.tables e below (T.setTop g) (T.setFrames fs))
    (hQ : Q v T.heap locs) (hC : cells ≤ C) (hSl : slots ≤ S) : own_GH p.tables e below s Z EL Q C S (T.setTop g) := by
  obtain ⟨fs, hr', hrun, hended, hret, hW, hint, hsame⟩ := X.leaveW hS hk (v := v) hv hlk
  have ch := CH.trans (CHv.at X hZ hEL CH.1)
  subst hh eT
  exact ⟨_, _, hr fs hr', hrun, hended, _, _, rfl, hQ, ch, ⟨_, rfl⟩, hW, hint, hsame.mono hC hSl⟩
theorem own_safe {Z : State} {EL : List (String × Nat)} {vm : Vm} {h : Heap} {x : Addr} (hal : Z.vm.Alike vm) (E : Exa Z h x "java/lang/String") (F : Fld Z h x "java/lang/String" "value" "[B" .null) : Safe Z EL vm h x := fun B => by
  obtain ⟨p, hp, u, a, hb, q, ha, S, hy | hy⟩ := B
  · obtain ⟨cS, ⟨⟨g1, -, -, ⟨c1, k1, i1, f1, -⟩, -, -, -, v1, -⟩, -⟩, -⟩ := S
    obtain ⟨cell, cf, k, i, f, h1, h2, h3, h4, h5, h6, h7⟩ := F
    subst hy
    have g1' : h[q.sa]? = some q.sC := g1
    cases h1.symm.trans g1'
    obtain ⟨k3, e3, -⟩ := State.fieldFound?_setVm (s := Z) hal h2
    have e4 := (show (Wst Z vm h).fieldFound? _ _ _ = _ from e3).symm.trans f1
    simp only [Option.some.injEq, Prod.mk.injEq] at e4
    rw [← e4.2.2.2, h7] at v1
    cases v1
  · have hd := S.hd
    obtain ⟨cS, -, -, hB, -⟩ := S
    obtain ⟨cell, k, h1, h2, h3, -⟩ := E
    subst hy
    have hd' : h[q.sd]? = some q.SA := hd
    cases h1.symm.trans hd'
    have hB' : Z.vm.findClass "[B" = some q.SA.cls := by rw [← hal.findClass]; exact hB
    exact ids_ne h2 hB' (by decide) rfl
end New
end Jvm.RoadKit
namespace Jvm.Pilot.@@N@@
open Jvm Jvm.ClassFile Sem Op Lib Jvm.Free Jvm.Stand Jvm.LawKit Jvm.RoadKit Bundle Jvm.Pilot.@@N@@.Jvm.D
theorem own_sa : ∀ a ∈ Bundle.stringAtoms, a ∈ tables_1 := by decide +kernel
def own_EL : List (String × Nat) := [("com/example/durable_dispatch/durabledispatch/cli/Option", 65), ("com/example/durable_dispatch/durabledispatch/cli/OptionSynopsisPinLaw", 23), ("com/example/durable_dispatch/durabledispatch/cli/OptionSynopsisPinLaw", 27), ("com/example/durable_dispatch/durabledispatch/cli/OptionSynopsisPinLaw", 25), ("com/example/durable_dispatch/durabledispatch/cli/OptionSynopsisPinLaw", 29)]
theorem own_EW {Z : State} {a0 : Array Value} (hw : ∀ d ∈ tables_1, d.before a0 Z = true) : EW Z a0 own_EL := (EW.cons (hw _ (List.mem_of_getElem? (i := 84) rfl)) (by decide) (EW.cons (hw _ (List.mem_of_getElem? (i := 140) rfl)) (by decide) (EW.cons (hw _ (List.mem_of_getElem? (i := 141) rfl)) (by decide) (EW.cons (hw _ (List.mem_of_getElem? (i := 187) rfl)) (by decide) (EW.cons (hw _ (List.mem_of_getElem? (i := 188) rfl)) (by decide) EW.nil)))))
theorem own_selp {Z s : State} {a0 args : Array Value} {C : String} {y : MethodName} (hZ : Z.Warmed39 s.vm) (h1 : (Jvm.Cond.selects C y y).before a0 Z = true) (h2 : (Jvm.Cond.privateMethod y).before a0 Z = true) (h3 : (Jvm.Cond.instanceMethod y).before a0 Z = true) (hy : y.cls ≠ "java/lang/invoke/MethodHandle" ∧ y.cls ≠ "java/lang/invoke/VarHandle") : (Jvm.Cond.selects y.cls y y).before args s = true := by
  obtain ⟨c2, r2, m2, q1, q2, q3, q4, kP, hkP, hkPi⟩ := Cond.selects_spec (mvT (args := args) hZ h1)
  exact selects_self_of_private (findClass_of_methodNamed q3) hkP hkPi (Cond.privateMethod_at (mvP hZ h2 (args := #[]))) (mvT hZ h3) hy
theorem own_same {Z : State} {a0 : Array Value} {C : String} {y w : MethodName} (h1 : (Jvm.Cond.selects C w w).before a0 Z = true) (he : y.cls = w.cls) (h3 : (Jvm.Cond.instanceMethod y).before a0 Z = true) (hy : y.cls ≠ "java/lang/invoke/MethodHandle" ∧ y.cls ≠ "java/lang/invoke/VarHandle") : (Jvm.Cond.sameMethod y.cls y.cls y.name y.desc).before a0 Z = true := by
  obtain ⟨c2, r2, m2, q1, q2, q3, q4, kP, hkP, hkPi⟩ := Cond.selects_spec h1
  obtain ⟨mk, methM, hnamed, hmethM, -, -⟩ := Cond.instanceMethod_spec h3
  have hf := State.methodFound?_of_named hnamed hy
  have hc : Z.vm.findClass y.cls = some m2.cls := by rw [he]; exact findClass_of_methodNamed q3
  have hn : Z.methodNamed? ⟨y.cls, y.name, y.desc⟩ = some mk := hnamed
  simp [Cond.before, Cond.holds, Cond.value, hc, hf, hn, hkP, hkPi]
theorem d3_0 : decode jdk_68_method_2_code 0 = .ok (.aload_n 0, 1) := by decide +kernel
theorem d3_1 : decode jdk_68_method_2_code 1 = .ok (.invokespecial 3, 3) := by decide +kernel
theorem d3_4 : decode jdk_68_method_2_code 4 = .ok (.getstatic 18, 3) := by decide +kernel
theorem d3_7 : decode jdk_68_method_2_code 7 = .ok (.ifCond .eq 18, 3) := by decide +kernel
theorem d3_10 : decode jdk_68_method_2_code 10 = .ok (.aload_n 0, 1) := by decide +kernel
theorem d3_11 : decode jdk_68_method_2_code 11 = .ok (.iload_n 1, 1) := by decide +kernel
theorem d3_12 : decode jdk_68_method_2_code 12 = .ok (.newarray .byte, 2) := by decide +kernel
theorem d3_14 : decode jdk_68_method_2_code 14 = .ok (.putfield 15, 3) := by decide +kernel
theorem d3_17 : decode jdk_68_method_2_code 17 = .ok (.aload_n 0, 1) := by decide +kernel
theorem d3_18 : decode jdk_68_method_2_code 18 = .ok (.iconst 0, 1) := by decide +kernel
theorem d3_19 : decode jdk_68_method_2_code 19 = .ok (.putfield 22, 3) := by decide +kernel
theorem d3_22 : decode jdk_68_method_2_code 22 = .ok (.goto 16, 3) := by decide +kernel
theorem d3_38 : decode jdk_68_method_2_code 38 = .ok (.return_, 1) := by decide +kernel
theorem pn_java_lang_AbstractStringBuilder : plainName "java/lang/AbstractStringBuilder" = true := by first | (simp [plainName, overriddenIn]; done) | decide +kernel
theorem ef_rmBI (m : MethodId) (o0 : Addr)  : entryFrame m #[(.ref o0), (.int 16)] 2 = mkF m 0 #[.val (.ref o0), .val (.int 16)] [] := by first |  (simp [entryFrame, mkF, argsToLocals, Value.category]; done) | rfl
def Q_rmBI (Z : State) (o0 : Addr) (cs : Int32) (h0 : Heap) (n0 : Nat) (v : Option Value) (h : Heap) (L : List Loc) : Prop := ∃ (b : Addr) (k : ClassId), v = none ∧ Fr n0 L ∧ Keep h0 h [o0] ∧ Exa Z h o0 "java/lang/StringBuilder" ∧ Fld Z h o0 "java/lang/AbstractStringBuilder" "value" "[B" (.ref b) ∧ Fld Z h o0 "java/lang/AbstractStringBuilder" "coder" "B" (.int 0) ∧ Fld Z h o0 "java/lang/AbstractStringBuilder" "count" "I" (.int 0) ∧ Arv Z h b k .byte (16 : Int32) [(.int 0), (.int 0), (.int 0), (.int 0), (.int 0), (.int 0), (.int 0), (.int 0), (.int 0), (.int 0), (.int 0), (.int 0), (.int 0), (.int 0), (.int 0), (.int 0)] (.int 0) ∧ h0.size ≤ b ∧ Exa Z h b "[B"
set_option maxRecDepth 65536 in
set_option maxHeartbeats 40000000 in
theorem rmBI (l : Launch) (Z : State) (a0 : Array Value) (hw : ∀ d ∈ tables_1, d.before a0 Z = true) (ws : List Jvm.Cond) (o0 : Addr) (cs : Int32) (h0 : Heap) (n0 : Nat) (Z0 : n0 ≤ h0.size) (E_o0 : Exa Z h0 o0 "java/lang/StringBuilder") (F_v : Fld Z h0 o0 "java/lang/AbstractStringBuilder" "value" "[B" .null) (F_c : Fld Z h0 o0 "java/lang/AbstractStringBuilder" "coder" "B" (.int 0)) (F_n : Fld Z h0 o0 "java/lang/AbstractStringBuilder" "count" "I" (.int 0)) (g_o0 : n0 ≤ o0) (S_cs : Sta Z h0 "java/lang/String" "COMPACT_STRINGS" "Z" (.int cs)) (hcs : ¬ cs = (0 : Int32)) :
    MetFree l (⟨"java/lang/AbstractStringBuilder", "<init>", "(I)V"⟩ : MethodName) (head1 (Jvm.Cond.code (⟨"java/lang/AbstractStringBuilder", "<init>", "(I)V"⟩ : MethodName) jdk_68_method_2_code 2 none :: ws) ({ frames := 1, cells := 1, slots := 16, locals := 12 } : Room)) (fun a U => a = #[(.ref o0), (.int 16)] ∧ Z.Warmed39 U.vm ∧ U.heap = h0) (fun _ _ _ _ _ => True) (fun _ U o U' => ∃ v L, o = .returned v ∧ Q_rmBI Z o0 cs h0 n0 v U'.heap L ∧ FrameEnd U o U' L ({ frames := 1, cells := 1, slots := 16, locals := 12 } : Room).cells ({ frames := 1, cells := 1, slots := 16, locals := 12 } : Room).slots) := by
  refine MetFree.of_bodySF (plainFor_of_name pn_java_lang_AbstractStringBuilder) hisR ?_
  intro p e s m args below meth c s₁ Bd hml0 hP hK
  obtain ⟨rfl, hZ, hh⟩ := hP
  have hx := Bd.exec
  have hby := Bd.bytes
  have hml : c.maxLocals = 2 := hml0
  have hown : s.vm.findClass "java/lang/AbstractStringBuilder" = some m.cls := findClass_of_methodNamed Bd.named
  have hnm := (name_of_methodNamed Bd.named Bd.method).1
  have hlk := Bd.notSynchronized
  have X0 : Stand p l e ({ frames := 1, cells := 1, slots := 16, locals := 12 } : Room) s m #[(.ref o0), (.int 16)] below meth c s₁ [] 0 0 := Stand.of_body Bd
  have e0 : s₁.heap = h0 := by rw [← hh, Bd.state]; rfl
  have N0 := Fr.nil n0
  show own_G p.tables e below s (Q_rmBI Z o0 cs h0 n0) ({ frames := 1, cells := 1, slots := 16, locals := 12 } : Room).cells ({ frames := 1, cells := 1, slots := 16, locals := 12 } : Room).slots _
  refine own_thr (a := s₁.setTop (mkF m 0 #[.val (.ref o0), .val (.int 16)] [])) (fun t kt => castTop (ef_rmBI m o0) kt) ?_
  refine own_thr (a := s₁.setTop (mkF m 1 #[.val (.ref o0), .val (.int 16)] [(.ref o0)])) (fun t kt => ?_) ?_
  · show Steps p.tables e below (s₁.setTop (mkF m 0 #[.val (.ref o0), .val (.int 16)] [])) _
    refine XS.aloadN X0.here hx rfl (hb hby d3_0) rfl rfl ?_
    exact kt
  obtain ⟨T1, X1, e1, st1⟩ := initO X0 hx hZ hown (hw _ (List.mem_of_getElem? (i := 20) rfl)) (hw _ (List.mem_of_getElem? (i := 21) rfl)) (hw _ (List.mem_of_getElem? (i := 22) rfl)) e0 (g := (mkF m 1 #[.val (.ref o0), .val (.int 16)] [(.ref o0)])) rfl (by rw [hml]; rfl) rfl (hb hby d3_1) (by decide) (W := 0) (by show 2 * 0 + _ ≤ _; exact Nat.le_of_eq rfl) (by decide)
  refine own_thr (a := T1.setTop (mkF m 4 #[.val (.ref o0), .val (.int 16)] [])) (fun t kt => st1 t kt) ?_
  obtain ⟨T2, X2, e2, st2⟩ := getS2 X1 hx hZ hown (host := "") (Or.inl (hw _ (List.mem_of_getElem? (i := 23) rfl))) Via.refl e1 S_cs (g := (mkF m 4 #[.val (.ref o0), .val (.int 16)] [])) rfl (hb hby d3_4)
  refine own_thr (a := T2.setTop (mkF m 7 #[.val (.ref o0), .val (.int 16)] [(.int cs)])) (fun t kt => st2 t kt) ?_
  refine own_thr (a := T2.setTop (mkF m 12 #[.val (.ref o0), .val (.int 16)] [(.int 16), (.ref o0)])) (fun t kt => ?_) ?_
  · show Steps p.tables e below (T2.setTop (mkF m 7 #[.val (.ref o0), .val (.int 16)] [(.int cs)])) _
    refine XS.ifNo X2.here hx rfl (hb hby d3_7) rfl ((if0 _ _).trans (feq hcs).1) ?_
    refine XS.aloadN X2.here hx rfl (hb hby d3_10) rfl rfl ?_
    refine XS.iloadN X2.here hx rfl (hb hby d3_11) rfl ?_
    exact kt
  obtain ⟨T3, h3, k3, X3, e3, E3, A3, AE3, st3⟩ := newPE X2 hx hZ (hw _ (List.mem_of_getElem? (i := 25) rfl)) e2 (g := (mkF m 12 #[.val (.ref o0), .val (.int 16)] [(.int 16), (.ref o0)])) rfl (hb hby d3_12) rfl (by decide) (cap := 16) (by decide) (by decide) (by decide : 0 + 1 ≤ _) (by decide : 0 + 16 ≤ _) rfl
  obtain ⟨b3, g3⟩ : ∃ z, z = h0.size := ⟨_, rfl⟩
  rw [← g3] at A3 st3 AE3
  have g_b3 : n0 ≤ b3 := Nat.le_trans Z0 (Nat.le_of_eq g3.symm)
  have sz_b3 : h0.size ≤ b3 := Nat.le_trans (Nat.le_refl h0.size) (Nat.le_of_eq g3.symm)
  have lt_o0_b3 : o0 < b3 := Nat.lt_of_lt_of_le E_o0.lt (Nat.le_of_eq g3.symm)
  have ne_o0_b3 : o0 ≠ b3 := Nat.ne_of_lt lt_o0_b3
  have V_b3 : Arv Z h3 b3 k3 .byte (16 : Int32) [(.int 0), (.int 0), (.int 0), (.int 0), (.int 0), (.int 0), (.int 0), (.int 0), (.int 0), (.int 0), (.int 0), (.int 0), (.int 0), (.int 0), (.int 0), (.int 0)] (.int 0) := (Arv.new A3 (by decide)).pad (pad_rep [] (.int 0) 16)
  have Z4 : n0 ≤ h3.size := Nat.le_trans Z0 E3.1
  have Z4h : h0.size ≤ h3.size := Nat.le_trans (Nat.le_refl h0.size) E3.1
  refine own_thr (a := T3.setTop (mkF m 14 #[.val (.ref o0), .val (.int 16)] [(.ref b3), (.ref o0)])) (fun t kt => st3 t kt) ?_
  obtain ⟨T5, h5, X5, e5, W5, st5⟩ := putF X3 hx hZ hown (host := "") (Or.inl (hw _ (List.mem_of_getElem? (i := 26) rfl))) Via.refl e3 (F_v.ext E3) (E_o0.ext E3) (Or.inl (hw _ (List.mem_of_getElem? (i := 27) rfl))) (hw _ (List.mem_of_getElem? (i := 9) rfl)) (ty := (.array .byte)) (by decide) rfl rfl (g := (mkF m 14 #[.val (.ref o0), .val (.int 16)] [(.ref b3), (.ref o0)])) rfl rfl (hb hby d3_14)
  have Fw5 := (F_v.ext E3).same W5
  have Z6 : n0 ≤ h5.size := Nat.le_trans Z4 (Nat.le_of_eq W5.size.symm)
  have Z6h : h0.size ≤ h5.size := Nat.le_trans Z4h (Nat.le_of_eq W5.size.symm)
  obtain ⟨lc5, X5, N5⟩ := own_pack1 X5 N0 g_o0
  refine own_thr (a := T5.setTop (mkF m 17 #[.val (.ref o0), .val (.int 16)] [])) (fun t kt => st5 t kt) ?_
  refine own_thr (a := T5.setTop (mkF m 19 #[.val (.ref o0), .val (.int 16)] [(.int 0), (.ref o0)])) (fun t kt => ?_) ?_
  · show Steps p.tables e below (T5.setTop (mkF m 17 #[.val (.ref o0), .val (.int 16)] [])) _
    refine XS.aloadN X5.here hx rfl (hb hby d3_17) rfl rfl ?_
    refine XS.iconst X5.here hx rfl (hb hby d3_18) ?_
    exact kt
  have c7 := ((F_c.ext E3).other W5 (Or.inr (slot_ne (Or.inl (hw _ (List.mem_of_getElem? (i := 29) rfl))) (Or.inl (hw _ (List.mem_of_getElem? (i := 27) rfl))) (by decide) (t := .byte) (t' := (.array .byte)) (by decide) (by decide))))
  obtain ⟨T8, h8, X8, e8, W8, st8⟩ := putFN X5 hx hZ hown (hw _ (List.mem_of_getElem? (i := 28) rfl)) Via.refl e5 c7 ((E_o0.ext E3).wr W5) (Or.inl (hw _ (List.mem_of_getElem? (i := 29) rfl))) (hw _ (List.mem_of_getElem? (i := 9) rfl)) (ty := .byte) (v' := (.int 0)) (by decide) rfl rfl (g := (mkF m 19 #[.val (.ref o0), .val (.int 16)] [(.int 0), (.ref o0)])) rfl rfl (hb hby d3_19)
  have Fw8 := c7.same W8
  have Z9 : n0 ≤ h8.size := Nat.le_trans Z6 (Nat.le_of_eq W8.size.symm)
  have Z9h : h0.size ≤ h8.size := Nat.le_trans Z6h (Nat.le_of_eq W8.size.symm)
  obtain ⟨lc8, X8, N8⟩ := own_pack1 X8 N5 g_o0
  refine own_thr (a := T8.setTop (mkF m 22 #[.val (.ref o0), .val (.int 16)] [])) (fun t kt => st8 t kt) ?_
  refine own_thr (a := T8.setTop (mkF m 38 #[.val (.ref o0), .val (.int 16)] [])) (fun t kt => ?_) ?_
  · show Steps p.tables e below (T8.setTop (mkF m 22 #[.val (.ref o0), .val (.int 16)] [])) _
    refine XS.goto X8.here hx rfl (pc0 := 22) (pc' := 38) rfl (hb hby d3_22) (by decide) (by decide) ?_
    exact kt
  have c10 := (Fw5.other W8 (Or.inr (slot_ne (Or.inl (hw _ (List.mem_of_getElem? (i := 27) rfl))) (Or.inl (hw _ (List.mem_of_getElem? (i := 29) rfl))) (by decide) (t := (.array .byte)) (t' := .byte) (by decide) (by decide))))
  have c11 := (((F_n.ext E3).other W5 (Or.inr (slot_ne (Or.inl (hw _ (List.mem_of_getElem? (i := 58) rfl))) (Or.inl (hw _ (List.mem_of_getElem? (i := 27) rfl))) (by decide) (t := .int) (t' := (.array .byte)) (by decide) (by decide)))).other W8 (Or.inr (slot_ne (Or.inl (hw _ (List.mem_of_getElem? (i := 58) rfl))) (Or.inl (hw _ (List.mem_of_getElem? (i := 29) rfl))) (by decide) (t := .int) (t' := .byte) (by decide) (by decide))))
  have c12 := ((V_b3.other W5 (Ne.symm ne_o0_b3)).other W8 (Ne.symm ne_o0_b3))
  exact own_end X8 hlk (v := none) (fun _ => rfl) (fun fs hr => X8.returnOut hx Bd.returns (hb hby d3_38) hr) (by rw [e8]; exact ⟨b3, _, rfl, N8, ((((Keep.refl h0 [o0]).ext E3).wr W5 (Or.inl (List.mem_of_getElem? (i := 0) rfl))).wr W8 (Or.inl (List.mem_of_getElem? (i := 0) rfl))), (((E_o0.ext E3).wr W5).wr W8), c10, Fw8, c11, c12, sz_b3, ((AE3.wr W5).wr W8)⟩) (by decide : 1 ≤ _) (by decide : 16 ≤ _)
theorem d2_0 : decode jdk_67_method_1_code 0 = .ok (.aload_n 0, 1) := by decide +kernel
theorem d2_1 : decode jdk_67_method_1_code 1 = .ok (.bipush 16, 2) := by decide +kernel
theorem pd__28I_29V : parseMethodDescriptor "(I)V" = some ⟨[.int], none⟩ := by decide +kernel
theorem d2_3 : decode jdk_67_method_1_code 3 = .ok (.invokespecial 1, 3) := by decide +kernel
theorem d2_6 : decode jdk_67_method_1_code 6 = .ok (.return_, 1) := by decide +kernel
theorem pn_java_lang_StringBuilder : plainName "java/lang/StringBuilder" = true := by first | (simp [plainName, overriddenIn]; done) | decide +kernel
theorem ef_rmSI (m : MethodId) (o0 : Addr)  : entryFrame m #[(.ref o0)] 1 = mkF m 0 #[.val (.ref o0)] [] := by first |  (simp [entryFrame, mkF, argsToLocals, Value.category]; done) | rfl
def Q_rmSI (Z : State) (o0 : Addr) (cs : Int32) (h0 : Heap) (n0 : Nat) (v : Option Value) (h : Heap) (L : List Loc) : Prop := ∃ (b : Addr) (k : ClassId), v = none ∧ Fr n0 L ∧ Keep h0 h [o0] ∧ Exa Z h o0 "java/lang/StringBuilder" ∧ Fld Z h o0 "java/lang/AbstractStringBuilder" "value" "[B" (.ref b) ∧ Fld Z h o0 "java/lang/AbstractStringBuilder" "coder" "B" (.int 0) ∧ Fld Z h o0 "java/lang/AbstractStringBuilder" "count" "I" (.int 0) ∧ Arv Z h b k .byte (16 : Int32) [(.int 0), (.int 0), (.int 0), (.int 0), (.int 0), (.int 0), (.int 0), (.int 0), (.int 0), (.int 0), (.int 0), (.int 0), (.int 0), (.int 0), (.int 0), (.int 0)] (.int 0) ∧ h0.size ≤ b ∧ Exa Z h b "[B"
set_option maxRecDepth 65536 in
set_option maxHeartbeats 40000000 in
theorem rmSI (l : Launch) (Z : State) (a0 : Array Value) (hw : ∀ d ∈ tables_1, d.before a0 Z = true) (ws : List Jvm.Cond) (o0 : Addr) (cs : Int32) (h0 : Heap) (n0 : Nat) (Z0 : n0 ≤ h0.size) (E_o0 : Exa Z h0 o0 "java/lang/StringBuilder") (F_v : Fld Z h0 o0 "java/lang/AbstractStringBuilder" "value" "[B" .null) (F_c : Fld Z h0 o0 "java/lang/AbstractStringBuilder" "coder" "B" (.int 0)) (F_n : Fld Z h0 o0 "java/lang/AbstractStringBuilder" "count" "I" (.int 0)) (g_o0 : n0 ≤ o0) (S_cs : Sta Z h0 "java/lang/String" "COMPACT_STRINGS" "Z" (.int cs)) (hcs : ¬ cs = (0 : Int32)) :
    MetFree l (⟨"java/lang/StringBuilder", "<init>", "()V"⟩ : MethodName) (head1 (Jvm.Cond.code (⟨"java/lang/StringBuilder", "<init>", "()V"⟩ : MethodName) jdk_67_method_1_code 1 none :: ws) ({ frames := 2, cells := 1, slots := 16, locals := 25 } : Room)) (fun a U => a = #[(.ref o0)] ∧ Z.Warmed39 U.vm ∧ U.heap = h0) (fun _ _ _ _ _ => True) (fun _ U o U' => ∃ v L, o = .returned v ∧ Q_rmSI Z o0 cs h0 n0 v U'.heap L ∧ FrameEnd U o U' L ({ frames := 2, cells := 1, slots := 16, locals := 25 } : Room).cells ({ frames := 2, cells := 1, slots := 16, locals := 25 } : Room).slots) := by
  refine MetFree.of_bodySF (plainFor_of_name pn_java_lang_StringBuilder) hisR ?_
  intro p e s m args below meth c s₁ Bd hml0 hP hK
  obtain ⟨rfl, hZ, hh⟩ := hP
  have hx := Bd.exec
  have hby := Bd.bytes
  have hml : c.maxLocals = 1 := hml0
  have hown : s.vm.findClass "java/lang/StringBuilder" = some m.cls := findClass_of_methodNamed Bd.named
  have hnm := (name_of_methodNamed Bd.named Bd.method).1
  have hlk := Bd.notSynchronized
  have X0 : Stand p l e ({ frames := 2, cells := 1, slots := 16, locals := 25 } : Room) s m #[(.ref o0)] below meth c s₁ [] 0 0 := Stand.of_body Bd
  have e0 : s₁.heap = h0 := by rw [← hh, Bd.state]; rfl
  have N0 := Fr.nil n0
  show own_G p.tables e below s (Q_rmSI Z o0 cs h0 n0) ({ frames := 2, cells := 1, slots := 16, locals := 25 } : Room).cells ({ frames := 2, cells := 1, slots := 16, locals := 25 } : Room).slots _
  refine own_thr (a := s₁.setTop (mkF m 0 #[.val (.ref o0)] [])) (fun t kt => castTop (ef_rmSI m o0) kt) ?_
  refine own_thr (a := s₁.setTop (mkF m 3 #[.val (.ref o0)] [(.int 16), (.ref o0)])) (fun t kt => ?_) ?_
  · show Steps p.tables e below (s₁.setTop (mkF m 0 #[.val (.ref o0)] [])) _
    refine XS.aloadN X0.here hx rfl (hb hby d2_0) rfl rfl ?_
    refine XS.bipush X0.here hx rfl (hb hby d2_1) ?_
    exact kt
  obtain ⟨_, _, ⟨T1, L1, k1, n1⟩, -, X1, ⟨Lc1, hQ1, l1, y1, z1⟩, st1⟩ := X0.specialBack hx (y := (⟨"java/lang/AbstractStringBuilder", "<init>", "(I)V"⟩ : MethodName)) rfl hown (mvT hZ (hw _ (List.mem_of_getElem? (i := 14) rfl))) (mvT hZ (hw _ (List.mem_of_getElem? (i := 15) rfl))) (mvT hZ (hw _ (List.mem_of_getElem? (i := 19) rfl))) (by decide) (backOf (W := 0) (rmBI l Z a0 hw [] o0 cs h0 n0 Z0 E_o0 F_v F_c F_n g_o0 S_cs hcs) hZ (hw _ (List.mem_of_getElem? (i := 19) rfl)) (hw _ (List.mem_of_getElem? (i := 18) rfl)) (by decide) (by decide)) (g := (mkF m 3 #[.val (.ref o0)] [(.int 16), (.ref o0)])) rfl (by rw [hml]; rfl) (Steps.refl _) (a := o0) (argsL := [(.int 16)]) (rest := []) (lenOf pd__28I_29V rfl) rfl (by show 2 * 0 + _ ≤ _; exact Nat.le_of_eq rfl) (hb hby d2_3) (fun _ _ => ⟨rfl, e0, (by decide : 0 + 1 ≤ _), (by decide : 0 + 16 ≤ _)⟩)
  dsimp only [Pt.U, Pt.locs, Pt.cells, Pt.slots] at X1 l1 y1 z1 st1 hQ1
  obtain ⟨vb1, kb1, rfl, N1q, K1, o1_e, o1_v, o1_c, o1_n, o1_a, hsz1, o1_x⟩ := hQ1
  have ne_o0_vb1 : o0 ≠ vb1 := Nat.ne_of_lt (Nat.lt_of_lt_of_le E_o0.lt hsz1)
  have g_vb1 : n0 ≤ vb1 := Nat.le_trans Z0 hsz1
  have sz_vb1 : h0.size ≤ vb1 := Nat.le_trans (Nat.le_refl h0.size) hsz1
  have Z2 : n0 ≤ T1.heap.size := Nat.le_trans Z0 K1.1
  have Z2h : h0.size ≤ T1.heap.size := Nat.le_trans (Nat.le_refl h0.size) K1.1
  obtain ⟨lc1, X1, N1⟩ := own_pack X1 l1 y1 z1 N0 N1q (C := 1) (S' := 16) rfl rfl
  refine own_thr (a := T1.setTop (mkF m 6 #[.val (.ref o0)] [])) (fun t kt => st1.trans kt) ?_
  exact own_end X1 hlk (v := none) (fun _ => rfl) (fun fs hr => X1.returnOut hx Bd.returns (hb hby d2_6) hr) ⟨vb1, _, rfl, N1, ((Keep.refl h0 [o0]).trans K1 (allS (Or.inl (List.mem_of_getElem? (i := 0) rfl)) all0)), o1_e, o1_v, o1_c, o1_n, o1_a, sz_vb1, o1_x⟩ (by decide : 1 ≤ _) (by decide : 16 ≤ _)
theorem d8_0 : decode jdk_42_method_152_code 0 = .ok (.getstatic 38, 3) := by decide +kernel
theorem d8_3 : decode jdk_42_method_152_code 3 = .ok (.ifCond .eq 10, 3) := by decide +kernel
theorem d8_6 : decode jdk_42_method_152_code 6 = .ok (.aload_n 0, 1) := by decide +kernel
theorem d8_7 : decode jdk_42_method_152_code 7 = .ok (.getfield 15, 3) := by decide +kernel
theorem d8_10 : decode jdk_42_method_152_code 10 = .ok (.goto 4, 3) := by decide +kernel
theorem d8_14 : decode jdk_42_method_152_code 14 = .ok (.ireturn, 1) := by decide +kernel
theorem pn_java_lang_String : plainName "java/lang/String" = true := by first | (simp [plainName, overriddenIn]; done) | decide +kernel
theorem ef_rmCO (m : MethodId) (o0 : Addr)  : entryFrame m #[(.ref o0)] 1 = mkF m 0 #[.val (.ref o0)] [] := by first |  (simp [entryFrame, mkF, argsToLocals, Value.category]; done) | rfl
def Q_rmCO (Z : State) (o0 : Addr) (cs : Int32) (h0 : Heap) (n0 : Nat) (v : Option Value) (h : Heap) (L : List Loc) : Prop := v = some (.int 0) ∧ Fr n0 L ∧ h = h0
set_option maxRecDepth 65536 in
set_option maxHeartbeats 40000000 in
theorem rmCO (l : Launch) (Z : State) (a0 : Array Value) (hw : ∀ d ∈ tables_1, d.before a0 Z = true) (ws : List Jvm.Cond) (o0 : Addr) (cs : Int32) (h0 : Heap) (n0 : Nat) (Z0 : n0 ≤ h0.size) (F_coder_o0 : Fld Z h0 o0 "java/lang/String" "coder" "B" (.int 0)) (S_COMPACT_STRINGS : Sta Z h0 "java/lang/String" "COMPACT_STRINGS" "Z" (.int cs)) (hcs : ¬ cs = (0 : Int32)) :
    MetFree l (⟨"java/lang/String", "coder", "()B"⟩ : MethodName) (head1 (Jvm.Cond.code (⟨"java/lang/String", "coder", "()B"⟩ : MethodName) jdk_42_method_152_code 1 (some .byte) :: ws) ({ frames := 0, cells := 0, slots := 0, locals := 0 } : Room)) (fun a U => a = #[(.ref o0)] ∧ Z.Warmed39 U.vm ∧ U.heap = h0) (fun _ _ _ _ _ => True) (fun _ U o U' => ∃ v L, o = .returned v ∧ Q_rmCO Z o0 cs h0 n0 v U'.heap L ∧ FrameEnd U o U' L ({ frames := 0, cells := 0, slots := 0, locals := 0 } : Room).cells ({ frames := 0, cells := 0, slots := 0, locals := 0 } : Room).slots) := by
  refine MetFree.of_bodySF (plainFor_of_name pn_java_lang_String) hisR ?_
  intro p e s m args below meth c s₁ Bd hml0 hP hK
  obtain ⟨rfl, hZ, hh⟩ := hP
  have hx := Bd.exec
  have hby := Bd.bytes
  have hml : c.maxLocals = 1 := hml0
  have hown : s.vm.findClass "java/lang/String" = some m.cls := findClass_of_methodNamed Bd.named
  have hnm := (name_of_methodNamed Bd.named Bd.method).1
  have hlk := Bd.notSynchronized
  have X0 : Stand p l e ({ frames := 0, cells := 0, slots := 0, locals := 0 } : Room) s m #[(.ref o0)] below meth c s₁ [] 0 0 := Stand.of_body Bd
  have e0 : s₁.heap = h0 := by rw [← hh, Bd.state]; rfl
  have N0 := Fr.nil n0
  show own_G p.tables e below s (Q_rmCO Z o0 cs h0 n0) ({ frames := 0, cells := 0, slots := 0, locals := 0 } : Room).cells ({ frames := 0, cells := 0, slots := 0, locals := 0 } : Room).slots _
  refine own_thr (a := s₁.setTop (mkF m 0 #[.val (.ref o0)] [])) (fun t kt => castTop (ef_rmCO m o0) kt) ?_
  obtain ⟨T1, X1, e1, st1⟩ := getS2 X0 hx hZ hown (host := "") (Or.inl (hw _ (List.mem_of_getElem? (i := 54) rfl))) Via.refl e0 S_COMPACT_STRINGS (g := (mkF m 0 #[.val (.ref o0)] [])) rfl (hb hby d8_0)
  refine own_thr (a := T1.setTop (mkF m 3 #[.val (.ref o0)] [(.int cs)])) (fun t kt => st1 t kt) ?_
  refine own_thr (a := T1.setTop (mkF m 7 #[.val (.ref o0)] [(.ref o0)])) (fun t kt => ?_) ?_
  · show Steps p.tables e below (T1.setTop (mkF m 3 #[.val (.ref o0)] [(.int cs)])) _
    refine XS.ifNo X1.here hx rfl (hb hby d8_3) rfl ((if0 _ _).trans (feq hcs).1) ?_
    refine XS.aloadN X1.here hx rfl (hb hby d8_6) rfl rfl ?_
    exact kt
  obtain ⟨T2, X2, e2, st2⟩ := getF X1 hx hZ hown (host := "") (Or.inl (hw _ (List.mem_of_getElem? (i := 55) rfl))) Via.refl e1 F_coder_o0 (g := (mkF m 7 #[.val (.ref o0)] [(.ref o0)])) rfl rfl (hb hby d8_7)
  refine own_thr (a := T2.setTop (mkF m 10 #[.val (.ref o0)] [(.int 0)])) (fun t kt => st2 t kt) ?_
  refine own_thr (a := T2.setTop (mkF m 14 #[.val (.ref o0)] [(.int 0)])) (fun t kt => ?_) ?_
  · show Steps p.tables e below (T2.setTop (mkF m 10 #[.val (.ref o0)] [(.int 0)])) _
    refine XS.goto X2.here hx rfl (pc0 := 10) (pc' := 14) rfl (hb hby d8_10) (by decide) (by decide) ?_
    exact kt
  exact own_end X2 hlk (v := some (.int 0)) (fun h => by rw [Bd.returns] at h; cases h) (fun fs hr => retN X2 hx (t := .byte) Bd.returns (by simp) (hb hby d8_14) hr) (by rw [e2]; exact ⟨rfl, N0, rfl⟩) (by decide : 0 ≤ _) (by decide : 0 ≤ _)
theorem d11_0 : decode jdk_68_method_71_code 0 = .ok (.getstatic 18, 3) := by decide +kernel
theorem d11_3 : decode jdk_68_method_71_code 3 = .ok (.ifCond .eq 18, 3) := by decide +kernel
theorem d11_6 : decode jdk_68_method_71_code 6 = .ok (.aload_n 0, 1) := by decide +kernel
theorem d11_7 : decode jdk_68_method_71_code 7 = .ok (.getfield 22, 3) := by decide +kernel
theorem d11_10 : decode jdk_68_method_71_code 10 = .ok (.aload_n 1, 1) := by decide +kernel
theorem pd__28_29B : parseMethodDescriptor "()B" = some ⟨[], some .byte⟩ := by decide +kernel
theorem d11_11 : decode jdk_68_method_71_code 11 = .ok (.invokevirtual 40, 3) := by decide +kernel
theorem d11_14 : decode jdk_68_method_71_code 14 = .ok (.if_icmp .eq 7, 3) := by decide +kernel
theorem d11_21 : decode jdk_68_method_71_code 21 = .ok (.return_, 1) := by decide +kernel
theorem ef_rmIN (m : MethodId) (o0 : Addr) (o1 : Addr)  : entryFrame m #[(.ref o0), (.ref o1)] 2 = mkF m 0 #[.val (.ref o0), .val (.ref o1)] [] := by first |  (simp [entryFrame, mkF, argsToLocals, Value.category]; done) | rfl
def Q_rmIN (Z : State) (o0 : Addr) (o1 : Addr) (cs : Int32) (h0 : Heap) (n0 : Nat) (v : Option Value) (h : Heap) (L : List Loc) : Prop := v = none ∧ Fr n0 L ∧ h = h0
set_option maxRecDepth 65536 in
set_option maxHeartbeats 40000000 in
theorem rmIN (l : Launch) (Z : State) (a0 : Array Value) (hw : ∀ d ∈ tables_1, d.before a0 Z = true) (ws : List Jvm.Cond) (o0 : Addr) (o1 : Addr) (cs : Int32) (h0 : Heap) (n0 : Nat) (Z0 : n0 ≤ h0.size) (F_coder_o0 : Fld Z h0 o0 "java/lang/AbstractStringBuilder" "coder" "B" (.int 0)) (E_o1 : Exa Z h0 o1 "java/lang/String") (F_coder_o1 : Fld Z h0 o1 "java/lang/String" "coder" "B" (.int 0)) (S_COMPACT_STRINGS : Sta Z h0 "java/lang/String" "COMPACT_STRINGS" "Z" (.int cs)) (hcs : ¬ cs = (0 : Int32)) :
    MetFree l (⟨"java/lang/AbstractStringBuilder", "inflateIfNeededFor", "(Ljava/lang/String;)V"⟩ : MethodName) (head1 (Jvm.Cond.code (⟨"java/lang/AbstractStringBuilder", "inflateIfNeededFor", "(Ljava/lang/String;)V"⟩ : MethodName) jdk_68_method_71_code 2 none :: ws) ({ frames := 1, cells := 0, slots := 0, locals := 13 } : Room)) (fun a U => a = #[(.ref o0), (.ref o1)] ∧ Z.Warmed39 U.vm ∧ U.heap = h0) (fun _ _ _ _ _ => True) (fun _ U o U' => ∃ v L, o = .returned v ∧ Q_rmIN Z o0 o1 cs h0 n0 v U'.heap L ∧ FrameEnd U o U' L ({ frames := 1, cells := 0, slots := 0, locals := 13 } : Room).cells ({ frames := 1, cells := 0, slots := 0, locals := 13 } : Room).slots) := by
  refine MetFree.of_bodySF (plainFor_of_name pn_java_lang_AbstractStringBuilder) hisR ?_
  intro p e s m args below meth c s₁ Bd hml0 hP hK
  obtain ⟨rfl, hZ, hh⟩ := hP
  have hx := Bd.exec
  have hby := Bd.bytes
  have hml : c.maxLocals = 2 := hml0
  have hown : s.vm.findClass "java/lang/AbstractStringBuilder" = some m.cls := findClass_of_methodNamed Bd.named
  have hnm := (name_of_methodNamed Bd.named Bd.method).1
  have hlk := Bd.notSynchronized
  have X0 : Stand p l e ({ frames := 1, cells := 0, slots := 0, locals := 13 } : Room) s m #[(.ref o0), (.ref o1)] below meth c s₁ [] 0 0 := Stand.of_body Bd
  have e0 : s₁.heap = h0 := by rw [← hh, Bd.state]; rfl
  have N0 := Fr.nil n0
  show own_G p.tables e below s (Q_rmIN Z o0 o1 cs h0 n0) ({ frames := 1, cells := 0, slots := 0, locals := 13 } : Room).cells ({ frames := 1, cells := 0, slots := 0, locals := 13 } : Room).slots _
  refine own_thr (a := s₁.setTop (mkF m 0 #[.val (.ref o0), .val (.ref o1)] [])) (fun t kt => castTop (ef_rmIN m o0 o1) kt) ?_
  obtain ⟨T1, X1, e1, st1⟩ := getS2 X0 hx hZ hown (host := "") (Or.inl (hw _ (List.mem_of_getElem? (i := 23) rfl))) Via.refl e0 S_COMPACT_STRINGS (g := (mkF m 0 #[.val (.ref o0), .val (.ref o1)] [])) rfl (hb hby d11_0)
  refine own_thr (a := T1.setTop (mkF m 3 #[.val (.ref o0), .val (.ref o1)] [(.int cs)])) (fun t kt => st1 t kt) ?_
  refine own_thr (a := T1.setTop (mkF m 7 #[.val (.ref o0), .val (.ref o1)] [(.ref o0)])) (fun t kt => ?_) ?_
  · show Steps p.tables e below (T1.setTop (mkF m 3 #[.val (.ref o0), .val (.ref o1)] [(.int cs)])) _
    refine XS.ifNo X1.here hx rfl (hb hby d11_3) rfl ((if0 _ _).trans (feq hcs).1) ?_
    refine XS.aloadN X1.here hx rfl (hb hby d11_6) rfl rfl ?_
    exact kt
  obtain ⟨T2, X2, e2, st2⟩ := getF X1 hx hZ hown (host := "") (Or.inl (hw _ (List.mem_of_getElem? (i := 28) rfl))) Via.refl e1 F_coder_o0 (g := (mkF m 7 #[.val (.ref o0), .val (.ref o1)] [(.ref o0)])) rfl rfl (hb hby d11_7)
  refine own_thr (a := T2.setTop (mkF m 10 #[.val (.ref o0), .val (.ref o1)] [(.int 0)])) (fun t kt => st2 t kt) ?_
  refine own_thr (a := T2.setTop (mkF m 11 #[.val (.ref o0), .val (.ref o1)] [(.ref o1), (.int 0)])) (fun t kt => ?_) ?_
  · show Steps p.tables e below (T2.setTop (mkF m 10 #[.val (.ref o0), .val (.ref o1)] [(.int 0)])) _
    refine XS.aloadN X2.here hx rfl (hb hby d11_10) rfl rfl ?_
    exact kt
  obtain ⟨cq3, kq3, q3a, q3b, q3c⟩ := isOf hZ e2 E_o1
  obtain ⟨_, _, ⟨T3, L3, k3, n3⟩, -, X3, ⟨Lc3, hQ3, l3, y3, z3⟩, st3⟩ := X2.virtualBack hx (y := (⟨"java/lang/String", "coder", "()B"⟩ : MethodName)) (z := (⟨"java/lang/String", "coder", "()B"⟩ : MethodName)) hown (mvT hZ (hw _ (List.mem_of_getElem? (i := 74) rfl))) (mvT hZ (hw _ (List.mem_of_getElem? (i := 50) rfl))) (notFace_of_selects (args := #[]) (mvT hZ (hw _ (List.mem_of_getElem? (i := 52) rfl)))) (mvT hZ (hw _ (List.mem_of_getElem? (i := 52) rfl))) (mvT hZ (hw _ (List.mem_of_getElem? (i := 51) rfl))) (by decide) (backOf (W := 1) (rmCO l Z a0 hw [] o1 cs h0 n0 Z0 F_coder_o1 S_COMPACT_STRINGS hcs) hZ (hw _ (List.mem_of_getElem? (i := 53) rfl)) (hw _ (List.mem_of_getElem? (i := 24) rfl)) (by decide) (by decide)) q3a q3c (g := (mkF m 11 #[.val (.ref o0), .val (.ref o1)] [(.ref o1), (.int 0)])) rfl (by rw [hml]; rfl) (Steps.refl _) (argsL := []) (rest := [(.int 0)]) (lenOf pd__28_29B rfl) rfl (by show 2 * 0 + _ ≤ _; exact Nat.le_of_eq rfl) (hb hby d11_11) (fun _ _ => ⟨rfl, e2, (by decide : 0 + 0 ≤ _), (by decide : 0 + 0 ≤ _)⟩)
  dsimp only [Pt.U, Pt.locs, Pt.cells, Pt.slots] at X3 l3 y3 z3 st3 hQ3
  obtain ⟨rfl, N3q, e3⟩ := hQ3
  obtain ⟨lc3, X3, N3⟩ := own_pack X3 l3 y3 z3 N0 N3q (C := 0) (S' := 0) rfl rfl
  refine own_thr (a := T3.setTop (mkF m 14 #[.val (.ref o0), .val (.ref o1)] [(.int 0), (.int 0)])) (fun t kt => st3.trans kt) ?_
  refine own_thr (a := T3.setTop (mkF m 21 #[.val (.ref o0), .val (.ref o1)] [])) (fun t kt => ?_) ?_
  · show Steps p.tables e below (T3.setTop (mkF m 14 #[.val (.ref o0), .val (.ref o1)] [(.int 0), (.int 0)])) _
    refine XS.icmpYes X3.here hx rfl (pc0 := 14) (pc' := 21) rfl (hb hby d11_14) rfl (teq rfl).1 (by decide) (by decide) ?_
    exact kt
  exact own_end X3 hlk (v := none) (fun _ => rfl) (fun fs hr => X3.returnOut hx Bd.returns (hb hby d11_21) hr) (by rw [e3]; exact ⟨rfl, N3, rfl⟩) (by decide : 0 ≤ _) (by decide : 0 ≤ _)
theorem own_nf {s : State} {args : Array Value} {C : String} {y w : MethodName} (h1 : (Jvm.Cond.selects C w w).before args s = true) (he : y.cls = w.cls) : NotFace s y := fun r0 h0 => by
  obtain ⟨c2, r2, m2, q1, q2, q3, q4, kP, hkP, hkPi⟩ := Cond.selects_spec h1
  have e1 := findClass_of_methodNamed h0
  have e2 := findClass_of_methodNamed q3
  rw [he] at e1
  have e3 := Option.some.inj (e1.symm.trans e2)
  exact ⟨kP, by rw [e3]; exact hkP, hkPi⟩
theorem d16_0 : decode jdk_68_method_64_code 0 = .ok (.aload_n 0, 1) := by decide +kernel
theorem d16_1 : decode jdk_68_method_64_code 1 = .ok (.getfield 15, 3) := by decide +kernel
theorem d16_4 : decode jdk_68_method_64_code 4 = .ok (.areturn, 1) := by decide +kernel
theorem ef_rmGV (m : MethodId) (o0 : Addr)  : entryFrame m #[(.ref o0)] 1 = mkF m 0 #[.val (.ref o0)] [] := by first |  (simp [entryFrame, mkF, argsToLocals, Value.category]; done) | rfl
def Q_rmGV (Z : State) (o0 : Addr) (vb : Addr) (h0 : Heap) (n0 : Nat) (v : Option Value) (h : Heap) (L : List Loc) : Prop := v = some (.ref vb) ∧ Fr n0 L ∧ h = h0
set_option maxRecDepth 65536 in
set_option maxHeartbeats 40000000 in
theorem rmGV (l : Launch) (Z : State) (a0 : Array Value) (hw : ∀ d ∈ tables_1, d.before a0 Z = true) (ws : List Jvm.Cond) (o0 : Addr) (vb : Addr) (h0 : Heap) (n0 : Nat) (Z0 : n0 ≤ h0.size) (F_value_o0 : Fld Z h0 o0 "java/lang/AbstractStringBuilder" "value" "[B" (.ref vb)) :
    MetFree l (⟨"java/lang/AbstractStringBuilder", "getValue", "()[B"⟩ : MethodName) (head1 (Jvm.Cond.code (⟨"java/lang/AbstractStringBuilder", "getValue", "()[B"⟩ : MethodName) jdk_68_method_64_code 1 (some (.array .byte)) :: ws) ({ frames := 0, cells := 0, slots := 0, locals := 0 } : Room)) (fun a U => a = #[(.ref o0)] ∧ Z.Warmed39 U.vm ∧ U.heap = h0) (fun _ _ _ _ _ => True) (fun _ U o U' => ∃ v L, o = .returned v ∧ Q_rmGV Z o0 vb h0 n0 v U'.heap L ∧ FrameEnd U o U' L ({ frames := 0, cells := 0, slots := 0, locals := 0 } : Room).cells ({ frames := 0, cells := 0, slots := 0, locals := 0 } : Room).slots) := by
  refine MetFree.of_bodySF (plainFor_of_name pn_java_lang_AbstractStringBuilder) hisR ?_
  intro p e s m args below meth c s₁ Bd hml0 hP hK
  obtain ⟨rfl, hZ, hh⟩ := hP
  have hx := Bd.exec
  have hby := Bd.bytes
  have hml : c.maxLocals = 1 := hml0
  have hown : s.vm.findClass "java/lang/AbstractStringBuilder" = some m.cls := findClass_of_methodNamed Bd.named
  have hnm := (name_of_methodNamed Bd.named Bd.method).1
  have hlk := Bd.notSynchronized
  have X0 : Stand p l e ({ frames := 0, cells := 0, slots := 0, locals := 0 } : Room) s m #[(.ref o0)] below meth c s₁ [] 0 0 := Stand.of_body Bd
  have e0 : s₁.heap = h0 := by rw [← hh, Bd.state]; rfl
  have N0 := Fr.nil n0
  show own_G p.tables e below s (Q_rmGV Z o0 vb h0 n0) ({ frames := 0, cells := 0, slots := 0, locals := 0 } : Room).cells ({ frames := 0, cells := 0, slots := 0, locals := 0 } : Room).slots _
  refine own_thr (a := s₁.setTop (mkF m 0 #[.val (.ref o0)] [])) (fun t kt => castTop (ef_rmGV m o0) kt) ?_
  refine own_thr (a := s₁.setTop (mkF m 1 #[.val (.ref o0)] [(.ref o0)])) (fun t kt => ?_) ?_
  · show Steps p.tables e below (s₁.setTop (mkF m 0 #[.val (.ref o0)] [])) _
    refine XS.aloadN X0.here hx rfl (hb hby d16_0) rfl rfl ?_
    exact kt
  obtain ⟨T1, X1, e1, st1⟩ := getF X0 hx hZ hown (host := "") (Or.inl (hw _ (List.mem_of_getElem? (i := 26) rfl))) Via.refl e0 F_value_o0 (g := (mkF m 1 #[.val (.ref o0)] [(.ref o0)])) rfl rfl (hb hby d16_1)
  refine own_thr (a := T1.setTop (mkF m 4 #[.val (.ref o0)] [(.ref vb)])) (fun t kt => st1 t kt) ?_
  exact own_end X1 hlk (v := some (.ref vb)) (fun h => by rw [Bd.returns] at h; cases h) (fun fs hr => retA X1 hx Bd.returns rfl rfl (hb hby d16_4) hr) (by rw [e1]; exact ⟨rfl, N0, rfl⟩) (by decide : 0 ≤ _) (by decide : 0 ≤ _)
theorem d19_0 : decode jdk_68_method_68_code 0 = .ok (.getstatic 18, 3) := by decide +kernel
theorem d19_3 : decode jdk_68_method_68_code 3 = .ok (.ifCond .eq 14, 3) := by decide +kernel
theorem d19_6 : decode jdk_68_method_68_code 6 = .ok (.aload_n 0, 1) := by decide +kernel
theorem d19_7 : decode jdk_68_method_68_code 7 = .ok (.getfield 22, 3) := by decide +kernel
theorem d19_10 : decode jdk_68_method_68_code 10 = .ok (.ifCond .ne 7, 3) := by decide +kernel
theorem d19_13 : decode jdk_68_method_68_code 13 = .ok (.iconst 1, 1) := by decide +kernel
theorem d19_14 : decode jdk_68_method_68_code 14 = .ok (.goto 4, 3) := by decide +kernel
theorem d19_18 : decode jdk_68_method_68_code 18 = .ok (.ireturn, 1) := by decide +kernel
theorem ef_rmIL (m : MethodId) (o0 : Addr)  : entryFrame m #[(.ref o0)] 1 = mkF m 0 #[.val (.ref o0)] [] := by first |  (simp [entryFrame, mkF, argsToLocals, Value.category]; done) | rfl
def Q_rmIL (Z : State) (o0 : Addr) (cs : Int32) (h0 : Heap) (n0 : Nat) (v : Option Value) (h : Heap) (L : List Loc) : Prop := v = some (.int 1) ∧ Fr n0 L ∧ h = h0
set_option maxRecDepth 65536 in
set_option maxHeartbeats 40000000 in
theorem rmIL (l : Launch) (Z : State) (a0 : Array Value) (hw : ∀ d ∈ tables_1, d.before a0 Z = true) (ws : List Jvm.Cond) (o0 : Addr) (cs : Int32) (h0 : Heap) (n0 : Nat) (Z0 : n0 ≤ h0.size) (F_coder_o0 : Fld Z h0 o0 "java/lang/AbstractStringBuilder" "coder" "B" (.int 0)) (S_COMPACT_STRINGS : Sta Z h0 "java/lang/String" "COMPACT_STRINGS" "Z" (.int cs)) (hcs : ¬ cs = (0 : Int32)) :
    MetFree l (⟨"java/lang/AbstractStringBuilder", "isLatin1", "()Z"⟩ : MethodName) (head1 (Jvm.Cond.code (⟨"java/lang/AbstractStringBuilder", "isLatin1", "()Z"⟩ : MethodName) jdk_68_method_68_code 1 (some .boolean) :: ws) ({ frames := 0, cells := 0, slots := 0, locals := 0 } : Room)) (fun a U => a = #[(.ref o0)] ∧ Z.Warmed39 U.vm ∧ U.heap = h0) (fun _ _ _ _ _ => True) (fun _ U o U' => ∃ v L, o = .returned v ∧ Q_rmIL Z o0 cs h0 n0 v U'.heap L ∧ FrameEnd U o U' L ({ frames := 0, cells := 0, slots := 0, locals := 0 } : Room).cells ({ frames := 0, cells := 0, slots := 0, locals := 0 } : Room).slots) := by
  refine MetFree.of_bodySF (plainFor_of_name pn_java_lang_AbstractStringBuilder) hisR ?_
  intro p e s m args below meth c s₁ Bd hml0 hP hK
  obtain ⟨rfl, hZ, hh⟩ := hP
  have hx := Bd.exec
  have hby := Bd.bytes
  have hml : c.maxLocals = 1 := hml0
  have hown : s.vm.findClass "java/lang/AbstractStringBuilder" = some m.cls := findClass_of_methodNamed Bd.named
  have hnm := (name_of_methodNamed Bd.named Bd.method).1
  have hlk := Bd.notSynchronized
  have X0 : Stand p l e ({ frames := 0, cells := 0, slots := 0, locals := 0 } : Room) s m #[(.ref o0)] below meth c s₁ [] 0 0 := Stand.of_body Bd
  have e0 : s₁.heap = h0 := by rw [← hh, Bd.state]; rfl
  have N0 := Fr.nil n0
  show own_G p.tables e below s (Q_rmIL Z o0 cs h0 n0) ({ frames := 0, cells := 0, slots := 0, locals := 0 } : Room).cells ({ frames := 0, cells := 0, slots := 0, locals := 0 } : Room).slots _
  refine own_thr (a := s₁.setTop (mkF m 0 #[.val (.ref o0)] [])) (fun t kt => castTop (ef_rmIL m o0) kt) ?_
  obtain ⟨T1, X1, e1, st1⟩ := getS2 X0 hx hZ hown (host := "") (Or.inl (hw _ (List.mem_of_getElem? (i := 23) rfl))) Via.refl e0 S_COMPACT_STRINGS (g := (mkF m 0 #[.val (.ref o0)] [])) rfl (hb hby d19_0)
  refine own_thr (a := T1.setTop (mkF m 3 #[.val (.ref o0)] [(.int cs)])) (fun t kt => st1 t kt) ?_
  refine own_thr (a := T1.setTop (mkF m 7 #[.val (.ref o0)] [(.ref o0)])) (fun t kt => ?_) ?_
  · show Steps p.tables e below (T1.setTop (mkF m 3 #[.val (.ref o0)] [(.int cs)])) _
    refine XS.ifNo X1.here hx rfl (hb hby d19_3) rfl ((if0 _ _).trans (feq hcs).1) ?_
    refine XS.aloadN X1.here hx rfl (hb hby d19_6) rfl rfl ?_
    exact kt
  obtain ⟨T2, X2, e2, st2⟩ := getF X1 hx hZ hown (host := "") (Or.inl (hw _ (List.mem_of_getElem? (i := 28) rfl))) Via.refl e1 F_coder_o0 (g := (mkF m 7 #[.val (.ref o0)] [(.ref o0)])) rfl rfl (hb hby d19_7)
  refine own_thr (a := T2.setTop (mkF m 10 #[.val (.ref o0)] [(.int 0)])) (fun t kt => st2 t kt) ?_
  refine own_thr (a := T2.setTop (mkF m 18 #[.val (.ref o0)] [(.int 1)])) (fun t kt => ?_) ?_
  · show Steps p.tables e below (T2.setTop (mkF m 10 #[.val (.ref o0)] [(.int 0)])) _
    refine XS.ifNo X2.here hx rfl (hb hby d19_10) rfl ((if0 _ _).trans (teq rfl).2) ?_
    refine XS.iconst X2.here hx rfl (hb hby d19_13) ?_
    refine XS.goto X2.here hx rfl (pc0 := 14) (pc' := 18) rfl (hb hby d19_14) (by decide) (by decide) ?_
    exact kt
  exact own_end X2 hlk (v := some (.int 1)) (fun h => by rw [Bd.returns] at h; cases h) (fun fs hr => retN X2 hx (t := .boolean) Bd.returns (by simp) (hb hby d19_18) hr) (by rw [e2]; exact ⟨rfl, N0, rfl⟩) (by decide : 0 ≤ _) (by decide : 0 ≤ _)
theorem d30_0 : decode jdk_65_method_131_code 0 = .ok (.iload_n 1, 1) := by decide +kernel
theorem d30_1 : decode jdk_65_method_131_code 1 = .ok (.iload_n 0, 1) := by decide +kernel
theorem d30_2 : decode jdk_65_method_131_code 2 = .ok (.if_icmp .ge 35, 3) := by decide +kernel
theorem d30_37 : decode jdk_65_method_131_code 37 = .ok (.return_, 1) := by decide +kernel
theorem pn_java_util_Arrays : plainName "java/util/Arrays" = true := by first | (simp [plainName, overriddenIn]; done) | decide +kernel
theorem ef_rmCK (m : MethodId) (p0 : Int32) (p1 : Int32)  : entryFrame m #[(.int p0), (.int p1)] 2 = mkF m 0 #[.val (.int p0), .val (.int p1)] [] := by first |  (simp [entryFrame, mkF, argsToLocals, Value.category]; done) | rfl
def Q_rmCK (Z : State) (p0 : Int32) (p1 : Int32) (h0 : Heap) (n0 : Nat) (v : Option Value) (h : Heap) (L : List Loc) : Prop := v = none ∧ Fr n0 L ∧ h = h0
set_option maxRecDepth 65536 in
set_option maxHeartbeats 40000000 in
theorem rmCK (l : Launch) (Z : State) (a0 : Array Value) (hw : ∀ d ∈ tables_1, d.before a0 Z = true) (ws : List Jvm.Cond) (p0 : Int32) (p1 : Int32) (h0 : Heap) (n0 : Nat) (Z0 : n0 ≤ h0.size) (hck : ¬ p1 < p0) :
    MetFree l (⟨"java/util/Arrays", "checkLength", "(II)V"⟩ : MethodName) (head1 (Jvm.Cond.code (⟨"java/util/Arrays", "checkLength", "(II)V"⟩ : MethodName) jdk_65_method_131_code 2 none :: ws) ({ frames := 0, cells := 0, slots := 0, locals := 0 } : Room)) (fun a U => a = #[(.int p0), (.int p1)] ∧ Z.Warmed39 U.vm ∧ U.heap = h0) (fun _ _ _ _ _ => True) (fun _ U o U' => ∃ v L, o = .returned v ∧ Q_rmCK Z p0 p1 h0 n0 v U'.heap L ∧ FrameEnd U o U' L ({ frames := 0, cells := 0, slots := 0, locals := 0 } : Room).cells ({ frames := 0, cells := 0, slots := 0, locals := 0 } : Room).slots) := by
  refine MetFree.of_bodySF (plainFor_of_name pn_java_util_Arrays) hisR ?_
  intro p e s m args below meth c s₁ Bd hml0 hP hK
  obtain ⟨rfl, hZ, hh⟩ := hP
  have hx := Bd.exec
  have hby := Bd.bytes
  have hml : c.maxLocals = 2 := hml0
  have hown : s.vm.findClass "java/util/Arrays" = some m.cls := findClass_of_methodNamed Bd.named
  have hnm := (name_of_methodNamed Bd.named Bd.method).1
  have hlk := Bd.notSynchronized
  have X0 : Stand p l e ({ frames := 0, cells := 0, slots := 0, locals := 0 } : Room) s m #[(.int p0), (.int p1)] below meth c s₁ [] 0 0 := Stand.of_body Bd
  have e0 : s₁.heap = h0 := by rw [← hh, Bd.state]; rfl
  have N0 := Fr.nil n0
  show own_G p.tables e below s (Q_rmCK Z p0 p1 h0 n0) ({ frames := 0, cells := 0, slots := 0, locals := 0 } : Room).cells ({ frames := 0, cells := 0, slots := 0, locals := 0 } : Room).slots _
  refine own_thr (a := s₁.setTop (mkF m 0 #[.val (.int p0), .val (.int p1)] [])) (fun t kt => castTop (ef_rmCK m p0 p1) kt) ?_
  refine own_thr (a := s₁.setTop (mkF m 37 #[.val (.int p0), .val (.int p1)] [])) (fun t kt => ?_) ?_
  · show Steps p.tables e below (s₁.setTop (mkF m 0 #[.val (.int p0), .val (.int p1)] [])) _
    refine XS.iloadN X0.here hx rfl (hb hby d30_0) rfl ?_
    refine XS.iloadN X0.here hx rfl (hb hby d30_1) rfl ?_
    refine XS.icmpYes X0.here hx rfl (pc0 := 2) (pc' := 37) rfl (hb hby d30_2) rfl (flt hck).2.1 (by decide) (by decide) ?_
    exact kt
  exact own_end X0 hlk (v := none) (fun _ => rfl) (fun fs hr => X0.returnOut hx Bd.returns (hb hby d30_37) hr) (by rw [e0]; exact ⟨rfl, N0, rfl⟩) (by decide : 0 ≤ _) (by decide : 0 ≤ _)
theorem d31_0 : decode jdk_29_method_69_code 0 = .ok (.iload_n 0, 1) := by decide +kernel
theorem d31_1 : decode jdk_29_method_69_code 1 = .ok (.iload_n 1, 1) := by decide +kernel
theorem d31_2 : decode jdk_29_method_69_code 2 = .ok (.if_icmp .gt 7, 3) := by decide +kernel
theorem d31_9 : decode jdk_29_method_69_code 9 = .ok (.iload_n 1, 1) := by decide +kernel
theorem d31_10 : decode jdk_29_method_69_code 10 = .ok (.ireturn, 1) := by decide +kernel
theorem d31_5 : decode jdk_29_method_69_code 5 = .ok (.iload_n 0, 1) := by decide +kernel
theorem d31_6 : decode jdk_29_method_69_code 6 = .ok (.goto 4, 3) := by decide +kernel
theorem ef_rmMN (m : MethodId) (p0 : Int32) (p1 : Int32)  : entryFrame m #[(.int p0), (.int p1)] 2 = mkF m 0 #[.val (.int p0), .val (.int p1)] [] := by first |  (simp [entryFrame, mkF, argsToLocals, Value.category]; done) | rfl
def f_rmMN (p0 : Int32) (p1 : Int32) : Int32 := if p1 < p0 then p1 else p0
def Q_rmMN (Z : State) (p0 : Int32) (p1 : Int32) (h0 : Heap) (n0 : Nat) (v : Option Value) (h : Heap) (L : List Loc) : Prop := v = some (.int (f_rmMN p0 p1)) ∧ Fr n0 L ∧ h = h0
set_option maxRecDepth 65536 in
set_option maxHeartbeats 40000000 in
theorem rmMN (l : Launch) (Z : State) (a0 : Array Value) (hw : ∀ d ∈ tables_1, d.before a0 Z = true) (ws : List Jvm.Cond) (p0 : Int32) (p1 : Int32) (h0 : Heap) (n0 : Nat) (Z0 : n0 ≤ h0.size) :
    MetFree l (⟨"java/lang/Math", "min", "(II)I"⟩ : MethodName) (head1 (Jvm.Cond.code (⟨"java/lang/Math", "min", "(II)I"⟩ : MethodName) jdk_29_method_69_code 2 (some .int) :: ws) ({ frames := 0, cells := 0, slots := 0, locals := 0 } : Room)) (fun a U => a = #[(.int p0), (.int p1)] ∧ Z.Warmed39 U.vm ∧ U.heap = h0) (fun _ _ _ _ _ => True) (fun _ U o U' => ∃ v L, o = .returned v ∧ Q_rmMN Z p0 p1 h0 n0 v U'.heap L ∧ FrameEnd U o U' L ({ frames := 0, cells := 0, slots := 0, locals := 0 } : Room).cells ({ frames := 0, cells := 0, slots := 0, locals := 0 } : Room).slots) := by
  refine MetFree.of_bodySF (Jvm.Free.JP.mathPlain rfl (by decide +kernel)) hisR ?_
  intro p e s m args below meth c s₁ Bd hml0 hP hK
  obtain ⟨rfl, hZ, hh⟩ := hP
  have hx := Bd.exec
  have hby := Bd.bytes
  have hml : c.maxLocals = 2 := hml0
  have hown : s.vm.findClass "java/lang/Math" = some m.cls := findClass_of_methodNamed Bd.named
  have hnm := (name_of_methodNamed Bd.named Bd.method).1
  have hlk := Bd.notSynchronized
  have X0 : Stand p l e ({ frames := 0, cells := 0, slots := 0, locals := 0 } : Room) s m #[(.int p0), (.int p1)] below meth c s₁ [] 0 0 := Stand.of_body Bd
  have e0 : s₁.heap = h0 := by rw [← hh, Bd.state]; rfl
  have N0 := Fr.nil n0
  show own_G p.tables e below s (Q_rmMN Z p0 p1 h0 n0) ({ frames := 0, cells := 0, slots := 0, locals := 0 } : Room).cells ({ frames := 0, cells := 0, slots := 0, locals := 0 } : Room).slots _
  refine own_thr (a := s₁.setTop (mkF m 0 #[.val (.int p0), .val (.int p1)] [])) (fun t kt => castTop (ef_rmMN m p0 p1) kt) ?_
  refine own_thr (a := s₁.setTop (mkF m 2 #[.val (.int p0), .val (.int p1)] [(.int p1), (.int p0)])) (fun t kt => ?_) ?_
  · show Steps p.tables e below (s₁.setTop (mkF m 0 #[.val (.int p0), .val (.int p1)] [])) _
    refine XS.iloadN X0.here hx rfl (hb hby d31_0) rfl ?_
    refine XS.iloadN X0.here hx rfl (hb hby d31_1) rfl ?_
    exact kt
  by_cases hc1 : p1 < p0
  · refine own_thr (a := s₁.setTop (mkF m 10 #[.val (.int p0), .val (.int p1)] [(.int p1)])) (fun t kt => ?_) ?_
    · show Steps p.tables e below (s₁.setTop (mkF m 2 #[.val (.int p0), .val (.int p1)] [(.int p1), (.int p0)])) _
      refine XS.icmpYes X0.here hx rfl (pc0 := 2) (pc' := 9) rfl (hb hby d31_2) rfl (tlt hc1).2.2.1 (by decide) (by decide) ?_
      refine XS.iloadN X0.here hx rfl (hb hby d31_9) rfl ?_
      exact kt
    exact own_end X0 hlk (v := some (.int p1)) (fun h => by rw [Bd.returns] at h; cases h) (fun fs hr => retI X0 hx Bd.returns (hb hby d31_10) hr) (by rw [e0]; exact ⟨(by rw [f_rmMN, if_pos hc1]), N0, rfl⟩) (by decide : 0 ≤ _) (by decide : 0 ≤ _)
  · refine own_thr (a := s₁.setTop (mkF m 10 #[.val (.int p0), .val (.int p1)] [(.int p0)])) (fun t kt => ?_) ?_
    · show Steps p.tables e below (s₁.setTop (mkF m 2 #[.val (.int p0), .val (.int p1)] [(.int p1), (.int p0)])) _
      refine XS.icmpNo X0.here hx rfl (hb hby d31_2) rfl (flt hc1).2.2.1 ?_
      refine XS.iloadN X0.here hx rfl (hb hby d31_5) rfl ?_
      refine XS.goto X0.here hx rfl (pc0 := 6) (pc' := 10) rfl (hb hby d31_6) (by decide) (by decide) ?_
      exact kt
    exact own_end X0 hlk (v := some (.int p0)) (fun h => by rw [Bd.returns] at h; cases h) (fun fs hr => retI X0 hx Bd.returns (hb hby d31_10) hr) (by rw [e0]; exact ⟨(by rw [f_rmMN, if_neg hc1]), N0, rfl⟩) (by decide : 0 ≤ _) (by decide : 0 ≤ _)
theorem d7_0 : decode jdk_42_method_54_code 0 = .ok (.aload_n 0, 1) := by decide +kernel
theorem d7_1 : decode jdk_42_method_54_code 1 = .ok (.getfield 9, 3) := by decide +kernel
theorem d7_4 : decode jdk_42_method_54_code 4 = .ok (.arraylength, 1) := by decide +kernel
theorem d7_5 : decode jdk_42_method_54_code 5 = .ok (.aload_n 0, 1) := by decide +kernel
theorem d7_6 : decode jdk_42_method_54_code 6 = .ok (.invokevirtual 335, 3) := by decide +kernel
theorem d7_9 : decode jdk_42_method_54_code 9 = .ok (.ishr, 1) := by decide +kernel
theorem d7_10 : decode jdk_42_method_54_code 10 = .ok (.ireturn, 1) := by decide +kernel
theorem ef_rmLNu1 (m : MethodId) (o0 : Addr)  : entryFrame m #[(.ref o0)] 1 = mkF m 0 #[.val (.ref o0)] [] := by first |  (simp [entryFrame, mkF, argsToLocals, Value.category]; done) | rfl
def Q_rmLNu1 (Z : State) (o0 : Addr) (sv : Addr) (ks : ClassId) (cs : Int32) (h0 : Heap) (n0 : Nat) (v : Option Value) (h : Heap) (L : List Loc) : Prop := v = some (.int 5) ∧ Fr n0 L ∧ h = h0
set_option maxRecDepth 65536 in
set_option maxHeartbeats 40000000 in
theorem rmLNu1 (l : Launch) (Z : State) (a0 : Array Value) (hw : ∀ d ∈ tables_1, d.before a0 Z = true) (ws : List Jvm.Cond) (o0 : Addr) (sv : Addr) (ks : ClassId) (cs : Int32) (h0 : Heap) (n0 : Nat) (Z0 : n0 ≤ h0.size) (E_o0 : Exa Z h0 o0 "java/lang/String") (F_value_o0 : Fld Z h0 o0 "java/lang/String" "value" "[B" (.ref sv)) (F_coder_o0 : Fld Z h0 o0 "java/lang/String" "coder" "B" (.int 0)) (V_sv : Arv Z h0 sv ks .byte (5 : Int32) [(.int 45), (.int 45), (.int 117), (.int 114), (.int 108)] (.int 0)) (S_COMPACT_STRINGS : Sta Z h0 "java/lang/String" "COMPACT_STRINGS" "Z" (.int cs)) (hcs : ¬ cs = (0 : Int32)) :
    MetFree l (⟨"java/lang/String", "length", "()I"⟩ : MethodName) (head1 (Jvm.Cond.code (⟨"java/lang/String", "length", "()I"⟩ : MethodName) jdk_42_method_54_code 1 (some .int) :: ws) ({ frames := 1, cells := 0, slots := 0, locals := 13 } : Room)) (fun a U => a = #[(.ref o0)] ∧ Z.Warmed39 U.vm ∧ U.heap = h0) (fun _ _ _ _ _ => True) (fun _ U o U' => ∃ v L, o = .returned v ∧ Q_rmLNu1 Z o0 sv ks cs h0 n0 v U'.heap L ∧ FrameEnd U o U' L ({ frames := 1, cells := 0, slots := 0, locals := 13 } : Room).cells ({ frames := 1, cells := 0, slots := 0, locals := 13 } : Room).slots) := by
  refine MetFree.of_bodySF (plainFor_of_name pn_java_lang_String) hisR ?_
  intro p e s m args below meth c s₁ Bd hml0 hP hK
  obtain ⟨rfl, hZ, hh⟩ := hP
  have hx := Bd.exec
  have hby := Bd.bytes
  have hml : c.maxLocals = 1 := hml0
  have hown : s.vm.findClass "java/lang/String" = some m.cls := findClass_of_methodNamed Bd.named
  have hnm := (name_of_methodNamed Bd.named Bd.method).1
  have hlk := Bd.notSynchronized
  have X0 : Stand p l e ({ frames := 1, cells := 0, slots := 0, locals := 13 } : Room) s m #[(.ref o0)] below meth c s₁ [] 0 0 := Stand.of_body Bd
  have e0 : s₁.heap = h0 := by rw [← hh, Bd.state]; rfl
  have N0 := Fr.nil n0
  show own_G p.tables e below s (Q_rmLNu1 Z o0 sv ks cs h0 n0) ({ frames := 1, cells := 0, slots := 0, locals := 13 } : Room).cells ({ frames := 1, cells := 0, slots := 0, locals := 13 } : Room).slots _
  refine own_thr (a := s₁.setTop (mkF m 0 #[.val (.ref o0)] [])) (fun t kt => castTop (ef_rmLNu1 m o0) kt) ?_
  refine own_thr (a := s₁.setTop (mkF m 1 #[.val (.ref o0)] [(.ref o0)])) (fun t kt => ?_) ?_
  · show Steps p.tables e below (s₁.setTop (mkF m 0 #[.val (.ref o0)] [])) _
    refine XS.aloadN X0.here hx rfl (hb hby d7_0) rfl rfl ?_
    exact kt
  obtain ⟨T1, X1, e1, st1⟩ := getF X0 hx hZ hown (host := "") (Or.inl (hw _ (List.mem_of_getElem? (i := 47) rfl))) Via.refl e0 F_value_o0 (g := (mkF m 1 #[.val (.ref o0)] [(.ref o0)])) rfl rfl (hb hby d7_1)
  refine own_thr (a := T1.setTop (mkF m 4 #[.val (.ref o0)] [(.ref sv)])) (fun t kt => st1 t kt) ?_
  obtain ⟨cl2, Ar2, -, S2, M2, -, -⟩ := id V_sv
  refine own_thr (a := T1.setTop (mkF m 6 #[.val (.ref o0)] [(.ref o0), (.int 5)])) (fun t kt => ?_) ?_
  · show Steps p.tables e below (T1.setTop (mkF m 4 #[.val (.ref o0)] [(.ref sv)])) _
    refine X1.arraylength hx (by rw [e1]; exact Ar2.1) (State.isArrayOf_alike hZ.alike Ar2.2.1) (g := (mkF m 4 #[.val (.ref o0)] [(.ref sv)])) rfl rfl (hb hby d7_4) _ ?_
    rw [len_of S2 M2]
    refine XS.aloadN X1.here hx rfl (hb hby d7_5) rfl rfl ?_
    exact kt
  obtain ⟨cq3, kq3, q3a, q3b, q3c⟩ := isOf hZ e1 E_o0
  obtain ⟨_, _, ⟨T3, L3, k3, n3⟩, -, X3, ⟨Lc3, hQ3, l3, y3, z3⟩, st3⟩ := X1.virtualBack hx (y := (⟨"java/lang/String", "coder", "()B"⟩ : MethodName)) (z := (⟨"java/lang/String", "coder", "()B"⟩ : MethodName)) hown (mvT hZ (hw _ (List.mem_of_getElem? (i := 49) rfl))) (mvT hZ (hw _ (List.mem_of_getElem? (i := 50) rfl))) (notFace_of_selects (args := #[]) (mvT hZ (hw _ (List.mem_of_getElem? (i := 52) rfl)))) (mvT hZ (hw _ (List.mem_of_getElem? (i := 52) rfl))) (mvT hZ (hw _ (List.mem_of_getElem? (i := 51) rfl))) (by decide) (backOf (W := 1) (rmCO l Z a0 hw [] o0 cs h0 n0 Z0 F_coder_o0 S_COMPACT_STRINGS hcs) hZ (hw _ (List.mem_of_getElem? (i := 53) rfl)) (hw _ (List.mem_of_getElem? (i := 24) rfl)) (by decide) (by decide)) q3a q3c (g := (mkF m 6 #[.val (.ref o0)] [(.ref o0), (.int 5)])) rfl (by rw [hml]; rfl) (Steps.refl _) (argsL := []) (rest := [(.int 5)]) (lenOf pd__28_29B rfl) rfl (by show 2 * 0 + _ ≤ _; exact Nat.le_of_eq rfl) (hb hby d7_6) (fun _ _ => ⟨rfl, e1, (by decide : 0 + 0 ≤ _), (by decide : 0 + 0 ≤ _)⟩)
  dsimp only [Pt.U, Pt.locs, Pt.cells, Pt.slots] at X3 l3 y3 z3 st3 hQ3
  obtain ⟨rfl, N3q, e3⟩ := hQ3
  obtain ⟨lc3, X3, N3⟩ := own_pack X3 l3 y3 z3 N0 N3q (C := 0) (S' := 0) rfl rfl
  refine own_thr (a := T3.setTop (mkF m 9 #[.val (.ref o0)] [(.int 0), (.int 5)])) (fun t kt => st3.trans kt) ?_
  refine own_thr (a := T3.setTop (mkF m 10 #[.val (.ref o0)] [(.int 5)])) (fun t kt => ?_) ?_
  · show Steps p.tables e below (T3.setTop (mkF m 9 #[.val (.ref o0)] [(.int 0), (.int 5)])) _
    refine XS.ishr X3.here hx rfl (hb hby d7_9) rfl ?_
    exact kt
  exact own_end X3 hlk (v := some (.int 5)) (fun h => by rw [Bd.returns] at h; cases h) (fun fs hr => retI X3 hx Bd.returns (hb hby d7_10) hr) (by rw [e3]; exact ⟨rfl, N3, rfl⟩) (by decide : 0 ≤ _) (by decide : 0 ≤ _)
theorem d9_0 : decode jdk_68_method_9_code 0 = .ok (.aload_n 0, 1) := by decide +kernel
theorem d9_1 : decode jdk_68_method_9_code 1 = .ok (.getfield 15, 3) := by decide +kernel
theorem d9_4 : decode jdk_68_method_9_code 4 = .ok (.arraylength, 1) := by decide +kernel
theorem d9_5 : decode jdk_68_method_9_code 5 = .ok (.aload_n 0, 1) := by decide +kernel
theorem d9_6 : decode jdk_68_method_9_code 6 = .ok (.getfield 22, 3) := by decide +kernel
theorem d9_9 : decode jdk_68_method_9_code 9 = .ok (.ishr, 1) := by decide +kernel
theorem d9_10 : decode jdk_68_method_9_code 10 = .ok (.istore_n 2, 1) := by decide +kernel
theorem d9_11 : decode jdk_68_method_9_code 11 = .ok (.iload_n 1, 1) := by decide +kernel
theorem d9_12 : decode jdk_68_method_9_code 12 = .ok (.iload_n 2, 1) := by decide +kernel
theorem d9_13 : decode jdk_68_method_9_code 13 = .ok (.isub, 1) := by decide +kernel
theorem d9_14 : decode jdk_68_method_9_code 14 = .ok (.ifCond .le 24, 3) := by decide +kernel
theorem d9_38 : decode jdk_68_method_9_code 38 = .ok (.return_, 1) := by decide +kernel
theorem ef_rmENu1 (m : MethodId) (o0 : Addr)  : entryFrame m #[(.ref o0), (.int 5)] 3 = mkF m 0 #[.val (.ref o0), .val (.int 5), .unset] [] := by first |  (simp [entryFrame, mkF, argsToLocals, Value.category]; done) | rfl
def Q_rmENu1 (Z : State) (o0 : Addr) (vb : Addr) (kb : ClassId) (h0 : Heap) (n0 : Nat) (v : Option Value) (h : Heap) (L : List Loc) : Prop := v = none ∧ Fr n0 L ∧ h = h0
set_option maxRecDepth 65536 in
set_option maxHeartbeats 40000000 in
theorem rmENu1 (l : Launch) (Z : State) (a0 : Array Value) (hw : ∀ d ∈ tables_1, d.before a0 Z = true) (ws : List Jvm.Cond) (o0 : Addr) (vb : Addr) (kb : ClassId) (h0 : Heap) (n0 : Nat) (Z0 : n0 ≤ h0.size) (F_value_o0 : Fld Z h0 o0 "java/lang/AbstractStringBuilder" "value" "[B" (.ref vb)) (F_coder_o0 : Fld Z h0 o0 "java/lang/AbstractStringBuilder" "coder" "B" (.int 0)) (V_vb : Arv Z h0 vb kb .byte (16 : Int32) [(.int 0), (.int 0), (.int 0), (.int 0), (.int 0), (.int 0), (.int 0), (.int 0), (.int 0), (.int 0), (.int 0), (.int 0), (.int 0), (.int 0), (.int 0), (.int 0)] (.int 0)) :
    MetFree l (⟨"java/lang/AbstractStringBuilder", "ensureCapacityInternal", "(I)V"⟩ : MethodName) (head1 (Jvm.Cond.code (⟨"java/lang/AbstractStringBuilder", "ensureCapacityInternal", "(I)V"⟩ : MethodName) jdk_68_method_9_code 3 none :: ws) ({ frames := 0, cells := 0, slots := 0, locals := 0 } : Room)) (fun a U => a = #[(.ref o0), (.int 5)] ∧ Z.Warmed39 U.vm ∧ U.heap = h0) (fun _ _ _ _ _ => True) (fun _ U o U' => ∃ v L, o = .returned v ∧ Q_rmENu1 Z o0 vb kb h0 n0 v U'.heap L ∧ FrameEnd U o U' L ({ frames := 0, cells := 0, slots := 0, locals := 0 } : Room).cells ({ frames := 0, cells := 0, slots := 0, locals := 0 } : Room).slots) := by
  refine MetFree.of_bodySF (plainFor_of_name pn_java_lang_AbstractStringBuilder) hisR ?_
  intro p e s m args below meth c s₁ Bd hml0 hP hK
  obtain ⟨rfl, hZ, hh⟩ := hP
  have hx := Bd.exec
  have hby := Bd.bytes
  have hml : c.maxLocals = 3 := hml0
  have hown : s.vm.findClass "java/lang/AbstractStringBuilder" = some m.cls := findClass_of_methodNamed Bd.named
  have hnm := (name_of_methodNamed Bd.named Bd.method).1
  have hlk := Bd.notSynchronized
  have X0 : Stand p l e ({ frames := 0, cells := 0, slots := 0, locals := 0 } : Room) s m #[(.ref o0), (.int 5)] below meth c s₁ [] 0 0 := Stand.of_body Bd
  have e0 : s₁.heap = h0 := by rw [← hh, Bd.state]; rfl
  have N0 := Fr.nil n0
  show own_G p.tables e below s (Q_rmENu1 Z o0 vb kb h0 n0) ({ frames := 0, cells := 0, slots := 0, locals := 0 } : Room).cells ({ frames := 0, cells := 0, slots := 0, locals := 0 } : Room).slots _
  refine own_thr (a := s₁.setTop (mkF m 0 #[.val (.ref o0), .val (.int 5), .unset] [])) (fun t kt => castTop (ef_rmENu1 m o0) kt) ?_
  refine own_thr (a := s₁.setTop (mkF m 1 #[.val (.ref o0), .val (.int 5), .unset] [(.ref o0)])) (fun t kt => ?_) ?_
  · show Steps p.tables e below (s₁.setTop (mkF m 0 #[.val (.ref o0), .val (.int 5), .unset] [])) _
    refine XS.aloadN X0.here hx rfl (hb hby d9_0) rfl rfl ?_
    exact kt
  obtain ⟨T1, X1, e1, st1⟩ := getF X0 hx hZ hown (host := "") (Or.inl (hw _ (List.mem_of_getElem? (i := 26) rfl))) Via.refl e0 F_value_o0 (g := (mkF m 1 #[.val (.ref o0), .val (.int 5), .unset] [(.ref o0)])) rfl rfl (hb hby d9_1)
  refine own_thr (a := T1.setTop (mkF m 4 #[.val (.ref o0), .val (.int 5), .unset] [(.ref vb)])) (fun t kt => st1 t kt) ?_
  obtain ⟨cl2, Ar2, -, S2, M2, -, -⟩ := id V_vb
  refine own_thr (a := T1.setTop (mkF m 6 #[.val (.ref o0), .val (.int 5), .unset] [(.ref o0), (.int 16)])) (fun t kt => ?_) ?_
  · show Steps p.tables e below (T1.setTop (mkF m 4 #[.val (.ref o0), .val (.int 5), .unset] [(.ref vb)])) _
    refine X1.arraylength hx (by rw [e1]; exact Ar2.1) (State.isArrayOf_alike hZ.alike Ar2.2.1) (g := (mkF m 4 #[.val (.ref o0), .val (.int 5), .unset] [(.ref vb)])) rfl rfl (hb hby d9_4) _ ?_
    rw [len_of S2 M2]
    refine XS.aloadN X1.here hx rfl (hb hby d9_5) rfl rfl ?_
    exact kt
  obtain ⟨T3, X3, e3, st3⟩ := getF X1 hx hZ hown (host := "") (Or.inl (hw _ (List.mem_of_getElem? (i := 28) rfl))) Via.refl e1 F_coder_o0 (g := (mkF m 6 #[.val (.ref o0), .val (.int 5), .unset] [(.ref o0), (.int 16)])) rfl rfl (hb hby d9_6)
  refine own_thr (a := T3.setTop (mkF m 9 #[.val (.ref o0), .val (.int 5), .unset] [(.int 0), (.int 16)])) (fun t kt => st3 t kt) ?_
  refine own_thr (a := T3.setTop (mkF m 38 #[.val (.ref o0), .val (.int 5), .val (.int 16)] [])) (fun t kt => ?_) ?_
  · show Steps p.tables e below (T3.setTop (mkF m 9 #[.val (.ref o0), .val (.int 5), .unset] [(.int 0), (.int 16)])) _
    refine XS.ishr X3.here hx rfl (hb hby d9_9) rfl ?_
    refine XS.istoreN X3.here hx rfl (hb hby d9_10) rfl (l' := #[.val (.ref o0), .val (.int 5), .val (.int 16)]) rfl ?_
    refine XS.iloadN X3.here hx rfl (hb hby d9_11) rfl ?_
    refine XS.iloadN X3.here hx rfl (hb hby d9_12) rfl ?_
    refine XS.isub X3.here hx rfl (hb hby d9_13) rfl ?_
    refine XS.ifYes X3.here hx rfl (pc0 := 14) (pc' := 38) rfl (hb hby d9_14) rfl ((if0 _ _).trans (flt (by decide)).2.2.2) (by decide) (by decide) ?_
    exact kt
  exact own_end X3 hlk (v := none) (fun _ => rfl) (fun fs hr => X3.returnOut hx Bd.returns (hb hby d9_38) hr) (by rw [e3]; exact ⟨rfl, N0, rfl⟩) (by decide : 0 ≤ _) (by decide : 0 ≤ _)
theorem d12_0 : decode jdk_42_method_147_code 0 = .ok (.aload_n 0, 1) := by decide +kernel
theorem d12_1 : decode jdk_42_method_147_code 1 = .ok (.invokevirtual 335, 3) := by decide +kernel
theorem d12_4 : decode jdk_42_method_147_code 4 = .ok (.iload_n 3, 1) := by decide +kernel
theorem d12_5 : decode jdk_42_method_147_code 5 = .ok (.if_icmp .ne 23, 3) := by decide +kernel
theorem d12_8 : decode jdk_42_method_147_code 8 = .ok (.aload_n 0, 1) := by decide +kernel
theorem d12_9 : decode jdk_42_method_147_code 9 = .ok (.getfield 9, 3) := by decide +kernel
theorem d12_12 : decode jdk_42_method_147_code 12 = .ok (.iconst 0, 1) := by decide +kernel
theorem d12_13 : decode jdk_42_method_147_code 13 = .ok (.aload_n 1, 1) := by decide +kernel
theorem d12_14 : decode jdk_42_method_147_code 14 = .ok (.iload_n 2, 1) := by decide +kernel
theorem d12_15 : decode jdk_42_method_147_code 15 = .ok (.iload_n 3, 1) := by decide +kernel
theorem d12_16 : decode jdk_42_method_147_code 16 = .ok (.ishl, 1) := by decide +kernel
theorem d12_17 : decode jdk_42_method_147_code 17 = .ok (.aload_n 0, 1) := by decide +kernel
theorem d12_18 : decode jdk_42_method_147_code 18 = .ok (.getfield 9, 3) := by decide +kernel
theorem d12_21 : decode jdk_42_method_147_code 21 = .ok (.arraylength, 1) := by decide +kernel
theorem d12_22 : decode jdk_42_method_147_code 22 = .ok (.invokestatic 212, 3) := by decide +kernel
theorem d12_25 : decode jdk_42_method_147_code 25 = .ok (.goto 18, 3) := by decide +kernel
theorem d12_43 : decode jdk_42_method_147_code 43 = .ok (.return_, 1) := by decide +kernel
theorem ef_rmGBu1 (m : MethodId) (o0 : Addr) (vb : Addr)  : entryFrame m #[(.ref o0), (.ref vb), (.int 0), (.int 0)] 4 = mkF m 0 #[.val (.ref o0), .val (.ref vb), .val (.int 0), .val (.int 0)] [] := by first |  (simp [entryFrame, mkF, argsToLocals, Value.category]; done) | rfl
def Q_rmGBu1 (Z : State) (o0 : Addr) (vb : Addr) (sv : Addr) (ks : ClassId) (kb : ClassId) (cs : Int32) (h0 : Heap) (n0 : Nat) (v : Option Value) (h : Heap) (L : List Loc) : Prop := v = none ∧ Fr n0 L ∧ Keep h0 h [vb] ∧ Arv Z h vb kb .byte (16 : Int32) [(.int 45), (.int 45), (.int 117), (.int 114), (.int 108), (.int 0), (.int 0), (.int 0), (.int 0), (.int 0), (.int 0), (.int 0), (.int 0), (.int 0), (.int 0), (.int 0)] (.int 0)
set_option maxRecDepth 65536 in
set_option maxHeartbeats 40000000 in
theorem rmGBu1 (l : Launch) (Z : State) (a0 : Array Value) (hw : ∀ d ∈ tables_1, d.before a0 Z = true) (ws : List Jvm.Cond) (o0 : Addr) (vb : Addr) (sv : Addr) (ks : ClassId) (kb : ClassId) (cs : Int32) (h0 : Heap) (n0 : Nat) (Z0 : n0 ≤ h0.size) (E_o0 : Exa Z h0 o0 "java/lang/String") (F_value_o0 : Fld Z h0 o0 "java/lang/String" "value" "[B" (.ref sv)) (F_coder_o0 : Fld Z h0 o0 "java/lang/String" "coder" "B" (.int 0)) (V_sv : Arv Z h0 sv ks .byte (5 : Int32) [(.int 45), (.int 45), (.int 117), (.int 114), (.int 108)] (.int 0)) (V_vb : Arv Z h0 vb kb .byte (16 : Int32) [(.int 0), (.int 0), (.int 0), (.int 0), (.int 0), (.int 0), (.int 0), (.int 0), (.int 0), (.int 0), (.int 0), (.int 0), (.int 0), (.int 0), (.int 0), (.int 0)] (.int 0)) (S_COMPACT_STRINGS : Sta Z h0 "java/lang/String" "COMPACT_STRINGS" "Z" (.int cs)) (g_vb : n0 ≤ vb) (ne_sv_vb : sv ≠ vb) (ne_o0_vb : o0 ≠ vb) (hcs : ¬ cs = (0 : Int32)) :
    MetFree l (⟨"java/lang/String", "getBytes", "([BIB)V"⟩ : MethodName) (head1 (Jvm.Cond.code (⟨"java/lang/String", "getBytes", "([BIB)V"⟩ : MethodName) jdk_42_method_147_code 4 none :: ws) ({ frames := 1, cells := 0, slots := 0, locals := 18 } : Room)) (fun a U => a = #[(.ref o0), (.ref vb), (.int 0), (.int 0)] ∧ Z.Warmed39 U.vm ∧ U.heap = h0) (fun _ _ _ _ _ => True) (fun _ U o U' => ∃ v L, o = .returned v ∧ Q_rmGBu1 Z o0 vb sv ks kb cs h0 n0 v U'.heap L ∧ FrameEnd U o U' L ({ frames := 1, cells := 0, slots := 0, locals := 18 } : Room).cells ({ frames := 1, cells := 0, slots := 0, locals := 18 } : Room).slots) := by
  refine MetFree.of_bodySF (plainFor_of_name pn_java_lang_String) hisR ?_
  intro p e s m args below meth c s₁ Bd hml0 hP hK
  obtain ⟨rfl, hZ, hh⟩ := hP
  have hx := Bd.exec
  have hby := Bd.bytes
  have hml : c.maxLocals = 4 := hml0
  have hown : s.vm.findClass "java/lang/String" = some m.cls := findClass_of_methodNamed Bd.named
  have hnm := (name_of_methodNamed Bd.named Bd.method).1
  have hlk := Bd.notSynchronized
  have X0 : Stand p l e ({ frames := 1, cells := 0, slots := 0, locals := 18 } : Room) s m #[(.ref o0), (.ref vb), (.int 0), (.int 0)] below meth c s₁ [] 0 0 := Stand.of_body Bd
  have e0 : s₁.heap = h0 := by rw [← hh, Bd.state]; rfl
  have N0 := Fr.nil n0
  show own_G p.tables e below s (Q_rmGBu1 Z o0 vb sv ks kb cs h0 n0) ({ frames := 1, cells := 0, slots := 0, locals := 18 } : Room).cells ({ frames := 1, cells := 0, slots := 0, locals := 18 } : Room).slots _
  refine own_thr (a := s₁.setTop (mkF m 0 #[.val (.ref o0), .val (.ref vb), .val (.int 0), .val (.int 0)] [])) (fun t kt => castTop (ef_rmGBu1 m o0 vb) kt) ?_
  refine own_thr (a := s₁.setTop (mkF m 1 #[.val (.ref o0), .val (.ref vb), .val (.int 0), .val (.int 0)] [(.ref o0)])) (fun t kt => ?_) ?_
  · show Steps p.tables e below (s₁.setTop (mkF m 0 #[.val (.ref o0), .val (.ref vb), .val (.int 0), .val (.int 0)] [])) _
    refine XS.aloadN X0.here hx rfl (hb hby d12_0) rfl rfl ?_
    exact kt
  obtain ⟨cq1, kq1, q1a, q1b, q1c⟩ := isOf hZ e0 E_o0
  obtain ⟨_, _, ⟨T1, L1, k1, n1⟩, -, X1, ⟨Lc1, hQ1, l1, y1, z1⟩, st1⟩ := X0.virtualBack hx (y := (⟨"java/lang/String", "coder", "()B"⟩ : MethodName)) (z := (⟨"java/lang/String", "coder", "()B"⟩ : MethodName)) hown (mvT hZ (hw _ (List.mem_of_getElem? (i := 49) rfl))) (mvT hZ (hw _ (List.mem_of_getElem? (i := 50) rfl))) (notFace_of_selects (args := #[]) (mvT hZ (hw _ (List.mem_of_getElem? (i := 52) rfl)))) (mvT hZ (hw _ (List.mem_of_getElem? (i := 52) rfl))) (mvT hZ (hw _ (List.mem_of_getElem? (i := 51) rfl))) (by decide) (backOf (W := 0) (rmCO l Z a0 hw [] o0 cs h0 n0 Z0 F_coder_o0 S_COMPACT_STRINGS hcs) hZ (hw _ (List.mem_of_getElem? (i := 53) rfl)) (hw _ (List.mem_of_getElem? (i := 24) rfl)) (by decide) (by decide)) q1a q1c (g := (mkF m 1 #[.val (.ref o0), .val (.ref vb), .val (.int 0), .val (.int 0)] [(.ref o0)])) rfl (by rw [hml]; rfl) (Steps.refl _) (argsL := []) (rest := []) (lenOf pd__28_29B rfl) rfl (by show 2 * 0 + _ ≤ _; exact Nat.le_of_eq rfl) (hb hby d12_1) (fun _ _ => ⟨rfl, e0, (by decide : 0 + 0 ≤ _), (by decide : 0 + 0 ≤ _)⟩)
  dsimp only [Pt.U, Pt.locs, Pt.cells, Pt.slots] at X1 l1 y1 z1 st1 hQ1
  obtain ⟨rfl, N1q, e1⟩ := hQ1
  obtain ⟨lc1, X1, N1⟩ := own_pack X1 l1 y1 z1 N0 N1q (C := 0) (S' := 0) rfl rfl
  refine own_thr (a := T1.setTop (mkF m 4 #[.val (.ref o0), .val (.ref vb), .val (.int 0), .val (.int 0)] [(.int 0)])) (fun t kt => st1.trans kt) ?_
  refine own_thr (a := T1.setTop (mkF m 9 #[.val (.ref o0), .val (.ref vb), .val (.int 0), .val (.int 0)] [(.ref o0)])) (fun t kt => ?_) ?_
  · show Steps p.tables e below (T1.setTop (mkF m 4 #[.val (.ref o0), .val (.ref vb), .val (.int 0), .val (.int 0)] [(.int 0)])) _
    refine XS.iloadN X1.here hx rfl (hb hby d12_4) rfl ?_
    refine XS.icmpNo X1.here hx rfl (hb hby d12_5) rfl (teq rfl).2 ?_
    refine XS.aloadN X1.here hx rfl (hb hby d12_8) rfl rfl ?_
    exact kt
  obtain ⟨T2, X2, e2, st2⟩ := getF X1 hx hZ hown (host := "") (Or.inl (hw _ (List.mem_of_getElem? (i := 47) rfl))) Via.refl e1 F_value_o0 (g := (mkF m 9 #[.val (.ref o0), .val (.ref vb), .val (.int 0), .val (.int 0)] [(.ref o0)])) rfl rfl (hb hby d12_9)
  refine own_thr (a := T2.setTop (mkF m 12 #[.val (.ref o0), .val (.ref vb), .val (.int 0), .val (.int 0)] [(.ref sv)])) (fun t kt => st2 t kt) ?_
  refine own_thr (a := T2.setTop (mkF m 18 #[.val (.ref o0), .val (.ref vb), .val (.int 0), .val (.int 0)] [(.ref o0), (.int 0), (.ref vb), (.int 0), (.ref sv)])) (fun t kt => ?_) ?_
  · show Steps p.tables e below (T2.setTop (mkF m 12 #[.val (.ref o0), .val (.ref vb), .val (.int 0), .val (.int 0)] [(.ref sv)])) _
    refine XS.iconst X2.here hx rfl (hb hby d12_12) ?_
    refine XS.aloadN X2.here hx rfl (hb hby d12_13) rfl rfl ?_
    refine XS.iloadN X2.here hx rfl (hb hby d12_14) rfl ?_
    refine XS.iloadN X2.here hx rfl (hb hby d12_15) rfl ?_
    refine XS.ishl X2.here hx rfl (hb hby d12_16) rfl ?_
    refine XS.aloadN X2.here hx rfl (hb hby d12_17) rfl rfl ?_
    exact kt
  obtain ⟨T3, X3, e3, st3⟩ := getF X2 hx hZ hown (host := "") (Or.inl (hw _ (List.mem_of_getElem? (i := 47) rfl))) Via.refl e2 F_value_o0 (g := (mkF m 18 #[.val (.ref o0), .val (.ref vb), .val (.int 0), .val (.int 0)] [(.ref o0), (.int 0), (.ref vb), (.int 0), (.ref sv)])) rfl rfl (hb hby d12_18)
  refine own_thr (a := T3.setTop (mkF m 21 #[.val (.ref o0), .val (.ref vb), .val (.int 0), .val (.int 0)] [(.ref sv), (.int 0), (.ref vb), (.int 0), (.ref sv)])) (fun t kt => st3 t kt) ?_
  obtain ⟨cl4, Ar4, -, S4, M4, -, -⟩ := id V_sv
  refine own_thr (a := T3.setTop (mkF m 22 #[.val (.ref o0), .val (.ref vb), .val (.int 0), .val (.int 0)] [(.int 5), (.int 0), (.ref vb), (.int 0), (.ref sv)])) (fun t kt => ?_) ?_
  · show Steps p.tables e below (T3.setTop (mkF m 21 #[.val (.ref o0), .val (.ref vb), .val (.int 0), .val (.int 0)] [(.ref sv), (.int 0), (.ref vb), (.int 0), (.ref sv)])) _
    refine X3.arraylength hx (by rw [e3]; exact Ar4.1) (State.isArrayOf_alike hZ.alike Ar4.2.1) (g := (mkF m 21 #[.val (.ref o0), .val (.ref vb), .val (.int 0), .val (.int 0)] [(.ref sv), (.int 0), (.ref vb), (.int 0), (.ref sv)])) rfl rfl (hb hby d12_21) _ ?_
    rw [len_of S4 M4]
    exact kt
  obtain ⟨T5, h5, L5, X5, e5, N5, K5, V5, st5⟩ := cpA X3 hx hZ hown (hw _ (List.mem_of_getElem? (i := 80) rfl)) (hw _ (List.mem_of_getElem? (i := 83) rfl)) (hw _ (List.mem_of_getElem? (i := 81) rfl)) (hw _ (List.mem_of_getElem? (i := 82) rfl)) e3 V_sv V_vb (Or.inl ⟨rfl, rfl⟩) (sp := (0 : Int32)) (dp := (0 : Int32)) (nn := (5 : Int32)) (by decide) (by decide) (by decide) (by decide) (by decide) (us := [(.int 45), (.int 45), (.int 117), (.int 114), (.int 108)]) rfl (by decide) N1 g_vb (g := (mkF m 22 #[.val (.ref o0), .val (.ref vb), .val (.int 0), .val (.int 0)] [(.int 5), (.int 0), (.ref vb), (.int 0), (.ref sv)])) rfl (by rw [hml]; rfl) rfl (hb hby d12_22) (by decide) (W := 0) (by show 2 * 0 + _ ≤ _; exact Nat.le_of_eq rfl) (by decide)
  have Z6 : n0 ≤ h5.size := Nat.le_trans Z0 K5.1
  have Z6h : h0.size ≤ h5.size := Nat.le_trans (Nat.le_refl h0.size) K5.1
  have Vl5 : Arv Z h5 vb kb .byte (16 : Int32) [(.int 45), (.int 45), (.int 117), (.int 114), (.int 108), (.int 0), (.int 0), (.int 0), (.int 0), (.int 0), (.int 0), (.int 0), (.int 0), (.int 0), (.int 0), (.int 0)] (.int 0) := V5
  refine own_thr (a := T5.setTop (mkF m 25 #[.val (.ref o0), .val (.ref vb), .val (.int 0), .val (.int 0)] [])) (fun t kt => st5 t kt) ?_
  refine own_thr (a := T5.setTop (mkF m 43 #[.val (.ref o0), .val (.ref vb), .val (.int 0), .val (.int 0)] [])) (fun t kt => ?_) ?_
  · show Steps p.tables e below (T5.setTop (mkF m 25 #[.val (.ref o0), .val (.ref vb), .val (.int 0), .val (.int 0)] [])) _
    refine XS.goto X5.here hx rfl (pc0 := 25) (pc' := 43) rfl (hb hby d12_25) (by decide) (by decide) ?_
    exact kt
  exact own_end X5 hlk (v := none) (fun _ => rfl) (fun fs hr => X5.returnOut hx Bd.returns (hb hby d12_43) hr) (by rw [e5]; exact ⟨rfl, N5, ((Keep.refl h0 [vb]).trans K5 (allS (Or.inl (List.mem_of_getElem? (i := 0) rfl)) all0)), Vl5⟩) (by decide : 0 ≤ _) (by decide : 0 ≤ _)
theorem d10_0 : decode jdk_68_method_73_code 0 = .ok (.aload_n 0, 1) := by decide +kernel
theorem d10_1 : decode jdk_68_method_73_code 1 = .ok (.aload_n 2, 1) := by decide +kernel
theorem pd__28Ljava_2flang_2fString_3b_29V : parseMethodDescriptor "(Ljava/lang/String;)V" = some ⟨[(.object "java/lang/String")], none⟩ := by decide +kernel
theorem d10_2 : decode jdk_68_method_73_code 2 = .ok (.invokevirtual 397, 3) := by decide +kernel
theorem d10_5 : decode jdk_68_method_73_code 5 = .ok (.aload_n 2, 1) := by decide +kernel
theorem d10_6 : decode jdk_68_method_73_code 6 = .ok (.aload_n 0, 1) := by decide +kernel
theorem d10_7 : decode jdk_68_method_73_code 7 = .ok (.getfield 15, 3) := by decide +kernel
theorem d10_10 : decode jdk_68_method_73_code 10 = .ok (.iload_n 1, 1) := by decide +kernel
theorem d10_11 : decode jdk_68_method_73_code 11 = .ok (.aload_n 0, 1) := by decide +kernel
theorem d10_12 : decode jdk_68_method_73_code 12 = .ok (.getfield 22, 3) := by decide +kernel
theorem pd__28_5bBIB_29V : parseMethodDescriptor "([BIB)V" = some ⟨[(.array .byte), .int, .byte], none⟩ := by decide +kernel
theorem d10_15 : decode jdk_68_method_73_code 15 = .ok (.invokevirtual 399, 3) := by decide +kernel
theorem d10_18 : decode jdk_68_method_73_code 18 = .ok (.return_, 1) := by decide +kernel
theorem ef_rmPSu1 (m : MethodId) (o0 : Addr) (o2 : Addr)  : entryFrame m #[(.ref o0), (.int 0), (.ref o2)] 3 = mkF m 0 #[.val (.ref o0), .val (.int 0), .val (.ref o2)] [] := by first |  (simp [entryFrame, mkF, argsToLocals, Value.category]; done) | rfl
def Q_rmPSu1 (Z : State) (o0 : Addr) (o2 : Addr) (vb : Addr) (kb : ClassId) (sv : Addr) (ks : ClassId) (cs : Int32) (h0 : Heap) (n0 : Nat) (v : Option Value) (h : Heap) (L : List Loc) : Prop := v = none ∧ Fr n0 L ∧ Keep h0 h [vb] ∧ Arv Z h vb kb .byte (16 : Int32) [(.int 45), (.int 45), (.int 117), (.int 114), (.int 108), (.int 0), (.int 0), (.int 0), (.int 0), (.int 0), (.int 0), (.int 0), (.int 0), (.int 0), (.int 0), (.int 0)] (.int 0)
set_option maxRecDepth 65536 in
set_option maxHeartbeats 40000000 in
theorem rmPSu1 (l : Launch) (Z : State) (a0 : Array Value) (hw : ∀ d ∈ tables_1, d.before a0 Z = true) (ws : List Jvm.Cond) (o0 : Addr) (o2 : Addr) (vb : Addr) (kb : ClassId) (sv : Addr) (ks : ClassId) (cs : Int32) (h0 : Heap) (n0 : Nat) (Z0 : n0 ≤ h0.size) (E_o0 : Exa Z h0 o0 "java/lang/StringBuilder") (F_value_o0 : Fld Z h0 o0 "java/lang/AbstractStringBuilder" "value" "[B" (.ref vb)) (F_coder_o0 : Fld Z h0 o0 "java/lang/AbstractStringBuilder" "coder" "B" (.int 0)) (F_count_o0 : Fld Z h0 o0 "java/lang/AbstractStringBuilder" "count" "I" (.int 0)) (E_o2 : Exa Z h0 o2 "java/lang/String") (F_value_o2 : Fld Z h0 o2 "java/lang/String" "value" "[B" (.ref sv)) (F_coder_o2 : Fld Z h0 o2 "java/lang/String" "coder" "B" (.int 0)) (V_vb : Arv Z h0 vb kb .byte (16 : Int32) [(.int 0), (.int 0), (.int 0), (.int 0), (.int 0), (.int 0), (.int 0), (.int 0), (.int 0), (.int 0), (.int 0), (.int 0), (.int 0), (.int 0), (.int 0), (.int 0)] (.int 0)) (V_sv : Arv Z h0 sv ks .byte (5 : Int32) [(.int 45), (.int 45), (.int 117), (.int 114), (.int 108)] (.int 0)) (S_COMPACT_STRINGS : Sta Z h0 "java/lang/String" "COMPACT_STRINGS" "Z" (.int cs)) (g_vb : n0 ≤ vb) (ne_o0_vb : o0 ≠ vb) (ne_sv_vb : sv ≠ vb) (ne_o2_vb : o2 ≠ vb) (ne_o2_o0 : o2 ≠ o0) (ne_sv_o0 : sv ≠ o0) (hcs : ¬ cs = (0 : Int32)) :
    MetFree l (⟨"java/lang/AbstractStringBuilder", "putStringAt", "(ILjava/lang/String;)V"⟩ : MethodName) (head1 (Jvm.Cond.code (⟨"java/lang/AbstractStringBuilder", "putStringAt", "(ILjava/lang/String;)V"⟩ : MethodName) jdk_68_method_73_code 3 none :: ws) ({ frames := 2, cells := 0, slots := 0, locals := 33 } : Room)) (fun a U => a = #[(.ref o0), (.int 0), (.ref o2)] ∧ Z.Warmed39 U.vm ∧ U.heap = h0) (fun _ _ _ _ _ => True) (fun _ U o U' => ∃ v L, o = .returned v ∧ Q_rmPSu1 Z o0 o2 vb kb sv ks cs h0 n0 v U'.heap L ∧ FrameEnd U o U' L ({ frames := 2, cells := 0, slots := 0, locals := 33 } : Room).cells ({ frames := 2, cells := 0, slots := 0, locals := 33 } : Room).slots) := by
  refine MetFree.of_bodySF (plainFor_of_name pn_java_lang_AbstractStringBuilder) hisR ?_
  intro p e s m args below meth c s₁ Bd hml0 hP hK
  obtain ⟨rfl, hZ, hh⟩ := hP
  have hx := Bd.exec
  have hby := Bd.bytes
  have hml : c.maxLocals = 3 := hml0
  have hown : s.vm.findClass "java/lang/AbstractStringBuilder" = some m.cls := findClass_of_methodNamed Bd.named
  have hnm := (name_of_methodNamed Bd.named Bd.method).1
  have hlk := Bd.notSynchronized
  have X0 : Stand p l e ({ frames := 2, cells := 0, slots := 0, locals := 33 } : Room) s m #[(.ref o0), (.int 0), (.ref o2)] below meth c s₁ [] 0 0 := Stand.of_body Bd
  have e0 : s₁.heap = h0 := by rw [← hh, Bd.state]; rfl
  have N0 := Fr.nil n0
  show own_G p.tables e below s (Q_rmPSu1 Z o0 o2 vb kb sv ks cs h0 n0) ({ frames := 2, cells := 0, slots := 0, locals := 33 } : Room).cells ({ frames := 2, cells := 0, slots := 0, locals := 33 } : Room).slots _
  refine own_thr (a := s₁.setTop (mkF m 0 #[.val (.ref o0), .val (.int 0), .val (.ref o2)] [])) (fun t kt => castTop (ef_rmPSu1 m o0 o2) kt) ?_
  refine own_thr (a := s₁.setTop (mkF m 2 #[.val (.ref o0), .val (.int 0), .val (.ref o2)] [(.ref o2), (.ref o0)])) (fun t kt => ?_) ?_
  · show Steps p.tables e below (s₁.setTop (mkF m 0 #[.val (.ref o0), .val (.int 0), .val (.ref o2)] [])) _
    refine XS.aloadN X0.here hx rfl (hb hby d10_0) rfl rfl ?_
    refine XS.aloadN X0.here hx rfl (hb hby d10_1) rfl rfl ?_
    exact kt
  obtain ⟨cq1, q1, q1'⟩ := E_o0.cell
  obtain ⟨_, _, ⟨T1, L1, k1, n1⟩, -, X1, ⟨Lc1, hQ1, l1, y1, z1⟩, st1⟩ := X0.privateBack hx (y := (⟨"java/lang/AbstractStringBuilder", "inflateIfNeededFor", "(Ljava/lang/String;)V"⟩ : MethodName)) hown (mvT hZ (hw _ (List.mem_of_getElem? (i := 69) rfl))) (mvT hZ (hw _ (List.mem_of_getElem? (i := 70) rfl))) (own_selp hZ (hw _ (List.mem_of_getElem? (i := 72) rfl)) (hw _ (List.mem_of_getElem? (i := 71) rfl)) (hw _ (List.mem_of_getElem? (i := 70) rfl)) (by decide)) (Cond.privateMethod_at (mvP hZ (hw _ (List.mem_of_getElem? (i := 71) rfl)) (args := #[]))) (mvT hZ (hw _ (List.mem_of_getElem? (i := 73) rfl))) (by decide) (backOf (W := 0) (rmIN l Z a0 hw [] o0 o2 cs h0 n0 Z0 F_coder_o0 E_o2 F_coder_o2 S_COMPACT_STRINGS hcs) hZ (hw _ (List.mem_of_getElem? (i := 73) rfl)) (hw _ (List.mem_of_getElem? (i := 18) rfl)) (by decide) (by decide)) (g := (mkF m 2 #[.val (.ref o0), .val (.int 0), .val (.ref o2)] [(.ref o2), (.ref o0)])) rfl (by rw [hml]; rfl) (Steps.refl _) (a := o0) (by rw [e0]; exact q1) q1' (argsL := [(.ref o2)]) (rest := []) (lenOf pd__28Ljava_2flang_2fString_3b_29V rfl) rfl (by show 2 * 0 + _ ≤ _; exact Nat.le_of_eq rfl) (hb hby d10_2) (fun _ _ => ⟨rfl, e0, (by decide : 0 + 0 ≤ _), (by decide : 0 + 0 ≤ _)⟩)
  dsimp only [Pt.U, Pt.locs, Pt.cells, Pt.slots] at X1 l1 y1 z1 st1 hQ1
  obtain ⟨rfl, N1q, e1⟩ := hQ1
  obtain ⟨lc1, X1, N1⟩ := own_pack X1 l1 y1 z1 N0 N1q (C := 0) (S' := 0) rfl rfl
  refine own_thr (a := T1.setTop (mkF m 5 #[.val (.ref o0), .val (.int 0), .val (.ref o2)] [])) (fun t kt => st1.trans kt) ?_
  refine own_thr (a := T1.setTop (mkF m 7 #[.val (.ref o0), .val (.int 0), .val (.ref o2)] [(.ref o0), (.ref o2)])) (fun t kt => ?_) ?_
  · show Steps p.tables e below (T1.setTop (mkF m 5 #[.val (.ref o0), .val (.int 0), .val (.ref o2)] [])) _
    refine XS.aloadN X1.here hx rfl (hb hby d10_5) rfl rfl ?_
    refine XS.aloadN X1.here hx rfl (hb hby d10_6) rfl rfl ?_
    exact kt
  obtain ⟨T2, X2, e2, st2⟩ := getF X1 hx hZ hown (host := "") (Or.inl (hw _ (List.mem_of_getElem? (i := 26) rfl))) Via.refl e1 F_value_o0 (g := (mkF m 7 #[.val (.ref o0), .val (.int 0), .val (.ref o2)] [(.ref o0), (.ref o2)])) rfl rfl (hb hby d10_7)
  refine own_thr (a := T2.setTop (mkF m 10 #[.val (.ref o0), .val (.int 0), .val (.ref o2)] [(.ref vb), (.ref o2)])) (fun t kt => st2 t kt) ?_
  refine own_thr (a := T2.setTop (mkF m 12 #[.val (.ref o0), .val (.int 0), .val (.ref o2)] [(.ref o0), (.int 0), (.ref vb), (.ref o2)])) (fun t kt => ?_) ?_
  · show Steps p.tables e below (T2.setTop (mkF m 10 #[.val (.ref o0), .val (.int 0), .val (.ref o2)] [(.ref vb), (.ref o2)])) _
    refine XS.iloadN X2.here hx rfl (hb hby d10_10) rfl ?_
    refine XS.aloadN X2.here hx rfl (hb hby d10_11) rfl rfl ?_
    exact kt
  obtain ⟨T3, X3, e3, st3⟩ := getF X2 hx hZ hown (host := "") (Or.inl (hw _ (List.mem_of_getElem? (i := 28) rfl))) Via.refl e2 F_coder_o0 (g := (mkF m 12 #[.val (.ref o0), .val (.int 0), .val (.ref o2)] [(.ref o0), (.int 0), (.ref vb), (.ref o2)])) rfl rfl (hb hby d10_12)
  refine own_thr (a := T3.setTop (mkF m 15 #[.val (.ref o0), .val (.int 0), .val (.ref o2)] [(.int 0), (.int 0), (.ref vb), (.ref o2)])) (fun t kt => st3 t kt) ?_
  obtain ⟨cq4, kq4, q4a, q4b, q4c⟩ := isOf hZ e3 E_o2
  obtain ⟨_, _, ⟨T4, L4, k4, n4⟩, -, X4, ⟨Lc4, hQ4, l4, y4, z4⟩, st4⟩ := X3.virtualBack hx (y := (⟨"java/lang/String", "getBytes", "([BIB)V"⟩ : MethodName)) (z := (⟨"java/lang/String", "getBytes", "([BIB)V"⟩ : MethodName)) hown (mvT hZ (hw _ (List.mem_of_getElem? (i := 75) rfl))) (mvT hZ (hw _ (List.mem_of_getElem? (i := 76) rfl))) (notFace_of_selects (args := #[]) (mvT hZ (hw _ (List.mem_of_getElem? (i := 78) rfl)))) (mvT hZ (hw _ (List.mem_of_getElem? (i := 78) rfl))) (mvT hZ (hw _ (List.mem_of_getElem? (i := 77) rfl))) (by decide) (backOf (W := 0) (rmGBu1 l Z a0 hw [] o2 vb sv ks kb cs h0 n0 Z0 E_o2 F_value_o2 F_coder_o2 V_sv V_vb S_COMPACT_STRINGS g_vb ne_sv_vb ne_o2_vb hcs) hZ (hw _ (List.mem_of_getElem? (i := 79) rfl)) (hw _ (List.mem_of_getElem? (i := 24) rfl)) (by decide) (by decide)) q4a q4c (g := (mkF m 15 #[.val (.ref o0), .val (.int 0), .val (.ref o2)] [(.int 0), (.int 0), (.ref vb), (.ref o2)])) rfl (by rw [hml]; rfl) (Steps.refl _) (argsL := [(.ref vb), (.int 0), (.int 0)]) (rest := []) (lenOf pd__28_5bBIB_29V rfl) rfl (by show 2 * 0 + _ ≤ _; exact Nat.le_of_eq rfl) (hb hby d10_15) (fun _ _ => ⟨rfl, e3, (by decide : 0 + 0 ≤ _), (by decide : 0 + 0 ≤ _)⟩)
  dsimp only [Pt.U, Pt.locs, Pt.cells, Pt.slots] at X4 l4 y4 z4 st4 hQ4
  obtain ⟨rfl, N4q, K4, o4_0⟩ := hQ4
  have Z5 : n0 ≤ T4.heap.size := Nat.le_trans Z0 K4.1
  have Z5h : h0.size ≤ T4.heap.size := Nat.le_trans (Nat.le_refl h0.size) K4.1
  obtain ⟨lc4, X4, N4⟩ := own_pack X4 l4 y4 z4 N1 N4q (C := 0) (S' := 0) rfl rfl
  refine own_thr (a := T4.setTop (mkF m 18 #[.val (.ref o0), .val (.int 0), .val (.ref o2)] [])) (fun t kt => st4.trans kt) ?_
  exact own_end X4 hlk (v := none) (fun _ => rfl) (fun fs hr => X4.returnOut hx Bd.returns (hb hby d10_18) hr) ⟨rfl, N4, ((Keep.refl h0 [vb]).trans K4 (allS (Or.inl (List.mem_of_getElem? (i := 0) rfl)) all0)), o4_0⟩ (by decide : 0 ≤ _) (by decide : 0 ≤ _)
theorem d6_0 : decode jdk_68_method_22_code 0 = .ok (.aload_n 1, 1) := by decide +kernel
theorem d6_1 : decode jdk_68_method_22_code 1 = .ok (.ifnonnull 8, 3) := by decide +kernel
theorem d6_9 : decode jdk_68_method_22_code 9 = .ok (.aload_n 1, 1) := by decide +kernel
theorem pd__28_29I : parseMethodDescriptor "()I" = some ⟨[], some .int⟩ := by decide +kernel
theorem d6_10 : decode jdk_68_method_22_code 10 = .ok (.invokevirtual 32, 3) := by decide +kernel
theorem d6_13 : decode jdk_68_method_22_code 13 = .ok (.istore_n 2, 1) := by decide +kernel
theorem d6_14 : decode jdk_68_method_22_code 14 = .ok (.aload_n 0, 1) := by decide +kernel
theorem d6_15 : decode jdk_68_method_22_code 15 = .ok (.aload_n 0, 1) := by decide +kernel
theorem d6_16 : decode jdk_68_method_22_code 16 = .ok (.getfield 79, 3) := by decide +kernel
theorem d6_19 : decode jdk_68_method_22_code 19 = .ok (.iload_n 2, 1) := by decide +kernel
theorem d6_20 : decode jdk_68_method_22_code 20 = .ok (.iadd, 1) := by decide +kernel
theorem d6_21 : decode jdk_68_method_22_code 21 = .ok (.invokevirtual 100, 3) := by decide +kernel
theorem d6_24 : decode jdk_68_method_22_code 24 = .ok (.aload_n 0, 1) := by decide +kernel
theorem d6_25 : decode jdk_68_method_22_code 25 = .ok (.aload_n 0, 1) := by decide +kernel
theorem d6_26 : decode jdk_68_method_22_code 26 = .ok (.getfield 79, 3) := by decide +kernel
theorem d6_29 : decode jdk_68_method_22_code 29 = .ok (.aload_n 1, 1) := by decide +kernel
theorem pd__28ILjava_2flang_2fString_3b_29V : parseMethodDescriptor "(ILjava/lang/String;)V" = some ⟨[.int, (.object "java/lang/String")], none⟩ := by decide +kernel
theorem d6_30 : decode jdk_68_method_22_code 30 = .ok (.invokevirtual 208, 3) := by decide +kernel
theorem d6_33 : decode jdk_68_method_22_code 33 = .ok (.aload_n 0, 1) := by decide +kernel
theorem d6_34 : decode jdk_68_method_22_code 34 = .ok (.dup, 1) := by decide +kernel
theorem d6_35 : decode jdk_68_method_22_code 35 = .ok (.getfield 79, 3) := by decide +kernel
theorem d6_38 : decode jdk_68_method_22_code 38 = .ok (.iload_n 2, 1) := by decide +kernel
theorem d6_39 : decode jdk_68_method_22_code 39 = .ok (.iadd, 1) := by decide +kernel
theorem d6_40 : decode jdk_68_method_22_code 40 = .ok (.putfield 79, 3) := by decide +kernel
theorem d6_43 : decode jdk_68_method_22_code 43 = .ok (.aload_n 0, 1) := by decide +kernel
theorem d6_44 : decode jdk_68_method_22_code 44 = .ok (.areturn, 1) := by decide +kernel
theorem ef_rmAAu1 (m : MethodId) (o0 : Addr) (o1 : Addr)  : entryFrame m #[(.ref o0), (.ref o1)] 3 = mkF m 0 #[.val (.ref o0), .val (.ref o1), .unset] [] := by first |  (simp [entryFrame, mkF, argsToLocals, Value.category]; done) | rfl
def Q_rmAAu1 (Z : State) (o0 : Addr) (o1 : Addr) (vb : Addr) (kb : ClassId) (sv : Addr) (ks : ClassId) (cs : Int32) (h0 : Heap) (n0 : Nat) (v : Option Value) (h : Heap) (L : List Loc) : Prop := v = some (.ref o0) ∧ Fr n0 L ∧ Keep h0 h [o0, vb] ∧ Exa Z h o0 "java/lang/StringBuilder" ∧ Fld Z h o0 "java/lang/AbstractStringBuilder" "value" "[B" (.ref vb) ∧ Fld Z h o0 "java/lang/AbstractStringBuilder" "coder" "B" (.int 0) ∧ Fld Z h o0 "java/lang/AbstractStringBuilder" "count" "I" (.int 5) ∧ Arv Z h vb kb .byte (16 : Int32) [(.int 45), (.int 45), (.int 117), (.int 114), (.int 108), (.int 0), (.int 0), (.int 0), (.int 0), (.int 0), (.int 0), (.int 0), (.int 0), (.int 0), (.int 0), (.int 0)] (.int 0)
set_option maxRecDepth 65536 in
set_option maxHeartbeats 40000000 in
theorem rmAAu1 (l : Launch) (Z : State) (a0 : Array Value) (hw : ∀ d ∈ tables_1, d.before a0 Z = true) (ws : List Jvm.Cond) (o0 : Addr) (o1 : Addr) (vb : Addr) (kb : ClassId) (sv : Addr) (ks : ClassId) (cs : Int32) (h0 : Heap) (n0 : Nat) (Z0 : n0 ≤ h0.size) (E_o0 : Exa Z h0 o0 "java/lang/StringBuilder") (F_value_o0 : Fld Z h0 o0 "java/lang/AbstractStringBuilder" "value" "[B" (.ref vb)) (F_coder_o0 : Fld Z h0 o0 "java/lang/AbstractStringBuilder" "coder" "B" (.int 0)) (F_count_o0 : Fld Z h0 o0 "java/lang/AbstractStringBuilder" "count" "I" (.int 0)) (E_o1 : Exa Z h0 o1 "java/lang/String") (F_value_o1 : Fld Z h0 o1 "java/lang/String" "value" "[B" (.ref sv)) (F_coder_o1 : Fld Z h0 o1 "java/lang/String" "coder" "B" (.int 0)) (V_vb : Arv Z h0 vb kb .byte (16 : Int32) [(.int 0), (.int 0), (.int 0), (.int 0), (.int 0), (.int 0), (.int 0), (.int 0), (.int 0), (.int 0), (.int 0), (.int 0), (.int 0), (.int 0), (.int 0), (.int 0)] (.int 0)) (V_sv : Arv Z h0 sv ks .byte (5 : Int32) [(.int 45), (.int 45), (.int 117), (.int 114), (.int 108)] (.int 0)) (S_COMPACT_STRINGS : Sta Z h0 "java/lang/String" "COMPACT_STRINGS" "Z" (.int cs)) (g_o0 : n0 ≤ o0) (g_vb : n0 ≤ vb) (ne_o0_vb : o0 ≠ vb) (ne_sv_vb : sv ≠ vb) (ne_o1_vb : o1 ≠ vb) (ne_o1_o0 : o1 ≠ o0) (ne_sv_o0 : sv ≠ o0) (hcs : ¬ cs = (0 : Int32)) :
    MetFree l (⟨"java/lang/AbstractStringBuilder", "append", "(Ljava/lang/String;)Ljava/lang/AbstractStringBuilder;"⟩ : MethodName) (head1 (Jvm.Cond.code (⟨"java/lang/AbstractStringBuilder", "append", "(Ljava/lang/String;)Ljava/lang/AbstractStringBuilder;"⟩ : MethodName) jdk_68_method_22_code 3 (some (.object "java/lang/AbstractStringBuilder")) :: ws) ({ frames := 3, cells := 0, slots := 0, locals := 47 } : Room)) (fun a U => a = #[(.ref o0), (.ref o1)] ∧ Z.Warmed39 U.vm ∧ U.heap = h0) (fun _ _ _ _ _ => True) (fun _ U o U' => ∃ v L, o = .returned v ∧ Q_rmAAu1 Z o0 o1 vb kb sv ks cs h0 n0 v U'.heap L ∧ FrameEnd U o U' L ({ frames := 3, cells := 0, slots := 0, locals := 47 } : Room).cells ({ frames := 3, cells := 0, slots := 0, locals := 47 } : Room).slots) := by
  refine MetFree.of_bodySF (plainFor_of_name pn_java_lang_AbstractStringBuilder) hisR ?_
  intro p e s m args below meth c s₁ Bd hml0 hP hK
  obtain ⟨rfl, hZ, hh⟩ := hP
  have hx := Bd.exec
  have hby := Bd.bytes
  have hml : c.maxLocals = 3 := hml0
  have hown : s.vm.findClass "java/lang/AbstractStringBuilder" = some m.cls := findClass_of_methodNamed Bd.named
  have hnm := (name_of_methodNamed Bd.named Bd.method).1
  have hlk := Bd.notSynchronized
  have X0 : Stand p l e ({ frames := 3, cells := 0, slots := 0, locals := 47 } : Room) s m #[(.ref o0), (.ref o1)] below meth c s₁ [] 0 0 := Stand.of_body Bd
  have e0 : s₁.heap = h0 := by rw [← hh, Bd.state]; rfl
  have N0 := Fr.nil n0
  show own_G p.tables e below s (Q_rmAAu1 Z o0 o1 vb kb sv ks cs h0 n0) ({ frames := 3, cells := 0, slots := 0, locals := 47 } : Room).cells ({ frames := 3, cells := 0, slots := 0, locals := 47 } : Room).slots _
  refine own_thr (a := s₁.setTop (mkF m 0 #[.val (.ref o0), .val (.ref o1), .unset] [])) (fun t kt => castTop (ef_rmAAu1 m o0 o1) kt) ?_
  refine own_thr (a := s₁.setTop (mkF m 10 #[.val (.ref o0), .val (.ref o1), .unset] [(.ref o1)])) (fun t kt => ?_) ?_
  · show Steps p.tables e below (s₁.setTop (mkF m 0 #[.val (.ref o0), .val (.ref o1), .unset] [])) _
    refine XS.aloadN X0.here hx rfl (hb hby d6_0) rfl rfl ?_
    refine XS.ifnonnullYes X0.here hx rfl (pc0 := 1) (pc' := 9) rfl (hb hby d6_1) rfl (by decide) (by decide) ?_
    refine XS.aloadN X0.here hx rfl (hb hby d6_9) rfl rfl ?_
    exact kt
  obtain ⟨cq1, kq1, q1a, q1b, q1c⟩ := isOf hZ e0 E_o1
  obtain ⟨_, _, ⟨T1, L1, k1, n1⟩, -, X1, ⟨Lc1, hQ1, l1, y1, z1⟩, st1⟩ := X0.virtualBack hx (y := (⟨"java/lang/String", "length", "()I"⟩ : MethodName)) (z := (⟨"java/lang/String", "length", "()I"⟩ : MethodName)) hown (mvT hZ (hw _ (List.mem_of_getElem? (i := 42) rfl))) (mvT hZ (hw _ (List.mem_of_getElem? (i := 43) rfl))) (notFace_of_selects (args := #[]) (mvT hZ (hw _ (List.mem_of_getElem? (i := 45) rfl)))) (mvT hZ (hw _ (List.mem_of_getElem? (i := 45) rfl))) (mvT hZ (hw _ (List.mem_of_getElem? (i := 44) rfl))) (by decide) (backOf (W := 0) (rmLNu1 l Z a0 hw [] o1 sv ks cs h0 n0 Z0 E_o1 F_value_o1 F_coder_o1 V_sv S_COMPACT_STRINGS hcs) hZ (hw _ (List.mem_of_getElem? (i := 46) rfl)) (hw _ (List.mem_of_getElem? (i := 24) rfl)) (by decide) (by decide)) q1a q1c (g := (mkF m 10 #[.val (.ref o0), .val (.ref o1), .unset] [(.ref o1)])) rfl (by rw [hml]; rfl) (Steps.refl _) (argsL := []) (rest := []) (lenOf pd__28_29I rfl) rfl (by show 2 * 0 + _ ≤ _; exact Nat.le_of_eq rfl) (hb hby d6_10) (fun _ _ => ⟨rfl, e0, (by decide : 0 + 0 ≤ _), (by decide : 0 + 0 ≤ _)⟩)
  dsimp only [Pt.U, Pt.locs, Pt.cells, Pt.slots] at X1 l1 y1 z1 st1 hQ1
  obtain ⟨rfl, N1q, e1⟩ := hQ1
  obtain ⟨lc1, X1, N1⟩ := own_pack X1 l1 y1 z1 N0 N1q (C := 0) (S' := 0) rfl rfl
  refine own_thr (a := T1.setTop (mkF m 13 #[.val (.ref o0), .val (.ref o1), .unset] [(.int 5)])) (fun t kt => st1.trans kt) ?_
  refine own_thr (a := T1.setTop (mkF m 16 #[.val (.ref o0), .val (.ref o1), .val (.int 5)] [(.ref o0), (.ref o0)])) (fun t kt => ?_) ?_
  · show Steps p.tables e below (T1.setTop (mkF m 13 #[.val (.ref o0), .val (.ref o1), .unset] [(.int 5)])) _
    refine XS.istoreN X1.here hx rfl (hb hby d6_13) rfl (l' := #[.val (.ref o0), .val (.ref o1), .val (.int 5)]) rfl ?_
    refine XS.aloadN X1.here hx rfl (hb hby d6_14) rfl rfl ?_
    refine XS.aloadN X1.here hx rfl (hb hby d6_15) rfl rfl ?_
    exact kt
  obtain ⟨T2, X2, e2, st2⟩ := getF X1 hx hZ hown (host := "") (Or.inl (hw _ (List.mem_of_getElem? (i := 57) rfl))) Via.refl e1 F_count_o0 (g := (mkF m 16 #[.val (.ref o0), .val (.ref o1), .val (.int 5)] [(.ref o0), (.ref o0)])) rfl rfl (hb hby d6_16)
  refine own_thr (a := T2.setTop (mkF m 19 #[.val (.ref o0), .val (.ref o1), .val (.int 5)] [(.int 0), (.ref o0)])) (fun t kt => st2 t kt) ?_
  refine own_thr (a := T2.setTop (mkF m 21 #[.val (.ref o0), .val (.ref o1), .val (.int 5)] [(.int 5), (.ref o0)])) (fun t kt => ?_) ?_
  · show Steps p.tables e below (T2.setTop (mkF m 19 #[.val (.ref o0), .val (.ref o1), .val (.int 5)] [(.int 0), (.ref o0)])) _
    refine XS.iloadN X2.here hx rfl (hb hby d6_19) rfl ?_
    refine XS.iadd X2.here hx rfl (hb hby d6_20) rfl ?_
    exact kt
  obtain ⟨cq3, q3, q3'⟩ := E_o0.cell
  obtain ⟨_, _, ⟨T3, L3, k3, n3⟩, -, X3, ⟨Lc3, hQ3, l3, y3, z3⟩, st3⟩ := X2.privateBack hx (y := (⟨"java/lang/AbstractStringBuilder", "ensureCapacityInternal", "(I)V"⟩ : MethodName)) hown (mvT hZ (hw _ (List.mem_of_getElem? (i := 59) rfl))) (mvT hZ (hw _ (List.mem_of_getElem? (i := 60) rfl))) (own_selp hZ (hw _ (List.mem_of_getElem? (i := 62) rfl)) (hw _ (List.mem_of_getElem? (i := 61) rfl)) (hw _ (List.mem_of_getElem? (i := 60) rfl)) (by decide)) (Cond.privateMethod_at (mvP hZ (hw _ (List.mem_of_getElem? (i := 61) rfl)) (args := #[]))) (mvT hZ (hw _ (List.mem_of_getElem? (i := 63) rfl))) (by decide) (backOf (W := 0) (rmENu1 l Z a0 hw [] o0 vb kb h0 n0 Z0 F_value_o0 F_coder_o0 V_vb) hZ (hw _ (List.mem_of_getElem? (i := 63) rfl)) (hw _ (List.mem_of_getElem? (i := 18) rfl)) (by decide) (by decide)) (g := (mkF m 21 #[.val (.ref o0), .val (.ref o1), .val (.int 5)] [(.int 5), (.ref o0)])) rfl (by rw [hml]; rfl) (Steps.refl _) (a := o0) (by rw [e2]; exact q3) q3' (argsL := [(.int 5)]) (rest := []) (lenOf pd__28I_29V rfl) rfl (by show 2 * 0 + _ ≤ _; exact Nat.le_of_eq rfl) (hb hby d6_21) (fun _ _ => ⟨rfl, e2, (by decide : 0 + 0 ≤ _), (by decide : 0 + 0 ≤ _)⟩)
  dsimp only [Pt.U, Pt.locs, Pt.cells, Pt.slots] at X3 l3 y3 z3 st3 hQ3
  obtain ⟨rfl, N3q, e3⟩ := hQ3
  obtain ⟨lc3, X3, N3⟩ := own_pack X3 l3 y3 z3 N1 N3q (C := 0) (S' := 0) rfl rfl
  refine own_thr (a := T3.setTop (mkF m 24 #[.val (.ref o0), .val (.ref o1), .val (.int 5)] [])) (fun t kt => st3.trans kt) ?_
  refine own_thr (a := T3.setTop (mkF m 26 #[.val (.ref o0), .val (.ref o1), .val (.int 5)] [(.ref o0), (.ref o0)])) (fun t kt => ?_) ?_
  · show Steps p.tables e below (T3.setTop (mkF m 24 #[.val (.ref o0), .val (.ref o1), .val (.int 5)] [])) _
    refine XS.aloadN X3.here hx rfl (hb hby d6_24) rfl rfl ?_
    refine XS.aloadN X3.here hx rfl (hb hby d6_25) rfl rfl ?_
    exact kt
  obtain ⟨T4, X4, e4, st4⟩ := getF X3 hx hZ hown (host := "") (Or.inl (hw _ (List.mem_of_getElem? (i := 57) rfl))) Via.refl e3 F_count_o0 (g := (mkF m 26 #[.val (.ref o0), .val (.ref o1), .val (.int 5)] [(.ref o0), (.ref o0)])) rfl rfl (hb hby d6_26)
  refine own_thr (a := T4.setTop (mkF m 29 #[.val (.ref o0), .val (.ref o1), .val (.int 5)] [(.int 0), (.ref o0)])) (fun t kt => st4 t kt) ?_
  refine own_thr (a := T4.setTop (mkF m 30 #[.val (.ref o0), .val (.ref o1), .val (.int 5)] [(.ref o1), (.int 0), (.ref o0)])) (fun t kt => ?_) ?_
  · show Steps p.tables e below (T4.setTop (mkF m 29 #[.val (.ref o0), .val (.ref o1), .val (.int 5)] [(.int 0), (.ref o0)])) _
    refine XS.aloadN X4.here hx rfl (hb hby d6_29) rfl rfl ?_
    exact kt
  obtain ⟨cq5, q5, q5'⟩ := E_o0.cell
  obtain ⟨_, _, ⟨T5, L5, k5, n5⟩, -, X5, ⟨Lc5, hQ5, l5, y5, z5⟩, st5⟩ := X4.privateBack hx (y := (⟨"java/lang/AbstractStringBuilder", "putStringAt", "(ILjava/lang/String;)V"⟩ : MethodName)) hown (mvT hZ (hw _ (List.mem_of_getElem? (i := 64) rfl))) (mvT hZ (hw _ (List.mem_of_getElem? (i := 65) rfl))) (own_selp hZ (hw _ (List.mem_of_getElem? (i := 67) rfl)) (hw _ (List.mem_of_getElem? (i := 66) rfl)) (hw _ (List.mem_of_getElem? (i := 65) rfl)) (by decide)) (Cond.privateMethod_at (mvP hZ (hw _ (List.mem_of_getElem? (i := 66) rfl)) (args := #[]))) (mvT hZ (hw _ (List.mem_of_getElem? (i := 68) rfl))) (by decide) (backOf (W := 0) (rmPSu1 l Z a0 hw [] o0 o1 vb kb sv ks cs h0 n0 Z0 E_o0 F_value_o0 F_coder_o0 F_count_o0 E_o1 F_value_o1 F_coder_o1 V_vb V_sv S_COMPACT_STRINGS g_vb ne_o0_vb ne_sv_vb ne_o1_vb ne_o1_o0 ne_sv_o0 hcs) hZ (hw _ (List.mem_of_getElem? (i := 68) rfl)) (hw _ (List.mem_of_getElem? (i := 18) rfl)) (by decide) (by decide)) (g := (mkF m 30 #[.val (.ref o0), .val (.ref o1), .val (.int 5)] [(.ref o1), (.int 0), (.ref o0)])) rfl (by rw [hml]; rfl) (Steps.refl _) (a := o0) (by rw [e4]; exact q5) q5' (argsL := [(.int 0), (.ref o1)]) (rest := []) (lenOf pd__28ILjava_2flang_2fString_3b_29V rfl) rfl (by show 2 * 0 + _ ≤ _; exact Nat.le_of_eq rfl) (hb hby d6_30) (fun _ _ => ⟨rfl, e4, (by decide : 0 + 0 ≤ _), (by decide : 0 + 0 ≤ _)⟩)
  dsimp only [Pt.U, Pt.locs, Pt.cells, Pt.slots] at X5 l5 y5 z5 st5 hQ5
  obtain ⟨rfl, N5q, K5, o5_0⟩ := hQ5
  have Z6 : n0 ≤ T5.heap.size := Nat.le_trans Z0 K5.1
  have Z6h : h0.size ≤ T5.heap.size := Nat.le_trans (Nat.le_refl h0.size) K5.1
  obtain ⟨lc5, X5, N5⟩ := own_pack X5 l5 y5 z5 N3 N5q (C := 0) (S' := 0) rfl rfl
  refine own_thr (a := T5.setTop (mkF m 33 #[.val (.ref o0), .val (.ref o1), .val (.int 5)] [])) (fun t kt => st5.trans kt) ?_
  refine own_thr (a := T5.setTop (mkF m 35 #[.val (.ref o0), .val (.ref o1), .val (.int 5)] [(.ref o0), (.ref o0)])) (fun t kt => ?_) ?_
  · show Steps p.tables e below (T5.setTop (mkF m 33 #[.val (.ref o0), .val (.ref o1), .val (.int 5)] [])) _
    refine XS.aloadN X5.here hx rfl (hb hby d6_33) rfl rfl ?_
    refine XS.dup X5.here hx rfl (hb hby d6_34) rfl rfl ?_
    exact kt
  obtain ⟨T7, X7, e7, st7⟩ := getF X5 hx hZ hown (host := "") (Or.inl (hw _ (List.mem_of_getElem? (i := 57) rfl))) Via.refl rfl (F_count_o0.keep K5 (ninS ne_o0_vb nin0)) (g := (mkF m 35 #[.val (.ref o0), .val (.ref o1), .val (.int 5)] [(.ref o0), (.ref o0)])) rfl rfl (hb hby d6_35)
  refine own_thr (a := T7.setTop (mkF m 38 #[.val (.ref o0), .val (.ref o1), .val (.int 5)] [(.int 0), (.ref o0)])) (fun t kt => st7 t kt) ?_
  refine own_thr (a := T7.setTop (mkF m 40 #[.val (.ref o0), .val (.ref o1), .val (.int 5)] [(.int 5), (.ref o0)])) (fun t kt => ?_) ?_
  · show Steps p.tables e below (T7.setTop (mkF m 38 #[.val (.ref o0), .val (.ref o1), .val (.int 5)] [(.int 0), (.ref o0)])) _
    refine XS.iloadN X7.here hx rfl (hb hby d6_38) rfl ?_
    refine XS.iadd X7.here hx rfl (hb hby d6_39) rfl ?_
    exact kt
  obtain ⟨T8, h8, X8, e8, W8, st8⟩ := putF X7 hx hZ hown (host := "") (Or.inl (hw _ (List.mem_of_getElem? (i := 57) rfl))) Via.refl e7 (F_count_o0.keep K5 (ninS ne_o0_vb nin0)) (E_o0.keep K5) (Or.inl (hw _ (List.mem_of_getElem? (i := 58) rfl))) (hw _ (List.mem_of_getElem? (i := 9) rfl)) (ty := .int) (by decide) rfl rfl (g := (mkF m 40 #[.val (.ref o0), .val (.ref o1), .val (.int 5)] [(.int 5), (.ref o0)])) rfl rfl (hb hby d6_40)
  have Fw8 := (F_count_o0.keep K5 (ninS ne_o0_vb nin0)).same W8
  have Z9 : n0 ≤ h8.size := Nat.le_trans Z6 (Nat.le_of_eq W8.size.symm)
  have Z9h : h0.size ≤ h8.size := Nat.le_trans Z6h (Nat.le_of_eq W8.size.symm)
  obtain ⟨lc8, X8, N8⟩ := own_pack1 X8 N5 g_o0
  refine own_thr (a := T8.setTop (mkF m 43 #[.val (.ref o0), .val (.ref o1), .val (.int 5)] [])) (fun t kt => st8 t kt) ?_
  refine own_thr (a := T8.setTop (mkF m 44 #[.val (.ref o0), .val (.ref o1), .val (.int 5)] [(.ref o0)])) (fun t kt => ?_) ?_
  · show Steps p.tables e below (T8.setTop (mkF m 43 #[.val (.ref o0), .val (.ref o1), .val (.int 5)] [])) _
    refine XS.aloadN X8.here hx rfl (hb hby d6_43) rfl rfl ?_
    exact kt
  have c10 := ((F_value_o0.keep K5 (ninS ne_o0_vb nin0)).other W8 (Or.inr (slot_ne (Or.inl (hw _ (List.mem_of_getElem? (i := 27) rfl))) (Or.inl (hw _ (List.mem_of_getElem? (i := 58) rfl))) (by decide) (t := (.array .byte)) (t' := .int) (by decide) (by decide))))
  have c11 := ((F_coder_o0.keep K5 (ninS ne_o0_vb nin0)).other W8 (Or.inr (slot_ne (Or.inl (hw _ (List.mem_of_getElem? (i := 29) rfl))) (Or.inl (hw _ (List.mem_of_getElem? (i := 58) rfl))) (by decide) (t := .byte) (t' := .int) (by decide) (by decide))))
  exact own_end X8 hlk (v := some (.ref o0)) (fun h => by rw [Bd.returns] at h; cases h) (fun fs hr => retA X8 hx Bd.returns rfl rfl (hb hby d6_44) hr) (by rw [e8]; exact ⟨rfl, N8, (((Keep.refl h0 [o0, vb]).trans K5 (allS (Or.inl (List.mem_of_getElem? (i := 1) rfl)) all0)).wr W8 (Or.inl (List.mem_of_getElem? (i := 0) rfl))), ((E_o0.keep K5).wr W8), c10, c11, Fw8, (o5_0.other W8 (Ne.symm ne_o0_vb))⟩) (by decide : 0 ≤ _) (by decide : 0 ≤ _)
theorem d5_0 : decode jdk_67_method_7_code 0 = .ok (.aload_n 0, 1) := by decide +kernel
theorem d5_1 : decode jdk_67_method_7_code 1 = .ok (.aload_n 1, 1) := by decide +kernel
theorem pd__28Ljava_2flang_2fString_3b_29Ljava_2flang_2fAbstractStringBuilder_3b : parseMethodDescriptor "(Ljava/lang/String;)Ljava/lang/AbstractStringBuilder;" = some ⟨[(.object "java/lang/String")], some (.object "java/lang/AbstractStringBuilder")⟩ := by decide +kernel
theorem d5_2 : decode jdk_67_method_7_code 2 = .ok (.invokespecial 29, 3) := by decide +kernel
theorem d5_5 : decode jdk_67_method_7_code 5 = .ok (.pop, 1) := by decide +kernel
theorem d5_6 : decode jdk_67_method_7_code 6 = .ok (.aload_n 0, 1) := by decide +kernel
theorem d5_7 : decode jdk_67_method_7_code 7 = .ok (.areturn, 1) := by decide +kernel
theorem ef_rmSAu1 (m : MethodId) (o0 : Addr) (o1 : Addr)  : entryFrame m #[(.ref o0), (.ref o1)] 2 = mkF m 0 #[.val (.ref o0), .val (.ref o1)] [] := by first |  (simp [entryFrame, mkF, argsToLocals, Value.category]; done) | rfl
def Q_rmSAu1 (Z : State) (o0 : Addr) (o1 : Addr) (vb : Addr) (kb : ClassId) (sv : Addr) (ks : ClassId) (cs : Int32) (h0 : Heap) (n0 : Nat) (v : Option Value) (h : Heap) (L : List Loc) : Prop := v = some (.ref o0) ∧ Fr n0 L ∧ Keep h0 h [o0, vb] ∧ Exa Z h o0 "java/lang/StringBuilder" ∧ Fld Z h o0 "java/lang/AbstractStringBuilder" "value" "[B" (.ref vb) ∧ Fld Z h o0 "java/lang/AbstractStringBuilder" "coder" "B" (.int 0) ∧ Fld Z h o0 "java/lang/AbstractStringBuilder" "count" "I" (.int 5) ∧ Arv Z h vb kb .byte (16 : Int32) [(.int 45), (.int 45), (.int 117), (.int 114), (.int 108), (.int 0), (.int 0), (.int 0), (.int 0), (.int 0), (.int 0), (.int 0), (.int 0), (.int 0), (.int 0), (.int 0)] (.int 0)
set_option maxRecDepth 65536 in
set_option maxHeartbeats 40000000 in
theorem rmSAu1 (l : Launch) (Z : State) (a0 : Array Value) (hw : ∀ d ∈ tables_1, d.before a0 Z = true) (ws : List Jvm.Cond) (o0 : Addr) (o1 : Addr) (vb : Addr) (kb : ClassId) (sv : Addr) (ks : ClassId) (cs : Int32) (h0 : Heap) (n0 : Nat) (Z0 : n0 ≤ h0.size) (E_o0 : Exa Z h0 o0 "java/lang/StringBuilder") (F_value_o0 : Fld Z h0 o0 "java/lang/AbstractStringBuilder" "value" "[B" (.ref vb)) (F_coder_o0 : Fld Z h0 o0 "java/lang/AbstractStringBuilder" "coder" "B" (.int 0)) (F_count_o0 : Fld Z h0 o0 "java/lang/AbstractStringBuilder" "count" "I" (.int 0)) (E_o1 : Exa Z h0 o1 "java/lang/String") (F_value_o1 : Fld Z h0 o1 "java/lang/String" "value" "[B" (.ref sv)) (F_coder_o1 : Fld Z h0 o1 "java/lang/String" "coder" "B" (.int 0)) (V_vb : Arv Z h0 vb kb .byte (16 : Int32) [(.int 0), (.int 0), (.int 0), (.int 0), (.int 0), (.int 0), (.int 0), (.int 0), (.int 0), (.int 0), (.int 0), (.int 0), (.int 0), (.int 0), (.int 0), (.int 0)] (.int 0)) (V_sv : Arv Z h0 sv ks .byte (5 : Int32) [(.int 45), (.int 45), (.int 117), (.int 114), (.int 108)] (.int 0)) (S_COMPACT_STRINGS : Sta Z h0 "java/lang/String" "COMPACT_STRINGS" "Z" (.int cs)) (g_o0 : n0 ≤ o0) (g_vb : n0 ≤ vb) (ne_o0_vb : o0 ≠ vb) (ne_sv_vb : sv ≠ vb) (ne_o1_vb : o1 ≠ vb) (ne_o1_o0 : o1 ≠ o0) (ne_sv_o0 : sv ≠ o0) (hcs : ¬ cs = (0 : Int32)) :
    MetFree l (⟨"java/lang/StringBuilder", "append", "(Ljava/lang/String;)Ljava/lang/StringBuilder;"⟩ : MethodName) (head1 (Jvm.Cond.code (⟨"java/lang/StringBuilder", "append", "(Ljava/lang/String;)Ljava/lang/StringBuilder;"⟩ : MethodName) jdk_67_method_7_code 2 (some (.object "java/lang/StringBuilder")) :: ws) ({ frames := 4, cells := 0, slots := 0, locals := 61 } : Room)) (fun a U => a = #[(.ref o0), (.ref o1)] ∧ Z.Warmed39 U.vm ∧ U.heap = h0) (fun _ _ _ _ _ => True) (fun _ U o U' => ∃ v L, o = .returned v ∧ Q_rmSAu1 Z o0 o1 vb kb sv ks cs h0 n0 v U'.heap L ∧ FrameEnd U o U' L ({ frames := 4, cells := 0, slots := 0, locals := 61 } : Room).cells ({ frames := 4, cells := 0, slots := 0, locals := 61 } : Room).slots) := by
  refine MetFree.of_bodySF (plainFor_of_name pn_java_lang_StringBuilder) hisR ?_
  intro p e s m args below meth c s₁ Bd hml0 hP hK
  obtain ⟨rfl, hZ, hh⟩ := hP
  have hx := Bd.exec
  have hby := Bd.bytes
  have hml : c.maxLocals = 2 := hml0
  have hown : s.vm.findClass "java/lang/StringBuilder" = some m.cls := findClass_of_methodNamed Bd.named
  have hnm := (name_of_methodNamed Bd.named Bd.method).1
  have hlk := Bd.notSynchronized
  have X0 : Stand p l e ({ frames := 4, cells := 0, slots := 0, locals := 61 } : Room) s m #[(.ref o0), (.ref o1)] below meth c s₁ [] 0 0 := Stand.of_body Bd
  have e0 : s₁.heap = h0 := by rw [← hh, Bd.state]; rfl
  have N0 := Fr.nil n0
  show own_G p.tables e below s (Q_rmSAu1 Z o0 o1 vb kb sv ks cs h0 n0) ({ frames := 4, cells := 0, slots := 0, locals := 61 } : Room).cells ({ frames := 4, cells := 0, slots := 0, locals := 61 } : Room).slots _
  refine own_thr (a := s₁.setTop (mkF m 0 #[.val (.ref o0), .val (.ref o1)] [])) (fun t kt => castTop (ef_rmSAu1 m o0 o1) kt) ?_
  refine own_thr (a := s₁.setTop (mkF m 2 #[.val (.ref o0), .val (.ref o1)] [(.ref o1), (.ref o0)])) (fun t kt => ?_) ?_
  · show Steps p.tables e below (s₁.setTop (mkF m 0 #[.val (.ref o0), .val (.ref o1)] [])) _
    refine XS.aloadN X0.here hx rfl (hb hby d5_0) rfl rfl ?_
    refine XS.aloadN X0.here hx rfl (hb hby d5_1) rfl rfl ?_
    exact kt
  obtain ⟨_, _, ⟨T1, L1, k1, n1⟩, -, X1, ⟨Lc1, hQ1, l1, y1, z1⟩, st1⟩ := superBack X0 hx hZ (y := (⟨"java/lang/AbstractStringBuilder", "append", "(Ljava/lang/String;)Ljava/lang/AbstractStringBuilder;"⟩ : MethodName)) hown (hw _ (List.mem_of_getElem? (i := 37) rfl)) (own_same (y := (⟨"java/lang/AbstractStringBuilder", "append", "(Ljava/lang/String;)Ljava/lang/AbstractStringBuilder;"⟩ : MethodName)) (hw _ (List.mem_of_getElem? (i := 62) rfl)) rfl (hw _ (List.mem_of_getElem? (i := 38) rfl)) (by decide)) (hw _ (List.mem_of_getElem? (i := 38) rfl)) (hw _ (List.mem_of_getElem? (i := 39) rfl)) (by decide) (backOf (W := 0) (rmAAu1 l Z a0 hw [] o0 o1 vb kb sv ks cs h0 n0 Z0 E_o0 F_value_o0 F_coder_o0 F_count_o0 E_o1 F_value_o1 F_coder_o1 V_vb V_sv S_COMPACT_STRINGS g_o0 g_vb ne_o0_vb ne_sv_vb ne_o1_vb ne_o1_o0 ne_sv_o0 hcs) hZ (hw _ (List.mem_of_getElem? (i := 41) rfl)) (hw _ (List.mem_of_getElem? (i := 18) rfl)) (by decide) (by decide)) e0 (Ins.self E_o0) (g := (mkF m 2 #[.val (.ref o0), .val (.ref o1)] [(.ref o1), (.ref o0)])) rfl (by rw [hml]; rfl) (hw _ (List.mem_of_getElem? (i := 41) rfl)) (argsL := [(.ref o1)]) (rest := []) (lenOf pd__28Ljava_2flang_2fString_3b_29Ljava_2flang_2fAbstractStringBuilder_3b rfl) rfl (by show 2 * 0 + _ ≤ _; exact Nat.le_of_eq rfl) (hb hby d5_2) (fun _ _ => ⟨rfl, e0, (by decide : 0 + 0 ≤ _), (by decide : 0 + 0 ≤ _)⟩)
  dsimp only [Pt.U, Pt.locs, Pt.cells, Pt.slots] at X1 l1 y1 z1 st1 hQ1
  obtain ⟨rfl, N1q, K1, o1_0, o1_1, o1_2, o1_3, o1_4⟩ := hQ1
  have Z2 : n0 ≤ T1.heap.size := Nat.le_trans Z0 K1.1
  have Z2h : h0.size ≤ T1.heap.size := Nat.le_trans (Nat.le_refl h0.size) K1.1
  obtain ⟨lc1, X1, N1⟩ := own_pack X1 l1 y1 z1 N0 N1q (C := 0) (S' := 0) rfl rfl
  refine own_thr (a := T1.setTop (mkF m 5 #[.val (.ref o0), .val (.ref o1)] [(.ref o0)])) (fun t kt => st1.trans kt) ?_
  refine own_thr (a := T1.setTop (mkF m 7 #[.val (.ref o0), .val (.ref o1)] [(.ref o0)])) (fun t kt => ?_) ?_
  · show Steps p.tables e below (T1.setTop (mkF m 5 #[.val (.ref o0), .val (.ref o1)] [(.ref o0)])) _
    refine XS.pop X1.here hx rfl (hb hby d5_5) rfl rfl ?_
    refine XS.aloadN X1.here hx rfl (hb hby d5_6) rfl rfl ?_
    exact kt
  exact own_end X1 hlk (v := some (.ref o0)) (fun h => by rw [Bd.returns] at h; cases h) (fun fs hr => retA X1 hx Bd.returns rfl rfl (hb hby d5_7) hr) ⟨rfl, N1, ((Keep.refl h0 [o0, vb]).trans K1 (allS (Or.inl (List.mem_of_getElem? (i := 0) rfl)) (allS (Or.inl (List.mem_of_getElem? (i := 1) rfl)) all0))), o1_0, o1_1, o1_2, o1_3, o1_4⟩ (by decide : 0 ≤ _) (by decide : 0 ≤ _)
theorem ef_rmLNu2 (m : MethodId) (o0 : Addr)  : entryFrame m #[(.ref o0)] 1 = mkF m 0 #[.val (.ref o0)] [] := by first |  (simp [entryFrame, mkF, argsToLocals, Value.category]; done) | rfl
def Q_rmLNu2 (Z : State) (o0 : Addr) (sv : Addr) (ks : ClassId) (cs : Int32) (h0 : Heap) (n0 : Nat) (v : Option Value) (h : Heap) (L : List Loc) : Prop := v = some (.int 1) ∧ Fr n0 L ∧ h = h0
set_option maxRecDepth 65536 in
set_option maxHeartbeats 40000000 in
theorem rmLNu2 (l : Launch) (Z : State) (a0 : Array Value) (hw : ∀ d ∈ tables_1, d.before a0 Z = true) (ws : List Jvm.Cond) (o0 : Addr) (sv : Addr) (ks : ClassId) (cs : Int32) (h0 : Heap) (n0 : Nat) (Z0 : n0 ≤ h0.size) (E_o0 : Exa Z h0 o0 "java/lang/String") (F_value_o0 : Fld Z h0 o0 "java/lang/String" "value" "[B" (.ref sv)) (F_coder_o0 : Fld Z h0 o0 "java/lang/String" "coder" "B" (.int 0)) (V_sv : Arv Z h0 sv ks .byte (1 : Int32) [(.int 32)] (.int 0)) (S_COMPACT_STRINGS : Sta Z h0 "java/lang/String" "COMPACT_STRINGS" "Z" (.int cs)) (hcs : ¬ cs = (0 : Int32)) :
    MetFree l (⟨"java/lang/String", "length", "()I"⟩ : MethodName) (head1 (Jvm.Cond.code (⟨"java/lang/String", "length", "()I"⟩ : MethodName) jdk_42_method_54_code 1 (some .int) :: ws) ({ frames := 1, cells := 0, slots := 0, locals := 13 } : Room)) (fun a U => a = #[(.ref o0)] ∧ Z.Warmed39 U.vm ∧ U.heap = h0) (fun _ _ _ _ _ => True) (fun _ U o U' => ∃ v L, o = .returned v ∧ Q_rmLNu2 Z o0 sv ks cs h0 n0 v U'.heap L ∧ FrameEnd U o U' L ({ frames := 1, cells := 0, slots := 0, locals := 13 } : Room).cells ({ frames := 1, cells := 0, slots := 0, locals := 13 } : Room).slots) := by
  refine MetFree.of_bodySF (plainFor_of_name pn_java_lang_String) hisR ?_
  intro p e s m args below meth c s₁ Bd hml0 hP hK
  obtain ⟨rfl, hZ, hh⟩ := hP
  have hx := Bd.exec
  have hby := Bd.bytes
  have hml : c.maxLocals = 1 := hml0
  have hown : s.vm.findClass "java/lang/String" = some m.cls := findClass_of_methodNamed Bd.named
  have hnm := (name_of_methodNamed Bd.named Bd.method).1
  have hlk := Bd.notSynchronized
  have X0 : Stand p l e ({ frames := 1, cells := 0, slots := 0, locals := 13 } : Room) s m #[(.ref o0)] below meth c s₁ [] 0 0 := Stand.of_body Bd
  have e0 : s₁.heap = h0 := by rw [← hh, Bd.state]; rfl
  have N0 := Fr.nil n0
  show own_G p.tables e below s (Q_rmLNu2 Z o0 sv ks cs h0 n0) ({ frames := 1, cells := 0, slots := 0, locals := 13 } : Room).cells ({ frames := 1, cells := 0, slots := 0, locals := 13 } : Room).slots _
  refine own_thr (a := s₁.setTop (mkF m 0 #[.val (.ref o0)] [])) (fun t kt => castTop (ef_rmLNu2 m o0) kt) ?_
  refine own_thr (a := s₁.setTop (mkF m 1 #[.val (.ref o0)] [(.ref o0)])) (fun t kt => ?_) ?_
  · show Steps p.tables e below (s₁.setTop (mkF m 0 #[.val (.ref o0)] [])) _
    refine XS.aloadN X0.here hx rfl (hb hby d7_0) rfl rfl ?_
    exact kt
  obtain ⟨T1, X1, e1, st1⟩ := getF X0 hx hZ hown (host := "") (Or.inl (hw _ (List.mem_of_getElem? (i := 47) rfl))) Via.refl e0 F_value_o0 (g := (mkF m 1 #[.val (.ref o0)] [(.ref o0)])) rfl rfl (hb hby d7_1)
  refine own_thr (a := T1.setTop (mkF m 4 #[.val (.ref o0)] [(.ref sv)])) (fun t kt => st1 t kt) ?_
  obtain ⟨cl2, Ar2, -, S2, M2, -, -⟩ := id V_sv
  refine own_thr (a := T1.setTop (mkF m 6 #[.val (.ref o0)] [(.ref o0), (.int 1)])) (fun t kt => ?_) ?_
  · show Steps p.tables e below (T1.setTop (mkF m 4 #[.val (.ref o0)] [(.ref sv)])) _
    refine X1.arraylength hx (by rw [e1]; exact Ar2.1) (State.isArrayOf_alike hZ.alike Ar2.2.1) (g := (mkF m 4 #[.val (.ref o0)] [(.ref sv)])) rfl rfl (hb hby d7_4) _ ?_
    rw [len_of S2 M2]
    refine XS.aloadN X1.here hx rfl (hb hby d7_5) rfl rfl ?_
    exact kt
  obtain ⟨cq3, kq3, q3a, q3b, q3c⟩ := isOf hZ e1 E_o0
  obtain ⟨_, _, ⟨T3, L3, k3, n3⟩, -, X3, ⟨Lc3, hQ3, l3, y3, z3⟩, st3⟩ := X1.virtualBack hx (y := (⟨"java/lang/String", "coder", "()B"⟩ : MethodName)) (z := (⟨"java/lang/String", "coder", "()B"⟩ : MethodName)) hown (mvT hZ (hw _ (List.mem_of_getElem? (i := 49) rfl))) (mvT hZ (hw _ (List.mem_of_getElem? (i := 50) rfl))) (notFace_of_selects (args := #[]) (mvT hZ (hw _ (List.mem_of_getElem? (i := 52) rfl)))) (mvT hZ (hw _ (List.mem_of_getElem? (i := 52) rfl))) (mvT hZ (hw _ (List.mem_of_getElem? (i := 51) rfl))) (by decide) (backOf (W := 1) (rmCO l Z a0 hw [] o0 cs h0 n0 Z0 F_coder_o0 S_COMPACT_STRINGS hcs) hZ (hw _ (List.mem_of_getElem? (i := 53) rfl)) (hw _ (List.mem_of_getElem? (i := 24) rfl)) (by decide) (by decide)) q3a q3c (g := (mkF m 6 #[.val (.ref o0)] [(.ref o0), (.int 1)])) rfl (by rw [hml]; rfl) (Steps.refl _) (argsL := []) (rest := [(.int 1)]) (lenOf pd__28_29B rfl) rfl (by show 2 * 0 + _ ≤ _; exact Nat.le_of_eq rfl) (hb hby d7_6) (fun _ _ => ⟨rfl, e1, (by decide : 0 + 0 ≤ _), (by decide : 0 + 0 ≤ _)⟩)
  dsimp only [Pt.U, Pt.locs, Pt.cells, Pt.slots] at X3 l3 y3 z3 st3 hQ3
  obtain ⟨rfl, N3q, e3⟩ := hQ3
  obtain ⟨lc3, X3, N3⟩ := own_pack X3 l3 y3 z3 N0 N3q (C := 0) (S' := 0) rfl rfl
  refine own_thr (a := T3.setTop (mkF m 9 #[.val (.ref o0)] [(.int 0), (.int 1)])) (fun t kt => st3.trans kt) ?_
  refine own_thr (a := T3.setTop (mkF m 10 #[.val (.ref o0)] [(.int 1)])) (fun t kt => ?_) ?_
  · show Steps p.tables e below (T3.setTop (mkF m 9 #[.val (.ref o0)] [(.int 0), (.int 1)])) _
    refine XS.ishr X3.here hx rfl (hb hby d7_9) rfl ?_
    exact kt
  exact own_end X3 hlk (v := some (.int 1)) (fun h => by rw [Bd.returns] at h; cases h) (fun fs hr => retI X3 hx Bd.returns (hb hby d7_10) hr) (by rw [e3]; exact ⟨rfl, N3, rfl⟩) (by decide : 0 ≤ _) (by decide : 0 ≤ _)
theorem ef_rmENu2 (m : MethodId) (o0 : Addr)  : entryFrame m #[(.ref o0), (.int 6)] 3 = mkF m 0 #[.val (.ref o0), .val (.int 6), .unset] [] := by first |  (simp [entryFrame, mkF, argsToLocals, Value.category]; done) | rfl
def Q_rmENu2 (Z : State) (o0 : Addr) (vb : Addr) (kb : ClassId) (h0 : Heap) (n0 : Nat) (v : Option Value) (h : Heap) (L : List Loc) : Prop := v = none ∧ Fr n0 L ∧ h = h0
set_option maxRecDepth 65536 in
set_option maxHeartbeats 40000000 in
theorem rmENu2 (l : Launch) (Z : State) (a0 : Array Value) (hw : ∀ d ∈ tables_1, d.before a0 Z = true) (ws : List Jvm.Cond) (o0 : Addr) (vb : Addr) (kb : ClassId) (h0 : Heap) (n0 : Nat) (Z0 : n0 ≤ h0.size) (F_value_o0 : Fld Z h0 o0 "java/lang/AbstractStringBuilder" "value" "[B" (.ref vb)) (F_coder_o0 : Fld Z h0 o0 "java/lang/AbstractStringBuilder" "coder" "B" (.int 0)) (V_vb : Arv Z h0 vb kb .byte (16 : Int32) [(.int 45), (.int 45), (.int 117), (.int 114), (.int 108), (.int 0), (.int 0), (.int 0), (.int 0), (.int 0), (.int 0), (.int 0), (.int 0), (.int 0), (.int 0), (.int 0)] (.int 0)) :
    MetFree l (⟨"java/lang/AbstractStringBuilder", "ensureCapacityInternal", "(I)V"⟩ : MethodName) (head1 (Jvm.Cond.code (⟨"java/lang/AbstractStringBuilder", "ensureCapacityInternal", "(I)V"⟩ : MethodName) jdk_68_method_9_code 3 none :: ws) ({ frames := 0, cells := 0, slots := 0, locals := 0 } : Room)) (fun a U => a = #[(.ref o0), (.int 6)] ∧ Z.Warmed39 U.vm ∧ U.heap = h0) (fun _ _ _ _ _ => True) (fun _ U o U' => ∃ v L, o = .returned v ∧ Q_rmENu2 Z o0 vb kb h0 n0 v U'.heap L ∧ FrameEnd U o U' L ({ frames := 0, cells := 0, slots := 0, locals := 0 } : Room).cells ({ frames := 0, cells := 0, slots := 0, locals := 0 } : Room).slots) := by
  refine MetFree.of_bodySF (plainFor_of_name pn_java_lang_AbstractStringBuilder) hisR ?_
  intro p e s m args below meth c s₁ Bd hml0 hP hK
  obtain ⟨rfl, hZ, hh⟩ := hP
  have hx := Bd.exec
  have hby := Bd.bytes
  have hml : c.maxLocals = 3 := hml0
  have hown : s.vm.findClass "java/lang/AbstractStringBuilder" = some m.cls := findClass_of_methodNamed Bd.named
  have hnm := (name_of_methodNamed Bd.named Bd.method).1
  have hlk := Bd.notSynchronized
  have X0 : Stand p l e ({ frames := 0, cells := 0, slots := 0, locals := 0 } : Room) s m #[(.ref o0), (.int 6)] below meth c s₁ [] 0 0 := Stand.of_body Bd
  have e0 : s₁.heap = h0 := by rw [← hh, Bd.state]; rfl
  have N0 := Fr.nil n0
  show own_G p.tables e below s (Q_rmENu2 Z o0 vb kb h0 n0) ({ frames := 0, cells := 0, slots := 0, locals := 0 } : Room).cells ({ frames := 0, cells := 0, slots := 0, locals := 0 } : Room).slots _
  refine own_thr (a := s₁.setTop (mkF m 0 #[.val (.ref o0), .val (.int 6), .unset] [])) (fun t kt => castTop (ef_rmENu2 m o0) kt) ?_
  refine own_thr (a := s₁.setTop (mkF m 1 #[.val (.ref o0), .val (.int 6), .unset] [(.ref o0)])) (fun t kt => ?_) ?_
  · show Steps p.tables e below (s₁.setTop (mkF m 0 #[.val (.ref o0), .val (.int 6), .unset] [])) _
    refine XS.aloadN X0.here hx rfl (hb hby d9_0) rfl rfl ?_
    exact kt
  obtain ⟨T1, X1, e1, st1⟩ := getF X0 hx hZ hown (host := "") (Or.inl (hw _ (List.mem_of_getElem? (i := 26) rfl))) Via.refl e0 F_value_o0 (g := (mkF m 1 #[.val (.ref o0), .val (.int 6), .unset] [(.ref o0)])) rfl rfl (hb hby d9_1)
  refine own_thr (a := T1.setTop (mkF m 4 #[.val (.ref o0), .val (.int 6), .unset] [(.ref vb)])) (fun t kt => st1 t kt) ?_
  obtain ⟨cl2, Ar2, -, S2, M2, -, -⟩ := id V_vb
  refine own_thr (a := T1.setTop (mkF m 6 #[.val (.ref o0), .val (.int 6), .unset] [(.ref o0), (.int 16)])) (fun t kt => ?_) ?_
  · show Steps p.tables e below (T1.setTop (mkF m 4 #[.val (.ref o0), .val (.int 6), .unset] [(.ref vb)])) _
    refine X1.arraylength hx (by rw [e1]; exact Ar2.1) (State.isArrayOf_alike hZ.alike Ar2.2.1) (g := (mkF m 4 #[.val (.ref o0), .val (.int 6), .unset] [(.ref vb)])) rfl rfl (hb hby d9_4) _ ?_
    rw [len_of S2 M2]
    refine XS.aloadN X1.here hx rfl (hb hby d9_5) rfl rfl ?_
    exact kt
  obtain ⟨T3, X3, e3, st3⟩ := getF X1 hx hZ hown (host := "") (Or.inl (hw _ (List.mem_of_getElem? (i := 28) rfl))) Via.refl e1 F_coder_o0 (g := (mkF m 6 #[.val (.ref o0), .val (.int 6), .unset] [(.ref o0), (.int 16)])) rfl rfl (hb hby d9_6)
  refine own_thr (a := T3.setTop (mkF m 9 #[.val (.ref o0), .val (.int 6), .unset] [(.int 0), (.int 16)])) (fun t kt => st3 t kt) ?_
  refine own_thr (a := T3.setTop (mkF m 38 #[.val (.ref o0), .val (.int 6), .val (.int 16)] [])) (fun t kt => ?_) ?_
  · show Steps p.tables e below (T3.setTop (mkF m 9 #[.val (.ref o0), .val (.int 6), .unset] [(.int 0), (.int 16)])) _
    refine XS.ishr X3.here hx rfl (hb hby d9_9) rfl ?_
    refine XS.istoreN X3.here hx rfl (hb hby d9_10) rfl (l' := #[.val (.ref o0), .val (.int 6), .val (.int 16)]) rfl ?_
    refine XS.iloadN X3.here hx rfl (hb hby d9_11) rfl ?_
    refine XS.iloadN X3.here hx rfl (hb hby d9_12) rfl ?_
    refine XS.isub X3.here hx rfl (hb hby d9_13) rfl ?_
    refine XS.ifYes X3.here hx rfl (pc0 := 14) (pc' := 38) rfl (hb hby d9_14) rfl ((if0 _ _).trans (flt (by decide)).2.2.2) (by decide) (by decide) ?_
    exact kt
  exact own_end X3 hlk (v := none) (fun _ => rfl) (fun fs hr => X3.returnOut hx Bd.returns (hb hby d9_38) hr) (by rw [e3]; exact ⟨rfl, N0, rfl⟩) (by decide : 0 ≤ _) (by decide : 0 ≤ _)
theorem ef_rmGBu2 (m : MethodId) (o0 : Addr) (vb : Addr)  : entryFrame m #[(.ref o0), (.ref vb), (.int 5), (.int 0)] 4 = mkF m 0 #[.val (.ref o0), .val (.ref vb), .val (.int 5), .val (.int 0)] [] := by first |  (simp [entryFrame, mkF, argsToLocals, Value.category]; done) | rfl
def Q_rmGBu2 (Z : State) (o0 : Addr) (vb : Addr) (sv : Addr) (ks : ClassId) (kb : ClassId) (cs : Int32) (h0 : Heap) (n0 : Nat) (v : Option Value) (h : Heap) (L : List Loc) : Prop := v = none ∧ Fr n0 L ∧ Keep h0 h [vb] ∧ Arv Z h vb kb .byte (16 : Int32) [(.int 45), (.int 45), (.int 117), (.int 114), (.int 108), (.int 32), (.int 0), (.int 0), (.int 0), (.int 0), (.int 0), (.int 0), (.int 0), (.int 0), (.int 0), (.int 0)] (.int 0)
set_option maxRecDepth 65536 in
set_option maxHeartbeats 40000000 in
theorem rmGBu2 (l : Launch) (Z : State) (a0 : Array Value) (hw : ∀ d ∈ tables_1, d.before a0 Z = true) (ws : List Jvm.Cond) (o0 : Addr) (vb : Addr) (sv : Addr) (ks : ClassId) (kb : ClassId) (cs : Int32) (h0 : Heap) (n0 : Nat) (Z0 : n0 ≤ h0.size) (E_o0 : Exa Z h0 o0 "java/lang/String") (F_value_o0 : Fld Z h0 o0 "java/lang/String" "value" "[B" (.ref sv)) (F_coder_o0 : Fld Z h0 o0 "java/lang/String" "coder" "B" (.int 0)) (V_sv : Arv Z h0 sv ks .byte (1 : Int32) [(.int 32)] (.int 0)) (V_vb : Arv Z h0 vb kb .byte (16 : Int32) [(.int 45), (.int 45), (.int 117), (.int 114), (.int 108), (.int 0), (.int 0), (.int 0), (.int 0), (.int 0), (.int 0), (.int 0), (.int 0), (.int 0), (.int 0), (.int 0)] (.int 0)) (S_COMPACT_STRINGS : Sta Z h0 "java/lang/String" "COMPACT_STRINGS" "Z" (.int cs)) (g_vb : n0 ≤ vb) (ne_sv_vb : sv ≠ vb) (ne_o0_vb : o0 ≠ vb) (hcs : ¬ cs = (0 : Int32)) :
    MetFree l (⟨"java/lang/String", "getBytes", "([BIB)V"⟩ : MethodName) (head1 (Jvm.Cond.code (⟨"java/lang/String", "getBytes", "([BIB)V"⟩ : MethodName) jdk_42_method_147_code 4 none :: ws) ({ frames := 1, cells := 0, slots := 0, locals := 18 } : Room)) (fun a U => a = #[(.ref o0), (.ref vb), (.int 5), (.int 0)] ∧ Z.Warmed39 U.vm ∧ U.heap = h0) (fun _ _ _ _ _ => True) (fun _ U o U' => ∃ v L, o = .returned v ∧ Q_rmGBu2 Z o0 vb sv ks kb cs h0 n0 v U'.heap L ∧ FrameEnd U o U' L ({ frames := 1, cells := 0, slots := 0, locals := 18 } : Room).cells ({ frames := 1, cells := 0, slots := 0, locals := 18 } : Room).slots) := by
  refine MetFree.of_bodySF (plainFor_of_name pn_java_lang_String) hisR ?_
  intro p e s m args below meth c s₁ Bd hml0 hP hK
  obtain ⟨rfl, hZ, hh⟩ := hP
  have hx := Bd.exec
  have hby := Bd.bytes
  have hml : c.maxLocals = 4 := hml0
  have hown : s.vm.findClass "java/lang/String" = some m.cls := findClass_of_methodNamed Bd.named
  have hnm := (name_of_methodNamed Bd.named Bd.method).1
  have hlk := Bd.notSynchronized
  have X0 : Stand p l e ({ frames := 1, cells := 0, slots := 0, locals := 18 } : Room) s m #[(.ref o0), (.ref vb), (.int 5), (.int 0)] below meth c s₁ [] 0 0 := Stand.of_body Bd
  have e0 : s₁.heap = h0 := by rw [← hh, Bd.state]; rfl
  have N0 := Fr.nil n0
  show own_G p.tables e below s (Q_rmGBu2 Z o0 vb sv ks kb cs h0 n0) ({ frames := 1, cells := 0, slots := 0, locals := 18 } : Room).cells ({ frames := 1, cells := 0, slots := 0, locals := 18 } : Room).slots _
  refine own_thr (a := s₁.setTop (mkF m 0 #[.val (.ref o0), .val (.ref vb), .val (.int 5), .val (.int 0)] [])) (fun t kt => castTop (ef_rmGBu2 m o0 vb) kt) ?_
  refine own_thr (a := s₁.setTop (mkF m 1 #[.val (.ref o0), .val (.ref vb), .val (.int 5), .val (.int 0)] [(.ref o0)])) (fun t kt => ?_) ?_
  · show Steps p.tables e below (s₁.setTop (mkF m 0 #[.val (.ref o0), .val (.ref vb), .val (.int 5), .val (.int 0)] [])) _
    refine XS.aloadN X0.here hx rfl (hb hby d12_0) rfl rfl ?_
    exact kt
  obtain ⟨cq1, kq1, q1a, q1b, q1c⟩ := isOf hZ e0 E_o0
  obtain ⟨_, _, ⟨T1, L1, k1, n1⟩, -, X1, ⟨Lc1, hQ1, l1, y1, z1⟩, st1⟩ := X0.virtualBack hx (y := (⟨"java/lang/String", "coder", "()B"⟩ : MethodName)) (z := (⟨"java/lang/String", "coder", "()B"⟩ : MethodName)) hown (mvT hZ (hw _ (List.mem_of_getElem? (i := 49) rfl))) (mvT hZ (hw _ (List.mem_of_getElem? (i := 50) rfl))) (notFace_of_selects (args := #[]) (mvT hZ (hw _ (List.mem_of_getElem? (i := 52) rfl)))) (mvT hZ (hw _ (List.mem_of_getElem? (i := 52) rfl))) (mvT hZ (hw _ (List.mem_of_getElem? (i := 51) rfl))) (by decide) (backOf (W := 0) (rmCO l Z a0 hw [] o0 cs h0 n0 Z0 F_coder_o0 S_COMPACT_STRINGS hcs) hZ (hw _ (List.mem_of_getElem? (i := 53) rfl)) (hw _ (List.mem_of_getElem? (i := 24) rfl)) (by decide) (by decide)) q1a q1c (g := (mkF m 1 #[.val (.ref o0), .val (.ref vb), .val (.int 5), .val (.int 0)] [(.ref o0)])) rfl (by rw [hml]; rfl) (Steps.refl _) (argsL := []) (rest := []) (lenOf pd__28_29B rfl) rfl (by show 2 * 0 + _ ≤ _; exact Nat.le_of_eq rfl) (hb hby d12_1) (fun _ _ => ⟨rfl, e0, (by decide : 0 + 0 ≤ _), (by decide : 0 + 0 ≤ _)⟩)
  dsimp only [Pt.U, Pt.locs, Pt.cells, Pt.slots] at X1 l1 y1 z1 st1 hQ1
  obtain ⟨rfl, N1q, e1⟩ := hQ1
  obtain ⟨lc1, X1, N1⟩ := own_pack X1 l1 y1 z1 N0 N1q (C := 0) (S' := 0) rfl rfl
  refine own_thr (a := T1.setTop (mkF m 4 #[.val (.ref o0), .val (.ref vb), .val (.int 5), .val (.int 0)] [(.int 0)])) (fun t kt => st1.trans kt) ?_
  refine own_thr (a := T1.setTop (mkF m 9 #[.val (.ref o0), .val (.ref vb), .val (.int 5), .val (.int 0)] [(.ref o0)])) (fun t kt => ?_) ?_
  · show Steps p.tables e below (T1.setTop (mkF m 4 #[.val (.ref o0), .val (.ref vb), .val (.int 5), .val (.int 0)] [(.int 0)])) _
    refine XS.iloadN X1.here hx rfl (hb hby d12_4) rfl ?_
    refine XS.icmpNo X1.here hx rfl (hb hby d12_5) rfl (teq rfl).2 ?_
    refine XS.aloadN X1.here hx rfl (hb hby d12_8) rfl rfl ?_
    exact kt
  obtain ⟨T2, X2, e2, st2⟩ := getF X1 hx hZ hown (host := "") (Or.inl (hw _ (List.mem_of_getElem? (i := 47) rfl))) Via.refl e1 F_value_o0 (g := (mkF m 9 #[.val (.ref o0), .val (.ref vb), .val (.int 5), .val (.int 0)] [(.ref o0)])) rfl rfl (hb hby d12_9)
  refine own_thr (a := T2.setTop (mkF m 12 #[.val (.ref o0), .val (.ref vb), .val (.int 5), .val (.int 0)] [(.ref sv)])) (fun t kt => st2 t kt) ?_
  refine own_thr (a := T2.setTop (mkF m 18 #[.val (.ref o0), .val (.ref vb), .val (.int 5), .val (.int 0)] [(.ref o0), (.int 5), (.ref vb), (.int 0), (.ref sv)])) (fun t kt => ?_) ?_
  · show Steps p.tables e below (T2.setTop (mkF m 12 #[.val (.ref o0), .val (.ref vb), .val (.int 5), .val (.int 0)] [(.ref sv)])) _
    refine XS.iconst X2.here hx rfl (hb hby d12_12) ?_
    refine XS.aloadN X2.here hx rfl (hb hby d12_13) rfl rfl ?_
    refine XS.iloadN X2.here hx rfl (hb hby d12_14) rfl ?_
    refine XS.iloadN X2.here hx rfl (hb hby d12_15) rfl ?_
    refine XS.ishl X2.here hx rfl (hb hby d12_16) rfl ?_
    refine XS.aloadN X2.here hx rfl (hb hby d12_17) rfl rfl ?_
    exact kt
  obtain ⟨T3, X3, e3, st3⟩ := getF X2 hx hZ hown (host := "") (Or.inl (hw _ (List.mem_of_getElem? (i := 47) rfl))) Via.refl e2 F_value_o0 (g := (mkF m 18 #[.val (.ref o0), .val (.ref vb), .val (.int 5), .val (.int 0)] [(.ref o0), (.int 5), (.ref vb), (.int 0), (.ref sv)])) rfl rfl (hb hby d12_18)
  refine own_thr (a := T3.setTop (mkF m 21 #[.val (.ref o0), .val (.ref vb), .val (.int 5), .val (.int 0)] [(.ref sv), (.int 5), (.ref vb), (.int 0), (.ref sv)])) (fun t kt => st3 t kt) ?_
  obtain ⟨cl4, Ar4, -, S4, M4, -, -⟩ := id V_sv
  refine own_thr (a := T3.setTop (mkF m 22 #[.val (.ref o0), .val (.ref vb), .val (.int 5), .val (.int 0)] [(.int 1), (.int 5), (.ref vb), (.int 0), (.ref sv)])) (fun t kt => ?_) ?_
  · show Steps p.tables e below (T3.setTop (mkF m 21 #[.val (.ref o0), .val (.ref vb), .val (.int 5), .val (.int 0)] [(.ref sv), (.int 5), (.ref vb), (.int 0), (.ref sv)])) _
    refine X3.arraylength hx (by rw [e3]; exact Ar4.1) (State.isArrayOf_alike hZ.alike Ar4.2.1) (g := (mkF m 21 #[.val (.ref o0), .val (.ref vb), .val (.int 5), .val (.int 0)] [(.ref sv), (.int 5), (.ref vb), (.int 0), (.ref sv)])) rfl rfl (hb hby d12_21) _ ?_
    rw [len_of S4 M4]
    exact kt
  obtain ⟨T5, h5, L5, X5, e5, N5, K5, V5, st5⟩ := cpA X3 hx hZ hown (hw _ (List.mem_of_getElem? (i := 80) rfl)) (hw _ (List.mem_of_getElem? (i := 83) rfl)) (hw _ (List.mem_of_getElem? (i := 81) rfl)) (hw _ (List.mem_of_getElem? (i := 82) rfl)) e3 V_sv V_vb (Or.inl ⟨rfl, rfl⟩) (sp := (0 : Int32)) (dp := (5 : Int32)) (nn := (1 : Int32)) (by decide) (by decide) (by decide) (by decide) (by decide) (us := [(.int 32)]) rfl (by decide) N1 g_vb (g := (mkF m 22 #[.val (.ref o0), .val (.ref vb), .val (.int 5), .val (.int 0)] [(.int 1), (.int 5), (.ref vb), (.int 0), (.ref sv)])) rfl (by rw [hml]; rfl) rfl (hb hby d12_22) (by decide) (W := 0) (by show 2 * 0 + _ ≤ _; exact Nat.le_of_eq rfl) (by decide)
  have Z6 : n0 ≤ h5.size := Nat.le_trans Z0 K5.1
  have Z6h : h0.size ≤ h5.size := Nat.le_trans (Nat.le_refl h0.size) K5.1
  have Vl5 : Arv Z h5 vb kb .byte (16 : Int32) [(.int 45), (.int 45), (.int 117), (.int 114), (.int 108), (.int 32), (.int 0), (.int 0), (.int 0), (.int 0), (.int 0), (.int 0), (.int 0), (.int 0), (.int 0), (.int 0)] (.int 0) := V5
  refine own_thr (a := T5.setTop (mkF m 25 #[.val (.ref o0), .val (.ref vb), .val (.int 5), .val (.int 0)] [])) (fun t kt => st5 t kt) ?_
  refine own_thr (a := T5.setTop (mkF m 43 #[.val (.ref o0), .val (.ref vb), .val (.int 5), .val (.int 0)] [])) (fun t kt => ?_) ?_
  · show Steps p.tables e below (T5.setTop (mkF m 25 #[.val (.ref o0), .val (.ref vb), .val (.int 5), .val (.int 0)] [])) _
    refine XS.goto X5.here hx rfl (pc0 := 25) (pc' := 43) rfl (hb hby d12_25) (by decide) (by decide) ?_
    exact kt
  exact own_end X5 hlk (v := none) (fun _ => rfl) (fun fs hr => X5.returnOut hx Bd.returns (hb hby d12_43) hr) (by rw [e5]; exact ⟨rfl, N5, ((Keep.refl h0 [vb]).trans K5 (allS (Or.inl (List.mem_of_getElem? (i := 0) rfl)) all0)), Vl5⟩) (by decide : 0 ≤ _) (by decide : 0 ≤ _)
theorem ef_rmPSu2 (m : MethodId) (o0 : Addr) (o2 : Addr)  : entryFrame m #[(.ref o0), (.int 5), (.ref o2)] 3 = mkF m 0 #[.val (.ref o0), .val (.int 5), .val (.ref o2)] [] := by first |  (simp [entryFrame, mkF, argsToLocals, Value.category]; done) | rfl
def Q_rmPSu2 (Z : State) (o0 : Addr) (o2 : Addr) (vb : Addr) (kb : ClassId) (sv : Addr) (ks : ClassId) (cs : Int32) (h0 : Heap) (n0 : Nat) (v : Option Value) (h : Heap) (L : List Loc) : Prop := v = none ∧ Fr n0 L ∧ Keep h0 h [vb] ∧ Arv Z h vb kb .byte (16 : Int32) [(.int 45), (.int 45), (.int 117), (.int 114), (.int 108), (.int 32), (.int 0), (.int 0), (.int 0), (.int 0), (.int 0), (.int 0), (.int 0), (.int 0), (.int 0), (.int 0)] (.int 0)
set_option maxRecDepth 65536 in
set_option maxHeartbeats 40000000 in
theorem rmPSu2 (l : Launch) (Z : State) (a0 : Array Value) (hw : ∀ d ∈ tables_1, d.before a0 Z = true) (ws : List Jvm.Cond) (o0 : Addr) (o2 : Addr) (vb : Addr) (kb : ClassId) (sv : Addr) (ks : ClassId) (cs : Int32) (h0 : Heap) (n0 : Nat) (Z0 : n0 ≤ h0.size) (E_o0 : Exa Z h0 o0 "java/lang/StringBuilder") (F_value_o0 : Fld Z h0 o0 "java/lang/AbstractStringBuilder" "value" "[B" (.ref vb)) (F_coder_o0 : Fld Z h0 o0 "java/lang/AbstractStringBuilder" "coder" "B" (.int 0)) (F_count_o0 : Fld Z h0 o0 "java/lang/AbstractStringBuilder" "count" "I" (.int 5)) (E_o2 : Exa Z h0 o2 "java/lang/String") (F_value_o2 : Fld Z h0 o2 "java/lang/String" "value" "[B" (.ref sv)) (F_coder_o2 : Fld Z h0 o2 "java/lang/String" "coder" "B" (.int 0)) (V_vb : Arv Z h0 vb kb .byte (16 : Int32) [(.int 45), (.int 45), (.int 117), (.int 114), (.int 108), (.int 0), (.int 0), (.int 0), (.int 0), (.int 0), (.int 0), (.int 0), (.int 0), (.int 0), (.int 0), (.int 0)] (.int 0)) (V_sv : Arv Z h0 sv ks .byte (1 : Int32) [(.int 32)] (.int 0)) (S_COMPACT_STRINGS : Sta Z h0 "java/lang/String" "COMPACT_STRINGS" "Z" (.int cs)) (g_vb : n0 ≤ vb) (ne_o0_vb : o0 ≠ vb) (ne_sv_vb : sv ≠ vb) (ne_o2_vb : o2 ≠ vb) (ne_o2_o0 : o2 ≠ o0) (ne_sv_o0 : sv ≠ o0) (hcs : ¬ cs = (0 : Int32)) :
    MetFree l (⟨"java/lang/AbstractStringBuilder", "putStringAt", "(ILjava/lang/String;)V"⟩ : MethodName) (head1 (Jvm.Cond.code (⟨"java/lang/AbstractStringBuilder", "putStringAt", "(ILjava/lang/String;)V"⟩ : MethodName) jdk_68_method_73_code 3 none :: ws) ({ frames := 2, cells := 0, slots := 0, locals := 33 } : Room)) (fun a U => a = #[(.ref o0), (.int 5), (.ref o2)] ∧ Z.Warmed39 U.vm ∧ U.heap = h0) (fun _ _ _ _ _ => True) (fun _ U o U' => ∃ v L, o = .returned v ∧ Q_rmPSu2 Z o0 o2 vb kb sv ks cs h0 n0 v U'.heap L ∧ FrameEnd U o U' L ({ frames := 2, cells := 0, slots := 0, locals := 33 } : Room).cells ({ frames := 2, cells := 0, slots := 0, locals := 33 } : Room).slots) := by
  refine MetFree.of_bodySF (plainFor_of_name pn_java_lang_AbstractStringBuilder) hisR ?_
  intro p e s m args below meth c s₁ Bd hml0 hP hK
  obtain ⟨rfl, hZ, hh⟩ := hP
  have hx := Bd.exec
  have hby := Bd.bytes
  have hml : c.maxLocals = 3 := hml0
  have hown : s.vm.findClass "java/lang/AbstractStringBuilder" = some m.cls := findClass_of_methodNamed Bd.named
  have hnm := (name_of_methodNamed Bd.named Bd.method).1
  have hlk := Bd.notSynchronized
  have X0 : Stand p l e ({ frames := 2, cells := 0, slots := 0, locals := 33 } : Room) s m #[(.ref o0), (.int 5), (.ref o2)] below meth c s₁ [] 0 0 := Stand.of_body Bd
  have e0 : s₁.heap = h0 := by rw [← hh, Bd.state]; rfl
  have N0 := Fr.nil n0
  show own_G p.tables e below s (Q_rmPSu2 Z o0 o2 vb kb sv ks cs h0 n0) ({ frames := 2, cells := 0, slots := 0, locals := 33 } : Room).cells ({ frames := 2, cells := 0, slots := 0, locals := 33 } : Room).slots _
  refine own_thr (a := s₁.setTop (mkF m 0 #[.val (.ref o0), .val (.int 5), .val (.ref o2)] [])) (fun t kt => castTop (ef_rmPSu2 m o0 o2) kt) ?_
  refine own_thr (a := s₁.setTop (mkF m 2 #[.val (.ref o0), .val (.int 5), .val (.ref o2)] [(.ref o2), (.ref o0)])) (fun t kt => ?_) ?_
  · show Steps p.tables e below (s₁.setTop (mkF m 0 #[.val (.ref o0), .val (.int 5), .val (.ref o2)] [])) _
    refine XS.aloadN X0.here hx rfl (hb hby d10_0) rfl rfl ?_
    refine XS.aloadN X0.here hx rfl (hb hby d10_1) rfl rfl ?_
    exact kt
  obtain ⟨cq1, q1, q1'⟩ := E_o0.cell
  obtain ⟨_, _, ⟨T1, L1, k1, n1⟩, -, X1, ⟨Lc1, hQ1, l1, y1, z1⟩, st1⟩ := X0.privateBack hx (y := (⟨"java/lang/AbstractStringBuilder", "inflateIfNeededFor", "(Ljava/lang/String;)V"⟩ : MethodName)) hown (mvT hZ (hw _ (List.mem_of_getElem? (i := 69) rfl))) (mvT hZ (hw _ (List.mem_of_getElem? (i := 70) rfl))) (own_selp hZ (hw _ (List.mem_of_getElem? (i := 72) rfl)) (hw _ (List.mem_of_getElem? (i := 71) rfl)) (hw _ (List.mem_of_getElem? (i := 70) rfl)) (by decide)) (Cond.privateMethod_at (mvP hZ (hw _ (List.mem_of_getElem? (i := 71) rfl)) (args := #[]))) (mvT hZ (hw _ (List.mem_of_getElem? (i := 73) rfl))) (by decide) (backOf (W := 0) (rmIN l Z a0 hw [] o0 o2 cs h0 n0 Z0 F_coder_o0 E_o2 F_coder_o2 S_COMPACT_STRINGS hcs) hZ (hw _ (List.mem_of_getElem? (i := 73) rfl)) (hw _ (List.mem_of_getElem? (i := 18) rfl)) (by decide) (by decide)) (g := (mkF m 2 #[.val (.ref o0), .val (.int 5), .val (.ref o2)] [(.ref o2), (.ref o0)])) rfl (by rw [hml]; rfl) (Steps.refl _) (a := o0) (by rw [e0]; exact q1) q1' (argsL := [(.ref o2)]) (rest := []) (lenOf pd__28Ljava_2flang_2fString_3b_29V rfl) rfl (by show 2 * 0 + _ ≤ _; exact Nat.le_of_eq rfl) (hb hby d10_2) (fun _ _ => ⟨rfl, e0, (by decide : 0 + 0 ≤ _), (by decide : 0 + 0 ≤ _)⟩)
  dsimp only [Pt.U, Pt.locs, Pt.cells, Pt.slots] at X1 l1 y1 z1 st1 hQ1
  obtain ⟨rfl, N1q, e1⟩ := hQ1
  obtain ⟨lc1, X1, N1⟩ := own_pack X1 l1 y1 z1 N0 N1q (C := 0) (S' := 0) rfl rfl
  refine own_thr (a := T1.setTop (mkF m 5 #[.val (.ref o0), .val (.int 5), .val (.ref o2)] [])) (fun t kt => st1.trans kt) ?_
  refine own_thr (a := T1.setTop (mkF m 7 #[.val (.ref o0), .val (.int 5), .val (.ref o2)] [(.ref o0), (.ref o2)])) (fun t kt => ?_) ?_
  · show Steps p.tables e below (T1.setTop (mkF m 5 #[.val (.ref o0), .val (.int 5), .val (.ref o2)] [])) _
    refine XS.aloadN X1.here hx rfl (hb hby d10_5) rfl rfl ?_
    refine XS.aloadN X1.here hx rfl (hb hby d10_6) rfl rfl ?_
    exact kt
  obtain ⟨T2, X2, e2, st2⟩ := getF X1 hx hZ hown (host := "") (Or.inl (hw _ (List.mem_of_getElem? (i := 26) rfl))) Via.refl e1 F_value_o0 (g := (mkF m 7 #[.val (.ref o0), .val (.int 5), .val (.ref o2)] [(.ref o0), (.ref o2)])) rfl rfl (hb hby d10_7)
  refine own_thr (a := T2.setTop (mkF m 10 #[.val (.ref o0), .val (.int 5), .val (.ref o2)] [(.ref vb), (.ref o2)])) (fun t kt => st2 t kt) ?_
  refine own_thr (a := T2.setTop (mkF m 12 #[.val (.ref o0), .val (.int 5), .val (.ref o2)] [(.ref o0), (.int 5), (.ref vb), (.ref o2)])) (fun t kt => ?_) ?_
  · show Steps p.tables e below (T2.setTop (mkF m 10 #[.val (.ref o0), .val (.int 5), .val (.ref o2)] [(.ref vb), (.ref o2)])) _
    refine XS.iloadN X2.here hx rfl (hb hby d10_10) rfl ?_
    refine XS.aloadN X2.here hx rfl (hb hby d10_11) rfl rfl ?_
    exact kt
  obtain ⟨T3, X3, e3, st3⟩ := getF X2 hx hZ hown (host := "") (Or.inl (hw _ (List.mem_of_getElem? (i := 28) rfl))) Via.refl e2 F_coder_o0 (g := (mkF m 12 #[.val (.ref o0), .val (.int 5), .val (.ref o2)] [(.ref o0), (.int 5), (.ref vb), (.ref o2)])) rfl rfl (hb hby d10_12)
  refine own_thr (a := T3.setTop (mkF m 15 #[.val (.ref o0), .val (.int 5), .val (.ref o2)] [(.int 0), (.int 5), (.ref vb), (.ref o2)])) (fun t kt => st3 t kt) ?_
  obtain ⟨cq4, kq4, q4a, q4b, q4c⟩ := isOf hZ e3 E_o2
  obtain ⟨_, _, ⟨T4, L4, k4, n4⟩, -, X4, ⟨Lc4, hQ4, l4, y4, z4⟩, st4⟩ := X3.virtualBack hx (y := (⟨"java/lang/String", "getBytes", "([BIB)V"⟩ : MethodName)) (z := (⟨"java/lang/String", "getBytes", "([BIB)V"⟩ : MethodName)) hown (mvT hZ (hw _ (List.mem_of_getElem? (i := 75) rfl))) (mvT hZ (hw _ (List.mem_of_getElem? (i := 76) rfl))) (notFace_of_selects (args := #[]) (mvT hZ (hw _ (List.mem_of_getElem? (i := 78) rfl)))) (mvT hZ (hw _ (List.mem_of_getElem? (i := 78) rfl))) (mvT hZ (hw _ (List.mem_of_getElem? (i := 77) rfl))) (by decide) (backOf (W := 0) (rmGBu2 l Z a0 hw [] o2 vb sv ks kb cs h0 n0 Z0 E_o2 F_value_o2 F_coder_o2 V_sv V_vb S_COMPACT_STRINGS g_vb ne_sv_vb ne_o2_vb hcs) hZ (hw _ (List.mem_of_getElem? (i := 79) rfl)) (hw _ (List.mem_of_getElem? (i := 24) rfl)) (by decide) (by decide)) q4a q4c (g := (mkF m 15 #[.val (.ref o0), .val (.int 5), .val (.ref o2)] [(.int 0), (.int 5), (.ref vb), (.ref o2)])) rfl (by rw [hml]; rfl) (Steps.refl _) (argsL := [(.ref vb), (.int 5), (.int 0)]) (rest := []) (lenOf pd__28_5bBIB_29V rfl) rfl (by show 2 * 0 + _ ≤ _; exact Nat.le_of_eq rfl) (hb hby d10_15) (fun _ _ => ⟨rfl, e3, (by decide : 0 + 0 ≤ _), (by decide : 0 + 0 ≤ _)⟩)
  dsimp only [Pt.U, Pt.locs, Pt.cells, Pt.slots] at X4 l4 y4 z4 st4 hQ4
  obtain ⟨rfl, N4q, K4, o4_0⟩ := hQ4
  have Z5 : n0 ≤ T4.heap.size := Nat.le_trans Z0 K4.1
  have Z5h : h0.size ≤ T4.heap.size := Nat.le_trans (Nat.le_refl h0.size) K4.1
  obtain ⟨lc4, X4, N4⟩ := own_pack X4 l4 y4 z4 N1 N4q (C := 0) (S' := 0) rfl rfl
  refine own_thr (a := T4.setTop (mkF m 18 #[.val (.ref o0), .val (.int 5), .val (.ref o2)] [])) (fun t kt => st4.trans kt) ?_
  exact own_end X4 hlk (v := none) (fun _ => rfl) (fun fs hr => X4.returnOut hx Bd.returns (hb hby d10_18) hr) ⟨rfl, N4, ((Keep.refl h0 [vb]).trans K4 (allS (Or.inl (List.mem_of_getElem? (i := 0) rfl)) all0)), o4_0⟩ (by decide : 0 ≤ _) (by decide : 0 ≤ _)
theorem ef_rmAAu2 (m : MethodId) (o0 : Addr) (o1 : Addr)  : entryFrame m #[(.ref o0), (.ref o1)] 3 = mkF m 0 #[.val (.ref o0), .val (.ref o1), .unset] [] := by first |  (simp [entryFrame, mkF, argsToLocals, Value.category]; done) | rfl
def Q_rmAAu2 (Z : State) (o0 : Addr) (o1 : Addr) (vb : Addr) (kb : ClassId) (sv : Addr) (ks : ClassId) (cs : Int32) (h0 : Heap) (n0 : Nat) (v : Option Value) (h : Heap) (L : List Loc) : Prop := v = some (.ref o0) ∧ Fr n0 L ∧ Keep h0 h [o0, vb] ∧ Exa Z h o0 "java/lang/StringBuilder" ∧ Fld Z h o0 "java/lang/AbstractStringBuilder" "value" "[B" (.ref vb) ∧ Fld Z h o0 "java/lang/AbstractStringBuilder" "coder" "B" (.int 0) ∧ Fld Z h o0 "java/lang/AbstractStringBuilder" "count" "I" (.int 6) ∧ Arv Z h vb kb .byte (16 : Int32) [(.int 45), (.int 45), (.int 117), (.int 114), (.int 108), (.int 32), (.int 0), (.int 0), (.int 0), (.int 0), (.int 0), (.int 0), (.int 0), (.int 0), (.int 0), (.int 0)] (.int 0)
set_option maxRecDepth 65536 in
set_option maxHeartbeats 40000000 in
theorem rmAAu2 (l : Launch) (Z : State) (a0 : Array Value) (hw : ∀ d ∈ tables_1, d.before a0 Z = true) (ws : List Jvm.Cond) (o0 : Addr) (o1 : Addr) (vb : Addr) (kb : ClassId) (sv : Addr) (ks : ClassId) (cs : Int32) (h0 : Heap) (n0 : Nat) (Z0 : n0 ≤ h0.size) (E_o0 : Exa Z h0 o0 "java/lang/StringBuilder") (F_value_o0 : Fld Z h0 o0 "java/lang/AbstractStringBuilder" "value" "[B" (.ref vb)) (F_coder_o0 : Fld Z h0 o0 "java/lang/AbstractStringBuilder" "coder" "B" (.int 0)) (F_count_o0 : Fld Z h0 o0 "java/lang/AbstractStringBuilder" "count" "I" (.int 5)) (E_o1 : Exa Z h0 o1 "java/lang/String") (F_value_o1 : Fld Z h0 o1 "java/lang/String" "value" "[B" (.ref sv)) (F_coder_o1 : Fld Z h0 o1 "java/lang/String" "coder" "B" (.int 0)) (V_vb : Arv Z h0 vb kb .byte (16 : Int32) [(.int 45), (.int 45), (.int 117), (.int 114), (.int 108), (.int 0), (.int 0), (.int 0), (.int 0), (.int 0), (.int 0), (.int 0), (.int 0), (.int 0), (.int 0), (.int 0)] (.int 0)) (V_sv : Arv Z h0 sv ks .byte (1 : Int32) [(.int 32)] (.int 0)) (S_COMPACT_STRINGS : Sta Z h0 "java/lang/String" "COMPACT_STRINGS" "Z" (.int cs)) (g_o0 : n0 ≤ o0) (g_vb : n0 ≤ vb) (ne_o0_vb : o0 ≠ vb) (ne_sv_vb : sv ≠ vb) (ne_o1_vb : o1 ≠ vb) (ne_o1_o0 : o1 ≠ o0) (ne_sv_o0 : sv ≠ o0) (hcs : ¬ cs = (0 : Int32)) :
    MetFree l (⟨"java/lang/AbstractStringBuilder", "append", "(Ljava/lang/String;)Ljava/lang/AbstractStringBuilder;"⟩ : MethodName) (head1 (Jvm.Cond.code (⟨"java/lang/AbstractStringBuilder", "append", "(Ljava/lang/String;)Ljava/lang/AbstractStringBuilder;"⟩ : MethodName) jdk_68_method_22_code 3 (some (.object "java/lang/AbstractStringBuilder")) :: ws) ({ frames := 3, cells := 0, slots := 0, locals := 47 } : Room)) (fun a U => a = #[(.ref o0), (.ref o1)] ∧ Z.Warmed39 U.vm ∧ U.heap = h0) (fun _ _ _ _ _ => True) (fun _ U o U' => ∃ v L, o = .returned v ∧ Q_rmAAu2 Z o0 o1 vb kb sv ks cs h0 n0 v U'.heap L ∧ FrameEnd U o U' L ({ frames := 3, cells := 0, slots := 0, locals := 47 } : Room).cells ({ frames := 3, cells := 0, slots := 0, locals := 47 } : Room).slots) := by
  refine MetFree.of_bodySF (plainFor_of_name pn_java_lang_AbstractStringBuilder) hisR ?_
  intro p e s m args below meth c s₁ Bd hml0 hP hK
  obtain ⟨rfl, hZ, hh⟩ := hP
  have hx := Bd.exec
  have hby := Bd.bytes
  have hml : c.maxLocals = 3 := hml0
  have hown : s.vm.findClass "java/lang/AbstractStringBuilder" = some m.cls := findClass_of_methodNamed Bd.named
  have hnm := (name_of_methodNamed Bd.named Bd.method).1
  have hlk := Bd.notSynchronized
  have X0 : Stand p l e ({ frames := 3, cells := 0, slots := 0, locals := 47 } : Room) s m #[(.ref o0), (.ref o1)] below meth c s₁ [] 0 0 := Stand.of_body Bd
  have e0 : s₁.heap = h0 := by rw [← hh, Bd.state]; rfl
  have N0 := Fr.nil n0
  show own_G p.tables e below s (Q_rmAAu2 Z o0 o1 vb kb sv ks cs h0 n0) ({ frames := 3, cells := 0, slots := 0, locals := 47 } : Room).cells ({ frames := 3, cells := 0, slots := 0, locals := 47 } : Room).slots _
  refine own_thr (a := s₁.setTop (mkF m 0 #[.val (.ref o0), .val (.ref o1), .unset] [])) (fun t kt => castTop (ef_rmAAu2 m o0 o1) kt) ?_
  refine own_thr (a := s₁.setTop (mkF m 10 #[.val (.ref o0), .val (.ref o1), .unset] [(.ref o1)])) (fun t kt => ?_) ?_
  · show Steps p.tables e below (s₁.setTop (mkF m 0 #[.val (.ref o0), .val (.ref o1), .unset] [])) _
    refine XS.aloadN X0.here hx rfl (hb hby d6_0) rfl rfl ?_
    refine XS.ifnonnullYes X0.here hx rfl (pc0 := 1) (pc' := 9) rfl (hb hby d6_1) rfl (by decide) (by decide) ?_
    refine XS.aloadN X0.here hx rfl (hb hby d6_9) rfl rfl ?_
    exact kt
  obtain ⟨cq1, kq1, q1a, q1b, q1c⟩ := isOf hZ e0 E_o1
  obtain ⟨_, _, ⟨T1, L1, k1, n1⟩, -, X1, ⟨Lc1, hQ1, l1, y1, z1⟩, st1⟩ := X0.virtualBack hx (y := (⟨"java/lang/String", "length", "()I"⟩ : MethodName)) (z := (⟨"java/lang/String", "length", "()I"⟩ : MethodName)) hown (mvT hZ (hw _ (List.mem_of_getElem? (i := 42) rfl))) (mvT hZ (hw _ (List.mem_of_getElem? (i := 43) rfl))) (notFace_of_selects (args := #[]) (mvT hZ (hw _ (List.mem_of_getElem? (i := 45) rfl)))) (mvT hZ (hw _ (List.mem_of_getElem? (i := 45) rfl))) (mvT hZ (hw _ (List.mem_of_getElem? (i := 44) rfl))) (by decide) (backOf (W := 0) (rmLNu2 l Z a0 hw [] o1 sv ks cs h0 n0 Z0 E_o1 F_value_o1 F_coder_o1 V_sv S_COMPACT_STRINGS hcs) hZ (hw _ (List.mem_of_getElem? (i := 46) rfl)) (hw _ (List.mem_of_getElem? (i := 24) rfl)) (by decide) (by decide)) q1a q1c (g := (mkF m 10 #[.val (.ref o0), .val (.ref o1), .unset] [(.ref o1)])) rfl (by rw [hml]; rfl) (Steps.refl _) (argsL := []) (rest := []) (lenOf pd__28_29I rfl) rfl (by show 2 * 0 + _ ≤ _; exact Nat.le_of_eq rfl) (hb hby d6_10) (fun _ _ => ⟨rfl, e0, (by decide : 0 + 0 ≤ _), (by decide : 0 + 0 ≤ _)⟩)
  dsimp only [Pt.U, Pt.locs, Pt.cells, Pt.slots] at X1 l1 y1 z1 st1 hQ1
  obtain ⟨rfl, N1q, e1⟩ := hQ1
  obtain ⟨lc1, X1, N1⟩ := own_pack X1 l1 y1 z1 N0 N1q (C := 0) (S' := 0) rfl rfl
  refine own_thr (a := T1.setTop (mkF m 13 #[.val (.ref o0), .val (.ref o1), .unset] [(.int 1)])) (fun t kt => st1.trans kt) ?_
  refine own_thr (a := T1.setTop (mkF m 16 #[.val (.ref o0), .val (.ref o1), .val (.int 1)] [(.ref o0), (.ref o0)])) (fun t kt => ?_) ?_
  · show Steps p.tables e below (T1.setTop (mkF m 13 #[.val (.ref o0), .val (.ref o1), .unset] [(.int 1)])) _
    refine XS.istoreN X1.here hx rfl (hb hby d6_13) rfl (l' := #[.val (.ref o0), .val (.ref o1), .val (.int 1)]) rfl ?_
    refine XS.aloadN X1.here hx rfl (hb hby d6_14) rfl rfl ?_
    refine XS.aloadN X1.here hx rfl (hb hby d6_15) rfl rfl ?_
    exact kt
  obtain ⟨T2, X2, e2, st2⟩ := getF X1 hx hZ hown (host := "") (Or.inl (hw _ (List.mem_of_getElem? (i := 57) rfl))) Via.refl e1 F_count_o0 (g := (mkF m 16 #[.val (.ref o0), .val (.ref o1), .val (.int 1)] [(.ref o0), (.ref o0)])) rfl rfl (hb hby d6_16)
  refine own_thr (a := T2.setTop (mkF m 19 #[.val (.ref o0), .val (.ref o1), .val (.int 1)] [(.int 5), (.ref o0)])) (fun t kt => st2 t kt) ?_
  refine own_thr (a := T2.setTop (mkF m 21 #[.val (.ref o0), .val (.ref o1), .val (.int 1)] [(.int 6), (.ref o0)])) (fun t kt => ?_) ?_
  · show Steps p.tables e below (T2.setTop (mkF m 19 #[.val (.ref o0), .val (.ref o1), .val (.int 1)] [(.int 5), (.ref o0)])) _
    refine XS.iloadN X2.here hx rfl (hb hby d6_19) rfl ?_
    refine XS.iadd X2.here hx rfl (hb hby d6_20) rfl ?_
    exact kt
  obtain ⟨cq3, q3, q3'⟩ := E_o0.cell
  obtain ⟨_, _, ⟨T3, L3, k3, n3⟩, -, X3, ⟨Lc3, hQ3, l3, y3, z3⟩, st3⟩ := X2.privateBack hx (y := (⟨"java/lang/AbstractStringBuilder", "ensureCapacityInternal", "(I)V"⟩ : MethodName)) hown (mvT hZ (hw _ (List.mem_of_getElem? (i := 59) rfl))) (mvT hZ (hw _ (List.mem_of_getElem? (i := 60) rfl))) (own_selp hZ (hw _ (List.mem_of_getElem? (i := 62) rfl)) (hw _ (List.mem_of_getElem? (i := 61) rfl)) (hw _ (List.mem_of_getElem? (i := 60) rfl)) (by decide)) (Cond.privateMethod_at (mvP hZ (hw _ (List.mem_of_getElem? (i := 61) rfl)) (args := #[]))) (mvT hZ (hw _ (List.mem_of_getElem? (i := 63) rfl))) (by decide) (backOf (W := 0) (rmENu2 l Z a0 hw [] o0 vb kb h0 n0 Z0 F_value_o0 F_coder_o0 V_vb) hZ (hw _ (List.mem_of_getElem? (i := 63) rfl)) (hw _ (List.mem_of_getElem? (i := 18) rfl)) (by decide) (by decide)) (g := (mkF m 21 #[.val (.ref o0), .val (.ref o1), .val (.int 1)] [(.int 6), (.ref o0)])) rfl (by rw [hml]; rfl) (Steps.refl _) (a := o0) (by rw [e2]; exact q3) q3' (argsL := [(.int 6)]) (rest := []) (lenOf pd__28I_29V rfl) rfl (by show 2 * 0 + _ ≤ _; exact Nat.le_of_eq rfl) (hb hby d6_21) (fun _ _ => ⟨rfl, e2, (by decide : 0 + 0 ≤ _), (by decide : 0 + 0 ≤ _)⟩)
  dsimp only [Pt.U, Pt.locs, Pt.cells, Pt.slots] at X3 l3 y3 z3 st3 hQ3
  obtain ⟨rfl, N3q, e3⟩ := hQ3
  obtain ⟨lc3, X3, N3⟩ := own_pack X3 l3 y3 z3 N1 N3q (C := 0) (S' := 0) rfl rfl
  refine own_thr (a := T3.setTop (mkF m 24 #[.val (.ref o0), .val (.ref o1), .val (.int 1)] [])) (fun t kt => st3.trans kt) ?_
  refine own_thr (a := T3.setTop (mkF m 26 #[.val (.ref o0), .val (.ref o1), .val (.int 1)] [(.ref o0), (.ref o0)])) (fun t kt => ?_) ?_
  · show Steps p.tables e below (T3.setTop (mkF m 24 #[.val (.ref o0), .val (.ref o1), .val (.int 1)] [])) _
    refine XS.aloadN X3.here hx rfl (hb hby d6_24) rfl rfl ?_
    refine XS.aloadN X3.here hx rfl (hb hby d6_25) rfl rfl ?_
    exact kt
  obtain ⟨T4, X4, e4, st4⟩ := getF X3 hx hZ hown (host := "") (Or.inl (hw _ (List.mem_of_getElem? (i := 57) rfl))) Via.refl e3 F_count_o0 (g := (mkF m 26 #[.val (.ref o0), .val (.ref o1), .val (.int 1)] [(.ref o0), (.ref o0)])) rfl rfl (hb hby d6_26)
  refine own_thr (a := T4.setTop (mkF m 29 #[.val (.ref o0), .val (.ref o1), .val (.int 1)] [(.int 5), (.ref o0)])) (fun t kt => st4 t kt) ?_
  refine own_thr (a := T4.setTop (mkF m 30 #[.val (.ref o0), .val (.ref o1), .val (.int 1)] [(.ref o1), (.int 5), (.ref o0)])) (fun t kt => ?_) ?_
  · show Steps p.tables e below (T4.setTop (mkF m 29 #[.val (.ref o0), .val (.ref o1), .val (.int 1)] [(.int 5), (.ref o0)])) _
    refine XS.aloadN X4.here hx rfl (hb hby d6_29) rfl rfl ?_
    exact kt
  obtain ⟨cq5, q5, q5'⟩ := E_o0.cell
  obtain ⟨_, _, ⟨T5, L5, k5, n5⟩, -, X5, ⟨Lc5, hQ5, l5, y5, z5⟩, st5⟩ := X4.privateBack hx (y := (⟨"java/lang/AbstractStringBuilder", "putStringAt", "(ILjava/lang/String;)V"⟩ : MethodName)) hown (mvT hZ (hw _ (List.mem_of_getElem? (i := 64) rfl))) (mvT hZ (hw _ (List.mem_of_getElem? (i := 65) rfl))) (own_selp hZ (hw _ (List.mem_of_getElem? (i := 67) rfl)) (hw _ (List.mem_of_getElem? (i := 66) rfl)) (hw _ (List.mem_of_getElem? (i := 65) rfl)) (by decide)) (Cond.privateMethod_at (mvP hZ (hw _ (List.mem_of_getElem? (i := 66) rfl)) (args := #[]))) (mvT hZ (hw _ (List.mem_of_getElem? (i := 68) rfl))) (by decide) (backOf (W := 0) (rmPSu2 l Z a0 hw [] o0 o1 vb kb sv ks cs h0 n0 Z0 E_o0 F_value_o0 F_coder_o0 F_count_o0 E_o1 F_value_o1 F_coder_o1 V_vb V_sv S_COMPACT_STRINGS g_vb ne_o0_vb ne_sv_vb ne_o1_vb ne_o1_o0 ne_sv_o0 hcs) hZ (hw _ (List.mem_of_getElem? (i := 68) rfl)) (hw _ (List.mem_of_getElem? (i := 18) rfl)) (by decide) (by decide)) (g := (mkF m 30 #[.val (.ref o0), .val (.ref o1), .val (.int 1)] [(.ref o1), (.int 5), (.ref o0)])) rfl (by rw [hml]; rfl) (Steps.refl _) (a := o0) (by rw [e4]; exact q5) q5' (argsL := [(.int 5), (.ref o1)]) (rest := []) (lenOf pd__28ILjava_2flang_2fString_3b_29V rfl) rfl (by show 2 * 0 + _ ≤ _; exact Nat.le_of_eq rfl) (hb hby d6_30) (fun _ _ => ⟨rfl, e4, (by decide : 0 + 0 ≤ _), (by decide : 0 + 0 ≤ _)⟩)
  dsimp only [Pt.U, Pt.locs, Pt.cells, Pt.slots] at X5 l5 y5 z5 st5 hQ5
  obtain ⟨rfl, N5q, K5, o5_0⟩ := hQ5
  have Z6 : n0 ≤ T5.heap.size := Nat.le_trans Z0 K5.1
  have Z6h : h0.size ≤ T5.heap.size := Nat.le_trans (Nat.le_refl h0.size) K5.1
  obtain ⟨lc5, X5, N5⟩ := own_pack X5 l5 y5 z5 N3 N5q (C := 0) (S' := 0) rfl rfl
  refine own_thr (a := T5.setTop (mkF m 33 #[.val (.ref o0), .val (.ref o1), .val (.int 1)] [])) (fun t kt => st5.trans kt) ?_
  refine own_thr (a := T5.setTop (mkF m 35 #[.val (.ref o0), .val (.ref o1), .val (.int 1)] [(.ref o0), (.ref o0)])) (fun t kt => ?_) ?_
  · show Steps p.tables e below (T5.setTop (mkF m 33 #[.val (.ref o0), .val (.ref o1), .val (.int 1)] [])) _
    refine XS.aloadN X5.here hx rfl (hb hby d6_33) rfl rfl ?_
    refine XS.dup X5.here hx rfl (hb hby d6_34) rfl rfl ?_
    exact kt
  obtain ⟨T7, X7, e7, st7⟩ := getF X5 hx hZ hown (host := "") (Or.inl (hw _ (List.mem_of_getElem? (i := 57) rfl))) Via.refl rfl (F_count_o0.keep K5 (ninS ne_o0_vb nin0)) (g := (mkF m 35 #[.val (.ref o0), .val (.ref o1), .val (.int 1)] [(.ref o0), (.ref o0)])) rfl rfl (hb hby d6_35)
  refine own_thr (a := T7.setTop (mkF m 38 #[.val (.ref o0), .val (.ref o1), .val (.int 1)] [(.int 5), (.ref o0)])) (fun t kt => st7 t kt) ?_
  refine own_thr (a := T7.setTop (mkF m 40 #[.val (.ref o0), .val (.ref o1), .val (.int 1)] [(.int 6), (.ref o0)])) (fun t kt => ?_) ?_
  · show Steps p.tables e below (T7.setTop (mkF m 38 #[.val (.ref o0), .val (.ref o1), .val (.int 1)] [(.int 5), (.ref o0)])) _
    refine XS.iloadN X7.here hx rfl (hb hby d6_38) rfl ?_
    refine XS.iadd X7.here hx rfl (hb hby d6_39) rfl ?_
    exact kt
  obtain ⟨T8, h8, X8, e8, W8, st8⟩ := putF X7 hx hZ hown (host := "") (Or.inl (hw _ (List.mem_of_getElem? (i := 57) rfl))) Via.refl e7 (F_count_o0.keep K5 (ninS ne_o0_vb nin0)) (E_o0.keep K5) (Or.inl (hw _ (List.mem_of_getElem? (i := 58) rfl))) (hw _ (List.mem_of_getElem? (i := 9) rfl)) (ty := .int) (by decide) rfl rfl (g := (mkF m 40 #[.val (.ref o0), .val (.ref o1), .val (.int 1)] [(.int 6), (.ref o0)])) rfl rfl (hb hby d6_40)
  have Fw8 := (F_count_o0.keep K5 (ninS ne_o0_vb nin0)).same W8
  have Z9 : n0 ≤ h8.size := Nat.le_trans Z6 (Nat.le_of_eq W8.size.symm)
  have Z9h : h0.size ≤ h8.size := Nat.le_trans Z6h (Nat.le_of_eq W8.size.symm)
  obtain ⟨lc8, X8, N8⟩ := own_pack1 X8 N5 g_o0
  refine own_thr (a := T8.setTop (mkF m 43 #[.val (.ref o0), .val (.ref o1), .val (.int 1)] [])) (fun t kt => st8 t kt) ?_
  refine own_thr (a := T8.setTop (mkF m 44 #[.val (.ref o0), .val (.ref o1), .val (.int 1)] [(.ref o0)])) (fun t kt => ?_) ?_
  · show Steps p.tables e below (T8.setTop (mkF m 43 #[.val (.ref o0), .val (.ref o1), .val (.int 1)] [])) _
    refine XS.aloadN X8.here hx rfl (hb hby d6_43) rfl rfl ?_
    exact kt
  have c10 := ((F_value_o0.keep K5 (ninS ne_o0_vb nin0)).other W8 (Or.inr (slot_ne (Or.inl (hw _ (List.mem_of_getElem? (i := 27) rfl))) (Or.inl (hw _ (List.mem_of_getElem? (i := 58) rfl))) (by decide) (t := (.array .byte)) (t' := .int) (by decide) (by decide))))
  have c11 := ((F_coder_o0.keep K5 (ninS ne_o0_vb nin0)).other W8 (Or.inr (slot_ne (Or.inl (hw _ (List.mem_of_getElem? (i := 29) rfl))) (Or.inl (hw _ (List.mem_of_getElem? (i := 58) rfl))) (by decide) (t := .byte) (t' := .int) (by decide) (by decide))))
  exact own_end X8 hlk (v := some (.ref o0)) (fun h => by rw [Bd.returns] at h; cases h) (fun fs hr => retA X8 hx Bd.returns rfl rfl (hb hby d6_44) hr) (by rw [e8]; exact ⟨rfl, N8, (((Keep.refl h0 [o0, vb]).trans K5 (allS (Or.inl (List.mem_of_getElem? (i := 1) rfl)) all0)).wr W8 (Or.inl (List.mem_of_getElem? (i := 0) rfl))), ((E_o0.keep K5).wr W8), c10, c11, Fw8, (o5_0.other W8 (Ne.symm ne_o0_vb))⟩) (by decide : 0 ≤ _) (by decide : 0 ≤ _)
theorem ef_rmSAu2 (m : MethodId) (o0 : Addr) (o1 : Addr)  : entryFrame m #[(.ref o0), (.ref o1)] 2 = mkF m 0 #[.val (.ref o0), .val (.ref o1)] [] := by first |  (simp [entryFrame, mkF, argsToLocals, Value.category]; done) | rfl
def Q_rmSAu2 (Z : State) (o0 : Addr) (o1 : Addr) (vb : Addr) (kb : ClassId) (sv : Addr) (ks : ClassId) (cs : Int32) (h0 : Heap) (n0 : Nat) (v : Option Value) (h : Heap) (L : List Loc) : Prop := v = some (.ref o0) ∧ Fr n0 L ∧ Keep h0 h [o0, vb] ∧ Exa Z h o0 "java/lang/StringBuilder" ∧ Fld Z h o0 "java/lang/AbstractStringBuilder" "value" "[B" (.ref vb) ∧ Fld Z h o0 "java/lang/AbstractStringBuilder" "coder" "B" (.int 0) ∧ Fld Z h o0 "java/lang/AbstractStringBuilder" "count" "I" (.int 6) ∧ Arv Z h vb kb .byte (16 : Int32) [(.int 45), (.int 45), (.int 117), (.int 114), (.int 108), (.int 32), (.int 0), (.int 0), (.int 0), (.int 0), (.int 0), (.int 0), (.int 0), (.int 0), (.int 0), (.int 0)] (.int 0)
set_option maxRecDepth 65536 in
set_option maxHeartbeats 40000000 in
theorem rmSAu2 (l : Launch) (Z : State) (a0 : Array Value) (hw : ∀ d ∈ tables_1, d.before a0 Z = true) (ws : List Jvm.Cond) (o0 : Addr) (o1 : Addr) (vb : Addr) (kb : ClassId) (sv : Addr) (ks : ClassId) (cs : Int32) (h0 : Heap) (n0 : Nat) (Z0 : n0 ≤ h0.size) (E_o0 : Exa Z h0 o0 "java/lang/StringBuilder") (F_value_o0 : Fld Z h0 o0 "java/lang/AbstractStringBuilder" "value" "[B" (.ref vb)) (F_coder_o0 : Fld Z h0 o0 "java/lang/AbstractStringBuilder" "coder" "B" (.int 0)) (F_count_o0 : Fld Z h0 o0 "java/lang/AbstractStringBuilder" "count" "I" (.int 5)) (E_o1 : Exa Z h0 o1 "java/lang/String") (F_value_o1 : Fld Z h0 o1 "java/lang/String" "value" "[B" (.ref sv)) (F_coder_o1 : Fld Z h0 o1 "java/lang/String" "coder" "B" (.int 0)) (V_vb : Arv Z h0 vb kb .byte (16 : Int32) [(.int 45), (.int 45), (.int 117), (.int 114), (.int 108), (.int 0), (.int 0), (.int 0), (.int 0), (.int 0), (.int 0), (.int 0), (.int 0), (.int 0), (.int 0), (.int 0)] (.int 0)) (V_sv : Arv Z h0 sv ks .byte (1 : Int32) [(.int 32)] (.int 0)) (S_COMPACT_STRINGS : Sta Z h0 "java/lang/String" "COMPACT_STRINGS" "Z" (.int cs)) (g_o0 : n0 ≤ o0) (g_vb : n0 ≤ vb) (ne_o0_vb : o0 ≠ vb) (ne_sv_vb : sv ≠ vb) (ne_o1_vb : o1 ≠ vb) (ne_o1_o0 : o1 ≠ o0) (ne_sv_o0 : sv ≠ o0) (hcs : ¬ cs = (0 : Int32)) :
    MetFree l (⟨"java/lang/StringBuilder", "append", "(Ljava/lang/String;)Ljava/lang/StringBuilder;"⟩ : MethodName) (head1 (Jvm.Cond.code (⟨"java/lang/StringBuilder", "append", "(Ljava/lang/String;)Ljava/lang/StringBuilder;"⟩ : MethodName) jdk_67_method_7_code 2 (some (.object "java/lang/StringBuilder")) :: ws) ({ frames := 4, cells := 0, slots := 0, locals := 61 } : Room)) (fun a U => a = #[(.ref o0), (.ref o1)] ∧ Z.Warmed39 U.vm ∧ U.heap = h0) (fun _ _ _ _ _ => True) (fun _ U o U' => ∃ v L, o = .returned v ∧ Q_rmSAu2 Z o0 o1 vb kb sv ks cs h0 n0 v U'.heap L ∧ FrameEnd U o U' L ({ frames := 4, cells := 0, slots := 0, locals := 61 } : Room).cells ({ frames := 4, cells := 0, slots := 0, locals := 61 } : Room).slots) := by
  refine MetFree.of_bodySF (plainFor_of_name pn_java_lang_StringBuilder) hisR ?_
  intro p e s m args below meth c s₁ Bd hml0 hP hK
  obtain ⟨rfl, hZ, hh⟩ := hP
  have hx := Bd.exec
  have hby := Bd.bytes
  have hml : c.maxLocals = 2 := hml0
  have hown : s.vm.findClass "java/lang/StringBuilder" = some m.cls := findClass_of_methodNamed Bd.named
  have hnm := (name_of_methodNamed Bd.named Bd.method).1
  have hlk := Bd.notSynchronized
  have X0 : Stand p l e ({ frames := 4, cells := 0, slots := 0, locals := 61 } : Room) s m #[(.ref o0), (.ref o1)] below meth c s₁ [] 0 0 := Stand.of_body Bd
  have e0 : s₁.heap = h0 := by rw [← hh, Bd.state]; rfl
  have N0 := Fr.nil n0
  show own_G p.tables e below s (Q_rmSAu2 Z o0 o1 vb kb sv ks cs h0 n0) ({ frames := 4, cells := 0, slots := 0, locals := 61 } : Room).cells ({ frames := 4, cells := 0, slots := 0, locals := 61 } : Room).slots _
  refine own_thr (a := s₁.setTop (mkF m 0 #[.val (.ref o0), .val (.ref o1)] [])) (fun t kt => castTop (ef_rmSAu2 m o0 o1) kt) ?_
  refine own_thr (a := s₁.setTop (mkF m 2 #[.val (.ref o0), .val (.ref o1)] [(.ref o1), (.ref o0)])) (fun t kt => ?_) ?_
  · show Steps p.tables e below (s₁.setTop (mkF m 0 #[.val (.ref o0), .val (.ref o1)] [])) _
    refine XS.aloadN X0.here hx rfl (hb hby d5_0) rfl rfl ?_
    refine XS.aloadN X0.here hx rfl (hb hby d5_1) rfl rfl ?_
    exact kt
  obtain ⟨_, _, ⟨T1, L1, k1, n1⟩, -, X1, ⟨Lc1, hQ1, l1, y1, z1⟩, st1⟩ := superBack X0 hx hZ (y := (⟨"java/lang/AbstractStringBuilder", "append", "(Ljava/lang/String;)Ljava/lang/AbstractStringBuilder;"⟩ : MethodName)) hown (hw _ (List.mem_of_getElem? (i := 37) rfl)) (own_same (y := (⟨"java/lang/AbstractStringBuilder", "append", "(Ljava/lang/String;)Ljava/lang/AbstractStringBuilder;"⟩ : MethodName)) (hw _ (List.mem_of_getElem? (i := 62) rfl)) rfl (hw _ (List.mem_of_getElem? (i := 38) rfl)) (by decide)) (hw _ (List.mem_of_getElem? (i := 38) rfl)) (hw _ (List.mem_of_getElem? (i := 39) rfl)) (by decide) (backOf (W := 0) (rmAAu2 l Z a0 hw [] o0 o1 vb kb sv ks cs h0 n0 Z0 E_o0 F_value_o0 F_coder_o0 F_count_o0 E_o1 F_value_o1 F_coder_o1 V_vb V_sv S_COMPACT_STRINGS g_o0 g_vb ne_o0_vb ne_sv_vb ne_o1_vb ne_o1_o0 ne_sv_o0 hcs) hZ (hw _ (List.mem_of_getElem? (i := 41) rfl)) (hw _ (List.mem_of_getElem? (i := 18) rfl)) (by decide) (by decide)) e0 (Ins.self E_o0) (g := (mkF m 2 #[.val (.ref o0), .val (.ref o1)] [(.ref o1), (.ref o0)])) rfl (by rw [hml]; rfl) (hw _ (List.mem_of_getElem? (i := 41) rfl)) (argsL := [(.ref o1)]) (rest := []) (lenOf pd__28Ljava_2flang_2fString_3b_29Ljava_2flang_2fAbstractStringBuilder_3b rfl) rfl (by show 2 * 0 + _ ≤ _; exact Nat.le_of_eq rfl) (hb hby d5_2) (fun _ _ => ⟨rfl, e0, (by decide : 0 + 0 ≤ _), (by decide : 0 + 0 ≤ _)⟩)
  dsimp only [Pt.U, Pt.locs, Pt.cells, Pt.slots] at X1 l1 y1 z1 st1 hQ1
  obtain ⟨rfl, N1q, K1, o1_0, o1_1, o1_2, o1_3, o1_4⟩ := hQ1
  have Z2 : n0 ≤ T1.heap.size := Nat.le_trans Z0 K1.1
  have Z2h : h0.size ≤ T1.heap.size := Nat.le_trans (Nat.le_refl h0.size) K1.1
  obtain ⟨lc1, X1, N1⟩ := own_pack X1 l1 y1 z1 N0 N1q (C := 0) (S' := 0) rfl rfl
  refine own_thr (a := T1.setTop (mkF m 5 #[.val (.ref o0), .val (.ref o1)] [(.ref o0)])) (fun t kt => st1.trans kt) ?_
  refine own_thr (a := T1.setTop (mkF m 7 #[.val (.ref o0), .val (.ref o1)] [(.ref o0)])) (fun t kt => ?_) ?_
  · show Steps p.tables e below (T1.setTop (mkF m 5 #[.val (.ref o0), .val (.ref o1)] [(.ref o0)])) _
    refine XS.pop X1.here hx rfl (hb hby d5_5) rfl rfl ?_
    refine XS.aloadN X1.here hx rfl (hb hby d5_6) rfl rfl ?_
    exact kt
  exact own_end X1 hlk (v := some (.ref o0)) (fun h => by rw [Bd.returns] at h; cases h) (fun fs hr => retA X1 hx Bd.returns rfl rfl (hb hby d5_7) hr) ⟨rfl, N1, ((Keep.refl h0 [o0, vb]).trans K1 (allS (Or.inl (List.mem_of_getElem? (i := 0) rfl)) (allS (Or.inl (List.mem_of_getElem? (i := 1) rfl)) all0))), o1_0, o1_1, o1_2, o1_3, o1_4⟩ (by decide : 0 ≤ _) (by decide : 0 ≤ _)
theorem ef_rmLNu3 (m : MethodId) (o0 : Addr)  : entryFrame m #[(.ref o0)] 1 = mkF m 0 #[.val (.ref o0)] [] := by first |  (simp [entryFrame, mkF, argsToLocals, Value.category]; done) | rfl
def Q_rmLNu3 (Z : State) (o0 : Addr) (sv : Addr) (ks : ClassId) (cs : Int32) (h0 : Heap) (n0 : Nat) (v : Option Value) (h : Heap) (L : List Loc) : Prop := v = some (.int 10) ∧ Fr n0 L ∧ h = h0
set_option maxRecDepth 65536 in
set_option maxHeartbeats 40000000 in
theorem rmLNu3 (l : Launch) (Z : State) (a0 : Array Value) (hw : ∀ d ∈ tables_1, d.before a0 Z = true) (ws : List Jvm.Cond) (o0 : Addr) (sv : Addr) (ks : ClassId) (cs : Int32) (h0 : Heap) (n0 : Nat) (Z0 : n0 ≤ h0.size) (E_o0 : Exa Z h0 o0 "java/lang/String") (F_value_o0 : Fld Z h0 o0 "java/lang/String" "value" "[B" (.ref sv)) (F_coder_o0 : Fld Z h0 o0 "java/lang/String" "coder" "B" (.int 0)) (V_sv : Arv Z h0 sv ks .byte (10 : Int32) [(.int 60), (.int 74), (.int 68), (.int 66), (.int 67), (.int 32), (.int 85), (.int 82), (.int 76), (.int 62)] (.int 0)) (S_COMPACT_STRINGS : Sta Z h0 "java/lang/String" "COMPACT_STRINGS" "Z" (.int cs)) (hcs : ¬ cs = (0 : Int32)) :
    MetFree l (⟨"java/lang/String", "length", "()I"⟩ : MethodName) (head1 (Jvm.Cond.code (⟨"java/lang/String", "length", "()I"⟩ : MethodName) jdk_42_method_54_code 1 (some .int) :: ws) ({ frames := 1, cells := 0, slots := 0, locals := 13 } : Room)) (fun a U => a = #[(.ref o0)] ∧ Z.Warmed39 U.vm ∧ U.heap = h0) (fun _ _ _ _ _ => True) (fun _ U o U' => ∃ v L, o = .returned v ∧ Q_rmLNu3 Z o0 sv ks cs h0 n0 v U'.heap L ∧ FrameEnd U o U' L ({ frames := 1, cells := 0, slots := 0, locals := 13 } : Room).cells ({ frames := 1, cells := 0, slots := 0, locals := 13 } : Room).slots) := by
  refine MetFree.of_bodySF (plainFor_of_name pn_java_lang_String) hisR ?_
  intro p e s m args below meth c s₁ Bd hml0 hP hK
  obtain ⟨rfl, hZ, hh⟩ := hP
  have hx := Bd.exec
  have hby := Bd.bytes
  have hml : c.maxLocals = 1 := hml0
  have hown : s.vm.findClass "java/lang/String" = some m.cls := findClass_of_methodNamed Bd.named
  have hnm := (name_of_methodNamed Bd.named Bd.method).1
  have hlk := Bd.notSynchronized
  have X0 : Stand p l e ({ frames := 1, cells := 0, slots := 0, locals := 13 } : Room) s m #[(.ref o0)] below meth c s₁ [] 0 0 := Stand.of_body Bd
  have e0 : s₁.heap = h0 := by rw [← hh, Bd.state]; rfl
  have N0 := Fr.nil n0
  show own_G p.tables e below s (Q_rmLNu3 Z o0 sv ks cs h0 n0) ({ frames := 1, cells := 0, slots := 0, locals := 13 } : Room).cells ({ frames := 1, cells := 0, slots := 0, locals := 13 } : Room).slots _
  refine own_thr (a := s₁.setTop (mkF m 0 #[.val (.ref o0)] [])) (fun t kt => castTop (ef_rmLNu3 m o0) kt) ?_
  refine own_thr (a := s₁.setTop (mkF m 1 #[.val (.ref o0)] [(.ref o0)])) (fun t kt => ?_) ?_
  · show Steps p.tables e below (s₁.setTop (mkF m 0 #[.val (.ref o0)] [])) _
    refine XS.aloadN X0.here hx rfl (hb hby d7_0) rfl rfl ?_
    exact kt
  obtain ⟨T1, X1, e1, st1⟩ := getF X0 hx hZ hown (host := "") (Or.inl (hw _ (List.mem_of_getElem? (i := 47) rfl))) Via.refl e0 F_value_o0 (g := (mkF m 1 #[.val (.ref o0)] [(.ref o0)])) rfl rfl (hb hby d7_1)
  refine own_thr (a := T1.setTop (mkF m 4 #[.val (.ref o0)] [(.ref sv)])) (fun t kt => st1 t kt) ?_
  obtain ⟨cl2, Ar2, -, S2, M2, -, -⟩ := id V_sv
  refine own_thr (a := T1.setTop (mkF m 6 #[.val (.ref o0)] [(.ref o0), (.int 10)])) (fun t kt => ?_) ?_
  · show Steps p.tables e below (T1.setTop (mkF m 4 #[.val (.ref o0)] [(.ref sv)])) _
    refine X1.arraylength hx (by rw [e1]; exact Ar2.1) (State.isArrayOf_alike hZ.alike Ar2.2.1) (g := (mkF m 4 #[.val (.ref o0)] [(.ref sv)])) rfl rfl (hb hby d7_4) _ ?_
    rw [len_of S2 M2]
    refine XS.aloadN X1.here hx rfl (hb hby d7_5) rfl rfl ?_
    exact kt
  obtain ⟨cq3, kq3, q3a, q3b, q3c⟩ := isOf hZ e1 E_o0
  obtain ⟨_, _, ⟨T3, L3, k3, n3⟩, -, X3, ⟨Lc3, hQ3, l3, y3, z3⟩, st3⟩ := X1.virtualBack hx (y := (⟨"java/lang/String", "coder", "()B"⟩ : MethodName)) (z := (⟨"java/lang/String", "coder", "()B"⟩ : MethodName)) hown (mvT hZ (hw _ (List.mem_of_getElem? (i := 49) rfl))) (mvT hZ (hw _ (List.mem_of_getElem? (i := 50) rfl))) (notFace_of_selects (args := #[]) (mvT hZ (hw _ (List.mem_of_getElem? (i := 52) rfl)))) (mvT hZ (hw _ (List.mem_of_getElem? (i := 52) rfl))) (mvT hZ (hw _ (List.mem_of_getElem? (i := 51) rfl))) (by decide) (backOf (W := 1) (rmCO l Z a0 hw [] o0 cs h0 n0 Z0 F_coder_o0 S_COMPACT_STRINGS hcs) hZ (hw _ (List.mem_of_getElem? (i := 53) rfl)) (hw _ (List.mem_of_getElem? (i := 24) rfl)) (by decide) (by decide)) q3a q3c (g := (mkF m 6 #[.val (.ref o0)] [(.ref o0), (.int 10)])) rfl (by rw [hml]; rfl) (Steps.refl _) (argsL := []) (rest := [(.int 10)]) (lenOf pd__28_29B rfl) rfl (by show 2 * 0 + _ ≤ _; exact Nat.le_of_eq rfl) (hb hby d7_6) (fun _ _ => ⟨rfl, e1, (by decide : 0 + 0 ≤ _), (by decide : 0 + 0 ≤ _)⟩)
  dsimp only [Pt.U, Pt.locs, Pt.cells, Pt.slots] at X3 l3 y3 z3 st3 hQ3
  obtain ⟨rfl, N3q, e3⟩ := hQ3
  obtain ⟨lc3, X3, N3⟩ := own_pack X3 l3 y3 z3 N0 N3q (C := 0) (S' := 0) rfl rfl
  refine own_thr (a := T3.setTop (mkF m 9 #[.val (.ref o0)] [(.int 0), (.int 10)])) (fun t kt => st3.trans kt) ?_
  refine own_thr (a := T3.setTop (mkF m 10 #[.val (.ref o0)] [(.int 10)])) (fun t kt => ?_) ?_
  · show Steps p.tables e below (T3.setTop (mkF m 9 #[.val (.ref o0)] [(.int 0), (.int 10)])) _
    refine XS.ishr X3.here hx rfl (hb hby d7_9) rfl ?_
    exact kt
  exact own_end X3 hlk (v := some (.int 10)) (fun h => by rw [Bd.returns] at h; cases h) (fun fs hr => retI X3 hx Bd.returns (hb hby d7_10) hr) (by rw [e3]; exact ⟨rfl, N3, rfl⟩) (by decide : 0 ≤ _) (by decide : 0 ≤ _)
theorem ef_rmENu3 (m : MethodId) (o0 : Addr)  : entryFrame m #[(.ref o0), (.int 16)] 3 = mkF m 0 #[.val (.ref o0), .val (.int 16), .unset] [] := by first |  (simp [entryFrame, mkF, argsToLocals, Value.category]; done) | rfl
def Q_rmENu3 (Z : State) (o0 : Addr) (vb : Addr) (kb : ClassId) (h0 : Heap) (n0 : Nat) (v : Option Value) (h : Heap) (L : List Loc) : Prop := v = none ∧ Fr n0 L ∧ h = h0
set_option maxRecDepth 65536 in
set_option maxHeartbeats 40000000 in
theorem rmENu3 (l : Launch) (Z : State) (a0 : Array Value) (hw : ∀ d ∈ tables_1, d.before a0 Z = true) (ws : List Jvm.Cond) (o0 : Addr) (vb : Addr) (kb : ClassId) (h0 : Heap) (n0 : Nat) (Z0 : n0 ≤ h0.size) (F_value_o0 : Fld Z h0 o0 "java/lang/AbstractStringBuilder" "value" "[B" (.ref vb)) (F_coder_o0 : Fld Z h0 o0 "java/lang/AbstractStringBuilder" "coder" "B" (.int 0)) (V_vb : Arv Z h0 vb kb .byte (16 : Int32) [(.int 45), (.int 45), (.int 117), (.int 114), (.int 108), (.int 32), (.int 0), (.int 0), (.int 0), (.int 0), (.int 0), (.int 0), (.int 0), (.int 0), (.int 0), (.int 0)] (.int 0)) :
    MetFree l (⟨"java/lang/AbstractStringBuilder", "ensureCapacityInternal", "(I)V"⟩ : MethodName) (head1 (Jvm.Cond.code (⟨"java/lang/AbstractStringBuilder", "ensureCapacityInternal", "(I)V"⟩ : MethodName) jdk_68_method_9_code 3 none :: ws) ({ frames := 0, cells := 0, slots := 0, locals := 0 } : Room)) (fun a U => a = #[(.ref o0), (.int 16)] ∧ Z.Warmed39 U.vm ∧ U.heap = h0) (fun _ _ _ _ _ => True) (fun _ U o U' => ∃ v L, o = .returned v ∧ Q_rmENu3 Z o0 vb kb h0 n0 v U'.heap L ∧ FrameEnd U o U' L ({ frames := 0, cells := 0, slots := 0, locals := 0 } : Room).cells ({ frames := 0, cells := 0, slots := 0, locals := 0 } : Room).slots) := by
  refine MetFree.of_bodySF (plainFor_of_name pn_java_lang_AbstractStringBuilder) hisR ?_
  intro p e s m args below meth c s₁ Bd hml0 hP hK
  obtain ⟨rfl, hZ, hh⟩ := hP
  have hx := Bd.exec
  have hby := Bd.bytes
  have hml : c.maxLocals = 3 := hml0
  have hown : s.vm.findClass "java/lang/AbstractStringBuilder" = some m.cls := findClass_of_methodNamed Bd.named
  have hnm := (name_of_methodNamed Bd.named Bd.method).1
  have hlk := Bd.notSynchronized
  have X0 : Stand p l e ({ frames := 0, cells := 0, slots := 0, locals := 0 } : Room) s m #[(.ref o0), (.int 16)] below meth c s₁ [] 0 0 := Stand.of_body Bd
  have e0 : s₁.heap = h0 := by rw [← hh, Bd.state]; rfl
  have N0 := Fr.nil n0
  show own_G p.tables e below s (Q_rmENu3 Z o0 vb kb h0 n0) ({ frames := 0, cells := 0, slots := 0, locals := 0 } : Room).cells ({ frames := 0, cells := 0, slots := 0, locals := 0 } : Room).slots _
  refine own_thr (a := s₁.setTop (mkF m 0 #[.val (.ref o0), .val (.int 16), .unset] [])) (fun t kt => castTop (ef_rmENu3 m o0) kt) ?_
  refine own_thr (a := s₁.setTop (mkF m 1 #[.val (.ref o0), .val (.int 16), .unset] [(.ref o0)])) (fun t kt => ?_) ?_
  · show Steps p.tables e below (s₁.setTop (mkF m 0 #[.val (.ref o0), .val (.int 16), .unset] [])) _
    refine XS.aloadN X0.here hx rfl (hb hby d9_0) rfl rfl ?_
    exact kt
  obtain ⟨T1, X1, e1, st1⟩ := getF X0 hx hZ hown (host := "") (Or.inl (hw _ (List.mem_of_getElem? (i := 26) rfl))) Via.refl e0 F_value_o0 (g := (mkF m 1 #[.val (.ref o0), .val (.int 16), .unset] [(.ref o0)])) rfl rfl (hb hby d9_1)
  refine own_thr (a := T1.setTop (mkF m 4 #[.val (.ref o0), .val (.int 16), .unset] [(.ref vb)])) (fun t kt => st1 t kt) ?_
  obtain ⟨cl2, Ar2, -, S2, M2, -, -⟩ := id V_vb
  refine own_thr (a := T1.setTop (mkF m 6 #[.val (.ref o0), .val (.int 16), .unset] [(.ref o0), (.int 16)])) (fun t kt => ?_) ?_
  · show Steps p.tables e below (T1.setTop (mkF m 4 #[.val (.ref o0), .val (.int 16), .unset] [(.ref vb)])) _
    refine X1.arraylength hx (by rw [e1]; exact Ar2.1) (State.isArrayOf_alike hZ.alike Ar2.2.1) (g := (mkF m 4 #[.val (.ref o0), .val (.int 16), .unset] [(.ref vb)])) rfl rfl (hb hby d9_4) _ ?_
    rw [len_of S2 M2]
    refine XS.aloadN X1.here hx rfl (hb hby d9_5) rfl rfl ?_
    exact kt
  obtain ⟨T3, X3, e3, st3⟩ := getF X1 hx hZ hown (host := "") (Or.inl (hw _ (List.mem_of_getElem? (i := 28) rfl))) Via.refl e1 F_coder_o0 (g := (mkF m 6 #[.val (.ref o0), .val (.int 16), .unset] [(.ref o0), (.int 16)])) rfl rfl (hb hby d9_6)
  refine own_thr (a := T3.setTop (mkF m 9 #[.val (.ref o0), .val (.int 16), .unset] [(.int 0), (.int 16)])) (fun t kt => st3 t kt) ?_
  refine own_thr (a := T3.setTop (mkF m 38 #[.val (.ref o0), .val (.int 16), .val (.int 16)] [])) (fun t kt => ?_) ?_
  · show Steps p.tables e below (T3.setTop (mkF m 9 #[.val (.ref o0), .val (.int 16), .unset] [(.int 0), (.int 16)])) _
    refine XS.ishr X3.here hx rfl (hb hby d9_9) rfl ?_
    refine XS.istoreN X3.here hx rfl (hb hby d9_10) rfl (l' := #[.val (.ref o0), .val (.int 16), .val (.int 16)]) rfl ?_
    refine XS.iloadN X3.here hx rfl (hb hby d9_11) rfl ?_
    refine XS.iloadN X3.here hx rfl (hb hby d9_12) rfl ?_
    refine XS.isub X3.here hx rfl (hb hby d9_13) rfl ?_
    refine XS.ifYes X3.here hx rfl (pc0 := 14) (pc' := 38) rfl (hb hby d9_14) rfl ((if0 _ _).trans (flt (by decide)).2.2.2) (by decide) (by decide) ?_
    exact kt
  exact own_end X3 hlk (v := none) (fun _ => rfl) (fun fs hr => X3.returnOut hx Bd.returns (hb hby d9_38) hr) (by rw [e3]; exact ⟨rfl, N0, rfl⟩) (by decide : 0 ≤ _) (by decide : 0 ≤ _)
theorem ef_rmGBu3 (m : MethodId) (o0 : Addr) (vb : Addr)  : entryFrame m #[(.ref o0), (.ref vb), (.int 6), (.int 0)] 4 = mkF m 0 #[.val (.ref o0), .val (.ref vb), .val (.int 6), .val (.int 0)] [] := by first |  (simp [entryFrame, mkF, argsToLocals, Value.category]; done) | rfl
def Q_rmGBu3 (Z : State) (o0 : Addr) (vb : Addr) (sv : Addr) (ks : ClassId) (kb : ClassId) (cs : Int32) (h0 : Heap) (n0 : Nat) (v : Option Value) (h : Heap) (L : List Loc) : Prop := v = none ∧ Fr n0 L ∧ Keep h0 h [vb] ∧ Arv Z h vb kb .byte (16 : Int32) [(.int 45), (.int 45), (.int 117), (.int 114), (.int 108), (.int 32), (.int 60), (.int 74), (.int 68), (.int 66), (.int 67), (.int 32), (.int 85), (.int 82), (.int 76), (.int 62)] (.int 0)
set_option maxRecDepth 65536 in
set_option maxHeartbeats 40000000 in
theorem rmGBu3 (l : Launch) (Z : State) (a0 : Array Value) (hw : ∀ d ∈ tables_1, d.before a0 Z = true) (ws : List Jvm.Cond) (o0 : Addr) (vb : Addr) (sv : Addr) (ks : ClassId) (kb : ClassId) (cs : Int32) (h0 : Heap) (n0 : Nat) (Z0 : n0 ≤ h0.size) (E_o0 : Exa Z h0 o0 "java/lang/String") (F_value_o0 : Fld Z h0 o0 "java/lang/String" "value" "[B" (.ref sv)) (F_coder_o0 : Fld Z h0 o0 "java/lang/String" "coder" "B" (.int 0)) (V_sv : Arv Z h0 sv ks .byte (10 : Int32) [(.int 60), (.int 74), (.int 68), (.int 66), (.int 67), (.int 32), (.int 85), (.int 82), (.int 76), (.int 62)] (.int 0)) (V_vb : Arv Z h0 vb kb .byte (16 : Int32) [(.int 45), (.int 45), (.int 117), (.int 114), (.int 108), (.int 32), (.int 0), (.int 0), (.int 0), (.int 0), (.int 0), (.int 0), (.int 0), (.int 0), (.int 0), (.int 0)] (.int 0)) (S_COMPACT_STRINGS : Sta Z h0 "java/lang/String" "COMPACT_STRINGS" "Z" (.int cs)) (g_vb : n0 ≤ vb) (ne_sv_vb : sv ≠ vb) (ne_o0_vb : o0 ≠ vb) (hcs : ¬ cs = (0 : Int32)) :
    MetFree l (⟨"java/lang/String", "getBytes", "([BIB)V"⟩ : MethodName) (head1 (Jvm.Cond.code (⟨"java/lang/String", "getBytes", "([BIB)V"⟩ : MethodName) jdk_42_method_147_code 4 none :: ws) ({ frames := 1, cells := 0, slots := 0, locals := 18 } : Room)) (fun a U => a = #[(.ref o0), (.ref vb), (.int 6), (.int 0)] ∧ Z.Warmed39 U.vm ∧ U.heap = h0) (fun _ _ _ _ _ => True) (fun _ U o U' => ∃ v L, o = .returned v ∧ Q_rmGBu3 Z o0 vb sv ks kb cs h0 n0 v U'.heap L ∧ FrameEnd U o U' L ({ frames := 1, cells := 0, slots := 0, locals := 18 } : Room).cells ({ frames := 1, cells := 0, slots := 0, locals := 18 } : Room).slots) := by
  refine MetFree.of_bodySF (plainFor_of_name pn_java_lang_String) hisR ?_
  intro p e s m args below meth c s₁ Bd hml0 hP hK
  obtain ⟨rfl, hZ, hh⟩ := hP
  have hx := Bd.exec
  have hby := Bd.bytes
  have hml : c.maxLocals = 4 := hml0
  have hown : s.vm.findClass "java/lang/String" = some m.cls := findClass_of_methodNamed Bd.named
  have hnm := (name_of_methodNamed Bd.named Bd.method).1
  have hlk := Bd.notSynchronized
  have X0 : Stand p l e ({ frames := 1, cells := 0, slots := 0, locals := 18 } : Room) s m #[(.ref o0), (.ref vb), (.int 6), (.int 0)] below meth c s₁ [] 0 0 := Stand.of_body Bd
  have e0 : s₁.heap = h0 := by rw [← hh, Bd.state]; rfl
  have N0 := Fr.nil n0
  show own_G p.tables e below s (Q_rmGBu3 Z o0 vb sv ks kb cs h0 n0) ({ frames := 1, cells := 0, slots := 0, locals := 18 } : Room).cells ({ frames := 1, cells := 0, slots := 0, locals := 18 } : Room).slots _
  refine own_thr (a := s₁.setTop (mkF m 0 #[.val (.ref o0), .val (.ref vb), .val (.int 6), .val (.int 0)] [])) (fun t kt => castTop (ef_rmGBu3 m o0 vb) kt) ?_
  refine own_thr (a := s₁.setTop (mkF m 1 #[.val (.ref o0), .val (.ref vb), .val (.int 6), .val (.int 0)] [(.ref o0)])) (fun t kt => ?_) ?_
  · show Steps p.tables e below (s₁.setTop (mkF m 0 #[.val (.ref o0), .val (.ref vb), .val (.int 6), .val (.int 0)] [])) _
    refine XS.aloadN X0.here hx rfl (hb hby d12_0) rfl rfl ?_
    exact kt
  obtain ⟨cq1, kq1, q1a, q1b, q1c⟩ := isOf hZ e0 E_o0
  obtain ⟨_, _, ⟨T1, L1, k1, n1⟩, -, X1, ⟨Lc1, hQ1, l1, y1, z1⟩, st1⟩ := X0.virtualBack hx (y := (⟨"java/lang/String", "coder", "()B"⟩ : MethodName)) (z := (⟨"java/lang/String", "coder", "()B"⟩ : MethodName)) hown (mvT hZ (hw _ (List.mem_of_getElem? (i := 49) rfl))) (mvT hZ (hw _ (List.mem_of_getElem? (i := 50) rfl))) (notFace_of_selects (args := #[]) (mvT hZ (hw _ (List.mem_of_getElem? (i := 52) rfl)))) (mvT hZ (hw _ (List.mem_of_getElem? (i := 52) rfl))) (mvT hZ (hw _ (List.mem_of_getElem? (i := 51) rfl))) (by decide) (backOf (W := 0) (rmCO l Z a0 hw [] o0 cs h0 n0 Z0 F_coder_o0 S_COMPACT_STRINGS hcs) hZ (hw _ (List.mem_of_getElem? (i := 53) rfl)) (hw _ (List.mem_of_getElem? (i := 24) rfl)) (by decide) (by decide)) q1a q1c (g := (mkF m 1 #[.val (.ref o0), .val (.ref vb), .val (.int 6), .val (.int 0)] [(.ref o0)])) rfl (by rw [hml]; rfl) (Steps.refl _) (argsL := []) (rest := []) (lenOf pd__28_29B rfl) rfl (by show 2 * 0 + _ ≤ _; exact Nat.le_of_eq rfl) (hb hby d12_1) (fun _ _ => ⟨rfl, e0, (by decide : 0 + 0 ≤ _), (by decide : 0 + 0 ≤ _)⟩)
  dsimp only [Pt.U, Pt.locs, Pt.cells, Pt.slots] at X1 l1 y1 z1 st1 hQ1
  obtain ⟨rfl, N1q, e1⟩ := hQ1
  obtain ⟨lc1, X1, N1⟩ := own_pack X1 l1 y1 z1 N0 N1q (C := 0) (S' := 0) rfl rfl
  refine own_thr (a := T1.setTop (mkF m 4 #[.val (.ref o0), .val (.ref vb), .val (.int 6), .val (.int 0)] [(.int 0)])) (fun t kt => st1.trans kt) ?_
  refine own_thr (a := T1.setTop (mkF m 9 #[.val (.ref o0), .val (.ref vb), .val (.int 6), .val (.int 0)] [(.ref o0)])) (fun t kt => ?_) ?_
  · show Steps p.tables e below (T1.setTop (mkF m 4 #[.val (.ref o0), .val (.ref vb), .val (.int 6), .val (.int 0)] [(.int 0)])) _
    refine XS.iloadN X1.here hx rfl (hb hby d12_4) rfl ?_
    refine XS.icmpNo X1.here hx rfl (hb hby d12_5) rfl (teq rfl).2 ?_
    refine XS.aloadN X1.here hx rfl (hb hby d12_8) rfl rfl ?_
    exact kt
  obtain ⟨T2, X2, e2, st2⟩ := getF X1 hx hZ hown (host := "") (Or.inl (hw _ (List.mem_of_getElem? (i := 47) rfl))) Via.refl e1 F_value_o0 (g := (mkF m 9 #[.val (.ref o0), .val (.ref vb), .val (.int 6), .val (.int 0)] [(.ref o0)])) rfl rfl (hb hby d12_9)
  refine own_thr (a := T2.setTop (mkF m 12 #[.val (.ref o0), .val (.ref vb), .val (.int 6), .val (.int 0)] [(.ref sv)])) (fun t kt => st2 t kt) ?_
  refine own_thr (a := T2.setTop (mkF m 18 #[.val (.ref o0), .val (.ref vb), .val (.int 6), .val (.int 0)] [(.ref o0), (.int 6), (.ref vb), (.int 0), (.ref sv)])) (fun t kt => ?_) ?_
  · show Steps p.tables e below (T2.setTop (mkF m 12 #[.val (.ref o0), .val (.ref vb), .val (.int 6), .val (.int 0)] [(.ref sv)])) _
    refine XS.iconst X2.here hx rfl (hb hby d12_12) ?_
    refine XS.aloadN X2.here hx rfl (hb hby d12_13) rfl rfl ?_
    refine XS.iloadN X2.here hx rfl (hb hby d12_14) rfl ?_
    refine XS.iloadN X2.here hx rfl (hb hby d12_15) rfl ?_
    refine XS.ishl X2.here hx rfl (hb hby d12_16) rfl ?_
    refine XS.aloadN X2.here hx rfl (hb hby d12_17) rfl rfl ?_
    exact kt
  obtain ⟨T3, X3, e3, st3⟩ := getF X2 hx hZ hown (host := "") (Or.inl (hw _ (List.mem_of_getElem? (i := 47) rfl))) Via.refl e2 F_value_o0 (g := (mkF m 18 #[.val (.ref o0), .val (.ref vb), .val (.int 6), .val (.int 0)] [(.ref o0), (.int 6), (.ref vb), (.int 0), (.ref sv)])) rfl rfl (hb hby d12_18)
  refine own_thr (a := T3.setTop (mkF m 21 #[.val (.ref o0), .val (.ref vb), .val (.int 6), .val (.int 0)] [(.ref sv), (.int 6), (.ref vb), (.int 0), (.ref sv)])) (fun t kt => st3 t kt) ?_
  obtain ⟨cl4, Ar4, -, S4, M4, -, -⟩ := id V_sv
  refine own_thr (a := T3.setTop (mkF m 22 #[.val (.ref o0), .val (.ref vb), .val (.int 6), .val (.int 0)] [(.int 10), (.int 6), (.ref vb), (.int 0), (.ref sv)])) (fun t kt => ?_) ?_
  · show Steps p.tables e below (T3.setTop (mkF m 21 #[.val (.ref o0), .val (.ref vb), .val (.int 6), .val (.int 0)] [(.ref sv), (.int 6), (.ref vb), (.int 0), (.ref sv)])) _
    refine X3.arraylength hx (by rw [e3]; exact Ar4.1) (State.isArrayOf_alike hZ.alike Ar4.2.1) (g := (mkF m 21 #[.val (.ref o0), .val (.ref vb), .val (.int 6), .val (.int 0)] [(.ref sv), (.int 6), (.ref vb), (.int 0), (.ref sv)])) rfl rfl (hb hby d12_21) _ ?_
    rw [len_of S4 M4]
    exact kt
  obtain ⟨T5, h5, L5, X5, e5, N5, K5, V5, st5⟩ := cpA X3 hx hZ hown (hw _ (List.mem_of_getElem? (i := 80) rfl)) (hw _ (List.mem_of_getElem? (i := 83) rfl)) (hw _ (List.mem_of_getElem? (i := 81) rfl)) (hw _ (List.mem_of_getElem? (i := 82) rfl)) e3 V_sv V_vb (Or.inl ⟨rfl, rfl⟩) (sp := (0 : Int32)) (dp := (6 : Int32)) (nn := (10 : Int32)) (by decide) (by decide) (by decide) (by decide) (by decide) (us := [(.int 60), (.int 74), (.int 68), (.int 66), (.int 67), (.int 32), (.int 85), (.int 82), (.int 76), (.int 62)]) rfl (by decide) N1 g_vb (g := (mkF m 22 #[.val (.ref o0), .val (.ref vb), .val (.int 6), .val (.int 0)] [(.int 10), (.int 6), (.ref vb), (.int 0), (.ref sv)])) rfl (by rw [hml]; rfl) rfl (hb hby d12_22) (by decide) (W := 0) (by show 2 * 0 + _ ≤ _; exact Nat.le_of_eq rfl) (by decide)
  have Z6 : n0 ≤ h5.size := Nat.le_trans Z0 K5.1
  have Z6h : h0.size ≤ h5.size := Nat.le_trans (Nat.le_refl h0.size) K5.1
  have Vl5 : Arv Z h5 vb kb .byte (16 : Int32) [(.int 45), (.int 45), (.int 117), (.int 114), (.int 108), (.int 32), (.int 60), (.int 74), (.int 68), (.int 66), (.int 67), (.int 32), (.int 85), (.int 82), (.int 76), (.int 62)] (.int 0) := V5
  refine own_thr (a := T5.setTop (mkF m 25 #[.val (.ref o0), .val (.ref vb), .val (.int 6), .val (.int 0)] [])) (fun t kt => st5 t kt) ?_
  refine own_thr (a := T5.setTop (mkF m 43 #[.val (.ref o0), .val (.ref vb), .val (.int 6), .val (.int 0)] [])) (fun t kt => ?_) ?_
  · show Steps p.tables e below (T5.setTop (mkF m 25 #[.val (.ref o0), .val (.ref vb), .val (.int 6), .val (.int 0)] [])) _
    refine XS.goto X5.here hx rfl (pc0 := 25) (pc' := 43) rfl (hb hby d12_25) (by decide) (by decide) ?_
    exact kt
  exact own_end X5 hlk (v := none) (fun _ => rfl) (fun fs hr => X5.returnOut hx Bd.returns (hb hby d12_43) hr) (by rw [e5]; exact ⟨rfl, N5, ((Keep.refl h0 [vb]).trans K5 (allS (Or.inl (List.mem_of_getElem? (i := 0) rfl)) all0)), Vl5⟩) (by decide : 0 ≤ _) (by decide : 0 ≤ _)
theorem ef_rmPSu3 (m : MethodId) (o0 : Addr) (o2 : Addr)  : entryFrame m #[(.ref o0), (.int 6), (.ref o2)] 3 = mkF m 0 #[.val (.ref o0), .val (.int 6), .val (.ref o2)] [] := by first |  (simp [entryFrame, mkF, argsToLocals, Value.category]; done) | rfl
def Q_rmPSu3 (Z : State) (o0 : Addr) (o2 : Addr) (vb : Addr) (kb : ClassId) (sv : Addr) (ks : ClassId) (cs : Int32) (h0 : Heap) (n0 : Nat) (v : Option Value) (h : Heap) (L : List Loc) : Prop := v = none ∧ Fr n0 L ∧ Keep h0 h [vb] ∧ Arv Z h vb kb .byte (16 : Int32) [(.int 45), (.int 45), (.int 117), (.int 114), (.int 108), (.int 32), (.int 60), (.int 74), (.int 68), (.int 66), (.int 67), (.int 32), (.int 85), (.int 82), (.int 76), (.int 62)] (.int 0)
set_option maxRecDepth 65536 in
set_option maxHeartbeats 40000000 in
theorem rmPSu3 (l : Launch) (Z : State) (a0 : Array Value) (hw : ∀ d ∈ tables_1, d.before a0 Z = true) (ws : List Jvm.Cond) (o0 : Addr) (o2 : Addr) (vb : Addr) (kb : ClassId) (sv : Addr) (ks : ClassId) (cs : Int32) (h0 : Heap) (n0 : Nat) (Z0 : n0 ≤ h0.size) (E_o0 : Exa Z h0 o0 "java/lang/StringBuilder") (F_value_o0 : Fld Z h0 o0 "java/lang/AbstractStringBuilder" "value" "[B" (.ref vb)) (F_coder_o0 : Fld Z h0 o0 "java/lang/AbstractStringBuilder" "coder" "B" (.int 0)) (F_count_o0 : Fld Z h0 o0 "java/lang/AbstractStringBuilder" "count" "I" (.int 6)) (E_o2 : Exa Z h0 o2 "java/lang/String") (F_value_o2 : Fld Z h0 o2 "java/lang/String" "value" "[B" (.ref sv)) (F_coder_o2 : Fld Z h0 o2 "java/lang/String" "coder" "B" (.int 0)) (V_vb : Arv Z h0 vb kb .byte (16 : Int32) [(.int 45), (.int 45), (.int 117), (.int 114), (.int 108), (.int 32), (.int 0), (.int 0), (.int 0), (.int 0), (.int 0), (.int 0), (.int 0), (.int 0), (.int 0), (.int 0)] (.int 0)) (V_sv : Arv Z h0 sv ks .byte (10 : Int32) [(.int 60), (.int 74), (.int 68), (.int 66), (.int 67), (.int 32), (.int 85), (.int 82), (.int 76), (.int 62)] (.int 0)) (S_COMPACT_STRINGS : Sta Z h0 "java/lang/String" "COMPACT_STRINGS" "Z" (.int cs)) (g_vb : n0 ≤ vb) (ne_o0_vb : o0 ≠ vb) (ne_sv_vb : sv ≠ vb) (ne_o2_vb : o2 ≠ vb) (ne_o2_o0 : o2 ≠ o0) (ne_sv_o0 : sv ≠ o0) (hcs : ¬ cs = (0 : Int32)) :
    MetFree l (⟨"java/lang/AbstractStringBuilder", "putStringAt", "(ILjava/lang/String;)V"⟩ : MethodName) (head1 (Jvm.Cond.code (⟨"java/lang/AbstractStringBuilder", "putStringAt", "(ILjava/lang/String;)V"⟩ : MethodName) jdk_68_method_73_code 3 none :: ws) ({ frames := 2, cells := 0, slots := 0, locals := 33 } : Room)) (fun a U => a = #[(.ref o0), (.int 6), (.ref o2)] ∧ Z.Warmed39 U.vm ∧ U.heap = h0) (fun _ _ _ _ _ => True) (fun _ U o U' => ∃ v L, o = .returned v ∧ Q_rmPSu3 Z o0 o2 vb kb sv ks cs h0 n0 v U'.heap L ∧ FrameEnd U o U' L ({ frames := 2, cells := 0, slots := 0, locals := 33 } : Room).cells ({ frames := 2, cells := 0, slots := 0, locals := 33 } : Room).slots) := by
  refine MetFree.of_bodySF (plainFor_of_name pn_java_lang_AbstractStringBuilder) hisR ?_
  intro p e s m args below meth c s₁ Bd hml0 hP hK
  obtain ⟨rfl, hZ, hh⟩ := hP
  have hx := Bd.exec
  have hby := Bd.bytes
  have hml : c.maxLocals = 3 := hml0
  have hown : s.vm.findClass "java/lang/AbstractStringBuilder" = some m.cls := findClass_of_methodNamed Bd.named
  have hnm := (name_of_methodNamed Bd.named Bd.method).1
  have hlk := Bd.notSynchronized
  have X0 : Stand p l e ({ frames := 2, cells := 0, slots := 0, locals := 33 } : Room) s m #[(.ref o0), (.int 6), (.ref o2)] below meth c s₁ [] 0 0 := Stand.of_body Bd
  have e0 : s₁.heap = h0 := by rw [← hh, Bd.state]; rfl
  have N0 := Fr.nil n0
  show own_G p.tables e below s (Q_rmPSu3 Z o0 o2 vb kb sv ks cs h0 n0) ({ frames := 2, cells := 0, slots := 0, locals := 33 } : Room).cells ({ frames := 2, cells := 0, slots := 0, locals := 33 } : Room).slots _
  refine own_thr (a := s₁.setTop (mkF m 0 #[.val (.ref o0), .val (.int 6), .val (.ref o2)] [])) (fun t kt => castTop (ef_rmPSu3 m o0 o2) kt) ?_
  refine own_thr (a := s₁.setTop (mkF m 2 #[.val (.ref o0), .val (.int 6), .val (.ref o2)] [(.ref o2), (.ref o0)])) (fun t kt => ?_) ?_
  · show Steps p.tables e below (s₁.setTop (mkF m 0 #[.val (.ref o0), .val (.int 6), .val (.ref o2)] [])) _
    refine XS.aloadN X0.here hx rfl (hb hby d10_0) rfl rfl ?_
    refine XS.aloadN X0.here hx rfl (hb hby d10_1) rfl rfl ?_
    exact kt
  obtain ⟨cq1, q1, q1'⟩ := E_o0.cell
  obtain ⟨_, _, ⟨T1, L1, k1, n1⟩, -, X1, ⟨Lc1, hQ1, l1, y1, z1⟩, st1⟩ := X0.privateBack hx (y := (⟨"java/lang/AbstractStringBuilder", "inflateIfNeededFor", "(Ljava/lang/String;)V"⟩ : MethodName)) hown (mvT hZ (hw _ (List.mem_of_getElem? (i := 69) rfl))) (mvT hZ (hw _ (List.mem_of_getElem? (i := 70) rfl))) (own_selp hZ (hw _ (List.mem_of_getElem? (i := 72) rfl)) (hw _ (List.mem_of_getElem? (i := 71) rfl)) (hw _ (List.mem_of_getElem? (i := 70) rfl)) (by decide)) (Cond.privateMethod_at (mvP hZ (hw _ (List.mem_of_getElem? (i := 71) rfl)) (args := #[]))) (mvT hZ (hw _ (List.mem_of_getElem? (i := 73) rfl))) (by decide) (backOf (W := 0) (rmIN l Z a0 hw [] o0 o2 cs h0 n0 Z0 F_coder_o0 E_o2 F_coder_o2 S_COMPACT_STRINGS hcs) hZ (hw _ (List.mem_of_getElem? (i := 73) rfl)) (hw _ (List.mem_of_getElem? (i := 18) rfl)) (by decide) (by decide)) (g := (mkF m 2 #[.val (.ref o0), .val (.int 6), .val (.ref o2)] [(.ref o2), (.ref o0)])) rfl (by rw [hml]; rfl) (Steps.refl _) (a := o0) (by rw [e0]; exact q1) q1' (argsL := [(.ref o2)]) (rest := []) (lenOf pd__28Ljava_2flang_2fString_3b_29V rfl) rfl (by show 2 * 0 + _ ≤ _; exact Nat.le_of_eq rfl) (hb hby d10_2) (fun _ _ => ⟨rfl, e0, (by decide : 0 + 0 ≤ _), (by decide : 0 + 0 ≤ _)⟩)
  dsimp only [Pt.U, Pt.locs, Pt.cells, Pt.slots] at X1 l1 y1 z1 st1 hQ1
  obtain ⟨rfl, N1q, e1⟩ := hQ1
  obtain ⟨lc1, X1, N1⟩ := own_pack X1 l1 y1 z1 N0 N1q (C := 0) (S' := 0) rfl rfl
  refine own_thr (a := T1.setTop (mkF m 5 #[.val (.ref o0), .val (.int 6), .val (.ref o2)] [])) (fun t kt => st1.trans kt) ?_
  refine own_thr (a := T1.setTop (mkF m 7 #[.val (.ref o0), .val (.int 6), .val (.ref o2)] [(.ref o0), (.ref o2)])) (fun t kt => ?_) ?_
  · show Steps p.tables e below (T1.setTop (mkF m 5 #[.val (.ref o0), .val (.int 6), .val (.ref o2)] [])) _
    refine XS.aloadN X1.here hx rfl (hb hby d10_5) rfl rfl ?_
    refine XS.aloadN X1.here hx rfl (hb hby d10_6) rfl rfl ?_
    exact kt
  obtain ⟨T2, X2, e2, st2⟩ := getF X1 hx hZ hown (host := "") (Or.inl (hw _ (List.mem_of_getElem? (i := 26) rfl))) Via.refl e1 F_value_o0 (g := (mkF m 7 #[.val (.ref o0), .val (.int 6), .val (.ref o2)] [(.ref o0), (.ref o2)])) rfl rfl (hb hby d10_7)
  refine own_thr (a := T2.setTop (mkF m 10 #[.val (.ref o0), .val (.int 6), .val (.ref o2)] [(.ref vb), (.ref o2)])) (fun t kt => st2 t kt) ?_
  refine own_thr (a := T2.setTop (mkF m 12 #[.val (.ref o0), .val (.int 6), .val (.ref o2)] [(.ref o0), (.int 6), (.ref vb), (.ref o2)])) (fun t kt => ?_) ?_
  · show Steps p.tables e below (T2.setTop (mkF m 10 #[.val (.ref o0), .val (.int 6), .val (.ref o2)] [(.ref vb), (.ref o2)])) _
    refine XS.iloadN X2.here hx rfl (hb hby d10_10) rfl ?_
    refine XS.aloadN X2.here hx rfl (hb hby d10_11) rfl rfl ?_
    exact kt
  obtain ⟨T3, X3, e3, st3⟩ := getF X2 hx hZ hown (host := "") (Or.inl (hw _ (List.mem_of_getElem? (i := 28) rfl))) Via.refl e2 F_coder_o0 (g := (mkF m 12 #[.val (.ref o0), .val (.int 6), .val (.ref o2)] [(.ref o0), (.int 6), (.ref vb), (.ref o2)])) rfl rfl (hb hby d10_12)
  refine own_thr (a := T3.setTop (mkF m 15 #[.val (.ref o0), .val (.int 6), .val (.ref o2)] [(.int 0), (.int 6), (.ref vb), (.ref o2)])) (fun t kt => st3 t kt) ?_
  obtain ⟨cq4, kq4, q4a, q4b, q4c⟩ := isOf hZ e3 E_o2
  obtain ⟨_, _, ⟨T4, L4, k4, n4⟩, -, X4, ⟨Lc4, hQ4, l4, y4, z4⟩, st4⟩ := X3.virtualBack hx (y := (⟨"java/lang/String", "getBytes", "([BIB)V"⟩ : MethodName)) (z := (⟨"java/lang/String", "getBytes", "([BIB)V"⟩ : MethodName)) hown (mvT hZ (hw _ (List.mem_of_getElem? (i := 75) rfl))) (mvT hZ (hw _ (List.mem_of_getElem? (i := 76) rfl))) (notFace_of_selects (args := #[]) (mvT hZ (hw _ (List.mem_of_getElem? (i := 78) rfl)))) (mvT hZ (hw _ (List.mem_of_getElem? (i := 78) rfl))) (mvT hZ (hw _ (List.mem_of_getElem? (i := 77) rfl))) (by decide) (backOf (W := 0) (rmGBu3 l Z a0 hw [] o2 vb sv ks kb cs h0 n0 Z0 E_o2 F_value_o2 F_coder_o2 V_sv V_vb S_COMPACT_STRINGS g_vb ne_sv_vb ne_o2_vb hcs) hZ (hw _ (List.mem_of_getElem? (i := 79) rfl)) (hw _ (List.mem_of_getElem? (i := 24) rfl)) (by decide) (by decide)) q4a q4c (g := (mkF m 15 #[.val (.ref o0), .val (.int 6), .val (.ref o2)] [(.int 0), (.int 6), (.ref vb), (.ref o2)])) rfl (by rw [hml]; rfl) (Steps.refl _) (argsL := [(.ref vb), (.int 6), (.int 0)]) (rest := []) (lenOf pd__28_5bBIB_29V rfl) rfl (by show 2 * 0 + _ ≤ _; exact Nat.le_of_eq rfl) (hb hby d10_15) (fun _ _ => ⟨rfl, e3, (by decide : 0 + 0 ≤ _), (by decide : 0 + 0 ≤ _)⟩)
  dsimp only [Pt.U, Pt.locs, Pt.cells, Pt.slots] at X4 l4 y4 z4 st4 hQ4
  obtain ⟨rfl, N4q, K4, o4_0⟩ := hQ4
  have Z5 : n0 ≤ T4.heap.size := Nat.le_trans Z0 K4.1
  have Z5h : h0.size ≤ T4.heap.size := Nat.le_trans (Nat.le_refl h0.size) K4.1
  obtain ⟨lc4, X4, N4⟩ := own_pack X4 l4 y4 z4 N1 N4q (C := 0) (S' := 0) rfl rfl
  refine own_thr (a := T4.setTop (mkF m 18 #[.val (.ref o0), .val (.int 6), .val (.ref o2)] [])) (fun t kt => st4.trans kt) ?_
  exact own_end X4 hlk (v := none) (fun _ => rfl) (fun fs hr => X4.returnOut hx Bd.returns (hb hby d10_18) hr) ⟨rfl, N4, ((Keep.refl h0 [vb]).trans K4 (allS (Or.inl (List.mem_of_getElem? (i := 0) rfl)) all0)), o4_0⟩ (by decide : 0 ≤ _) (by decide : 0 ≤ _)
theorem ef_rmAAu3 (m : MethodId) (o0 : Addr) (o1 : Addr)  : entryFrame m #[(.ref o0), (.ref o1)] 3 = mkF m 0 #[.val (.ref o0), .val (.ref o1), .unset] [] := by first |  (simp [entryFrame, mkF, argsToLocals, Value.category]; done) | rfl
def Q_rmAAu3 (Z : State) (o0 : Addr) (o1 : Addr) (vb : Addr) (kb : ClassId) (sv : Addr) (ks : ClassId) (cs : Int32) (h0 : Heap) (n0 : Nat) (v : Option Value) (h : Heap) (L : List Loc) : Prop := v = some (.ref o0) ∧ Fr n0 L ∧ Keep h0 h [o0, vb] ∧ Exa Z h o0 "java/lang/StringBuilder" ∧ Fld Z h o0 "java/lang/AbstractStringBuilder" "value" "[B" (.ref vb) ∧ Fld Z h o0 "java/lang/AbstractStringBuilder" "coder" "B" (.int 0) ∧ Fld Z h o0 "java/lang/AbstractStringBuilder" "count" "I" (.int 16) ∧ Arv Z h vb kb .byte (16 : Int32) [(.int 45), (.int 45), (.int 117), (.int 114), (.int 108), (.int 32), (.int 60), (.int 74), (.int 68), (.int 66), (.int 67), (.int 32), (.int 85), (.int 82), (.int 76), (.int 62)] (.int 0)
set_option maxRecDepth 65536 in
set_option maxHeartbeats 40000000 in
theorem rmAAu3 (l : Launch) (Z : State) (a0 : Array Value) (hw : ∀ d ∈ tables_1, d.before a0 Z = true) (ws : List Jvm.Cond) (o0 : Addr) (o1 : Addr) (vb : Addr) (kb : ClassId) (sv : Addr) (ks : ClassId) (cs : Int32) (h0 : Heap) (n0 : Nat) (Z0 : n0 ≤ h0.size) (E_o0 : Exa Z h0 o0 "java/lang/StringBuilder") (F_value_o0 : Fld Z h0 o0 "java/lang/AbstractStringBuilder" "value" "[B" (.ref vb)) (F_coder_o0 : Fld Z h0 o0 "java/lang/AbstractStringBuilder" "coder" "B" (.int 0)) (F_count_o0 : Fld Z h0 o0 "java/lang/AbstractStringBuilder" "count" "I" (.int 6)) (E_o1 : Exa Z h0 o1 "java/lang/String") (F_value_o1 : Fld Z h0 o1 "java/lang/String" "value" "[B" (.ref sv)) (F_coder_o1 : Fld Z h0 o1 "java/lang/String" "coder" "B" (.int 0)) (V_vb : Arv Z h0 vb kb .byte (16 : Int32) [(.int 45), (.int 45), (.int 117), (.int 114), (.int 108), (.int 32), (.int 0), (.int 0), (.int 0), (.int 0), (.int 0), (.int 0), (.int 0), (.int 0), (.int 0), (.int 0)] (.int 0)) (V_sv : Arv Z h0 sv ks .byte (10 : Int32) [(.int 60), (.int 74), (.int 68), (.int 66), (.int 67), (.int 32), (.int 85), (.int 82), (.int 76), (.int 62)] (.int 0)) (S_COMPACT_STRINGS : Sta Z h0 "java/lang/String" "COMPACT_STRINGS" "Z" (.int cs)) (g_o0 : n0 ≤ o0) (g_vb : n0 ≤ vb) (ne_o0_vb : o0 ≠ vb) (ne_sv_vb : sv ≠ vb) (ne_o1_vb : o1 ≠ vb) (ne_o1_o0 : o1 ≠ o0) (ne_sv_o0 : sv ≠ o0) (hcs : ¬ cs = (0 : Int32)) :
    MetFree l (⟨"java/lang/AbstractStringBuilder", "append", "(Ljava/lang/String;)Ljava/lang/AbstractStringBuilder;"⟩ : MethodName) (head1 (Jvm.Cond.code (⟨"java/lang/AbstractStringBuilder", "append", "(Ljava/lang/String;)Ljava/lang/AbstractStringBuilder;"⟩ : MethodName) jdk_68_method_22_code 3 (some (.object "java/lang/AbstractStringBuilder")) :: ws) ({ frames := 3, cells := 0, slots := 0, locals := 47 } : Room)) (fun a U => a = #[(.ref o0), (.ref o1)] ∧ Z.Warmed39 U.vm ∧ U.heap = h0) (fun _ _ _ _ _ => True) (fun _ U o U' => ∃ v L, o = .returned v ∧ Q_rmAAu3 Z o0 o1 vb kb sv ks cs h0 n0 v U'.heap L ∧ FrameEnd U o U' L ({ frames := 3, cells := 0, slots := 0, locals := 47 } : Room).cells ({ frames := 3, cells := 0, slots := 0, locals := 47 } : Room).slots) := by
  refine MetFree.of_bodySF (plainFor_of_name pn_java_lang_AbstractStringBuilder) hisR ?_
  intro p e s m args below meth c s₁ Bd hml0 hP hK
  obtain ⟨rfl, hZ, hh⟩ := hP
  have hx := Bd.exec
  have hby := Bd.bytes
  have hml : c.maxLocals = 3 := hml0
  have hown : s.vm.findClass "java/lang/AbstractStringBuilder" = some m.cls := findClass_of_methodNamed Bd.named
  have hnm := (name_of_methodNamed Bd.named Bd.method).1
  have hlk := Bd.notSynchronized
  have X0 : Stand p l e ({ frames := 3, cells := 0, slots := 0, locals := 47 } : Room) s m #[(.ref o0), (.ref o1)] below meth c s₁ [] 0 0 := Stand.of_body Bd
  have e0 : s₁.heap = h0 := by rw [← hh, Bd.state]; rfl
  have N0 := Fr.nil n0
  show own_G p.tables e below s (Q_rmAAu3 Z o0 o1 vb kb sv ks cs h0 n0) ({ frames := 3, cells := 0, slots := 0, locals := 47 } : Room).cells ({ frames := 3, cells := 0, slots := 0, locals := 47 } : Room).slots _
  refine own_thr (a := s₁.setTop (mkF m 0 #[.val (.ref o0), .val (.ref o1), .unset] [])) (fun t kt => castTop (ef_rmAAu3 m o0 o1) kt) ?_
  refine own_thr (a := s₁.setTop (mkF m 10 #[.val (.ref o0), .val (.ref o1), .unset] [(.ref o1)])) (fun t kt => ?_) ?_
  · show Steps p.tables e below (s₁.setTop (mkF m 0 #[.val (.ref o0), .val (.ref o1), .unset] [])) _
    refine XS.aloadN X0.here hx rfl (hb hby d6_0) rfl rfl ?_
    refine XS.ifnonnullYes X0.here hx rfl (pc0 := 1) (pc' := 9) rfl (hb hby d6_1) rfl (by decide) (by decide) ?_
    refine XS.aloadN X0.here hx rfl (hb hby d6_9) rfl rfl ?_
    exact kt
  obtain ⟨cq1, kq1, q1a, q1b, q1c⟩ := isOf hZ e0 E_o1
  obtain ⟨_, _, ⟨T1, L1, k1, n1⟩, -, X1, ⟨Lc1, hQ1, l1, y1, z1⟩, st1⟩ := X0.virtualBack hx (y := (⟨"java/lang/String", "length", "()I"⟩ : MethodName)) (z := (⟨"java/lang/String", "length", "()I"⟩ : MethodName)) hown (mvT hZ (hw _ (List.mem_of_getElem? (i := 42) rfl))) (mvT hZ (hw _ (List.mem_of_getElem? (i := 43) rfl))) (notFace_of_selects (args := #[]) (mvT hZ (hw _ (List.mem_of_getElem? (i := 45) rfl)))) (mvT hZ (hw _ (List.mem_of_getElem? (i := 45) rfl))) (mvT hZ (hw _ (List.mem_of_getElem? (i := 44) rfl))) (by decide) (backOf (W := 0) (rmLNu3 l Z a0 hw [] o1 sv ks cs h0 n0 Z0 E_o1 F_value_o1 F_coder_o1 V_sv S_COMPACT_STRINGS hcs) hZ (hw _ (List.mem_of_getElem? (i := 46) rfl)) (hw _ (List.mem_of_getElem? (i := 24) rfl)) (by decide) (by decide)) q1a q1c (g := (mkF m 10 #[.val (.ref o0), .val (.ref o1), .unset] [(.ref o1)])) rfl (by rw [hml]; rfl) (Steps.refl _) (argsL := []) (rest := []) (lenOf pd__28_29I rfl) rfl (by show 2 * 0 + _ ≤ _; exact Nat.le_of_eq rfl) (hb hby d6_10) (fun _ _ => ⟨rfl, e0, (by decide : 0 + 0 ≤ _), (by decide : 0 + 0 ≤ _)⟩)
  dsimp only [Pt.U, Pt.locs, Pt.cells, Pt.slots] at X1 l1 y1 z1 st1 hQ1
  obtain ⟨rfl, N1q, e1⟩ := hQ1
  obtain ⟨lc1, X1, N1⟩ := own_pack X1 l1 y1 z1 N0 N1q (C := 0) (S' := 0) rfl rfl
  refine own_thr (a := T1.setTop (mkF m 13 #[.val (.ref o0), .val (.ref o1), .unset] [(.int 10)])) (fun t kt => st1.trans kt) ?_
  refine own_thr (a := T1.setTop (mkF m 16 #[.val (.ref o0), .val (.ref o1), .val (.int 10)] [(.ref o0), (.ref o0)])) (fun t kt => ?_) ?_
  · show Steps p.tables e below (T1.setTop (mkF m 13 #[.val (.ref o0), .val (.ref o1), .unset] [(.int 10)])) _
    refine XS.istoreN X1.here hx rfl (hb hby d6_13) rfl (l' := #[.val (.ref o0), .val (.ref o1), .val (.int 10)]) rfl ?_
    refine XS.aloadN X1.here hx rfl (hb hby d6_14) rfl rfl ?_
    refine XS.aloadN X1.here hx rfl (hb hby d6_15) rfl rfl ?_
    exact kt
  obtain ⟨T2, X2, e2, st2⟩ := getF X1 hx hZ hown (host := "") (Or.inl (hw _ (List.mem_of_getElem? (i := 57) rfl))) Via.refl e1 F_count_o0 (g := (mkF m 16 #[.val (.ref o0), .val (.ref o1), .val (.int 10)] [(.ref o0), (.ref o0)])) rfl rfl (hb hby d6_16)
  refine own_thr (a := T2.setTop (mkF m 19 #[.val (.ref o0), .val (.ref o1), .val (.int 10)] [(.int 6), (.ref o0)])) (fun t kt => st2 t kt) ?_
  refine own_thr (a := T2.setTop (mkF m 21 #[.val (.ref o0), .val (.ref o1), .val (.int 10)] [(.int 16), (.ref o0)])) (fun t kt => ?_) ?_
  · show Steps p.tables e below (T2.setTop (mkF m 19 #[.val (.ref o0), .val (.ref o1), .val (.int 10)] [(.int 6), (.ref o0)])) _
    refine XS.iloadN X2.here hx rfl (hb hby d6_19) rfl ?_
    refine XS.iadd X2.here hx rfl (hb hby d6_20) rfl ?_
    exact kt
  obtain ⟨cq3, q3, q3'⟩ := E_o0.cell
  obtain ⟨_, _, ⟨T3, L3, k3, n3⟩, -, X3, ⟨Lc3, hQ3, l3, y3, z3⟩, st3⟩ := X2.privateBack hx (y := (⟨"java/lang/AbstractStringBuilder", "ensureCapacityInternal", "(I)V"⟩ : MethodName)) hown (mvT hZ (hw _ (List.mem_of_getElem? (i := 59) rfl))) (mvT hZ (hw _ (List.mem_of_getElem? (i := 60) rfl))) (own_selp hZ (hw _ (List.mem_of_getElem? (i := 62) rfl)) (hw _ (List.mem_of_getElem? (i := 61) rfl)) (hw _ (List.mem_of_getElem? (i := 60) rfl)) (by decide)) (Cond.privateMethod_at (mvP hZ (hw _ (List.mem_of_getElem? (i := 61) rfl)) (args := #[]))) (mvT hZ (hw _ (List.mem_of_getElem? (i := 63) rfl))) (by decide) (backOf (W := 0) (rmENu3 l Z a0 hw [] o0 vb kb h0 n0 Z0 F_value_o0 F_coder_o0 V_vb) hZ (hw _ (List.mem_of_getElem? (i := 63) rfl)) (hw _ (List.mem_of_getElem? (i := 18) rfl)) (by decide) (by decide)) (g := (mkF m 21 #[.val (.ref o0), .val (.ref o1), .val (.int 10)] [(.int 16), (.ref o0)])) rfl (by rw [hml]; rfl) (Steps.refl _) (a := o0) (by rw [e2]; exact q3) q3' (argsL := [(.int 16)]) (rest := []) (lenOf pd__28I_29V rfl) rfl (by show 2 * 0 + _ ≤ _; exact Nat.le_of_eq rfl) (hb hby d6_21) (fun _ _ => ⟨rfl, e2, (by decide : 0 + 0 ≤ _), (by decide : 0 + 0 ≤ _)⟩)
  dsimp only [Pt.U, Pt.locs, Pt.cells, Pt.slots] at X3 l3 y3 z3 st3 hQ3
  obtain ⟨rfl, N3q, e3⟩ := hQ3
  obtain ⟨lc3, X3, N3⟩ := own_pack X3 l3 y3 z3 N1 N3q (C := 0) (S' := 0) rfl rfl
  refine own_thr (a := T3.setTop (mkF m 24 #[.val (.ref o0), .val (.ref o1), .val (.int 10)] [])) (fun t kt => st3.trans kt) ?_
  refine own_thr (a := T3.setTop (mkF m 26 #[.val (.ref o0), .val (.ref o1), .val (.int 10)] [(.ref o0), (.ref o0)])) (fun t kt => ?_) ?_
  · show Steps p.tables e below (T3.setTop (mkF m 24 #[.val (.ref o0), .val (.ref o1), .val (.int 10)] [])) _
    refine XS.aloadN X3.here hx rfl (hb hby d6_24) rfl rfl ?_
    refine XS.aloadN X3.here hx rfl (hb hby d6_25) rfl rfl ?_
    exact kt
  obtain ⟨T4, X4, e4, st4⟩ := getF X3 hx hZ hown (host := "") (Or.inl (hw _ (List.mem_of_getElem? (i := 57) rfl))) Via.refl e3 F_count_o0 (g := (mkF m 26 #[.val (.ref o0), .val (.ref o1), .val (.int 10)] [(.ref o0), (.ref o0)])) rfl rfl (hb hby d6_26)
  refine own_thr (a := T4.setTop (mkF m 29 #[.val (.ref o0), .val (.ref o1), .val (.int 10)] [(.int 6), (.ref o0)])) (fun t kt => st4 t kt) ?_
  refine own_thr (a := T4.setTop (mkF m 30 #[.val (.ref o0), .val (.ref o1), .val (.int 10)] [(.ref o1), (.int 6), (.ref o0)])) (fun t kt => ?_) ?_
  · show Steps p.tables e below (T4.setTop (mkF m 29 #[.val (.ref o0), .val (.ref o1), .val (.int 10)] [(.int 6), (.ref o0)])) _
    refine XS.aloadN X4.here hx rfl (hb hby d6_29) rfl rfl ?_
    exact kt
  obtain ⟨cq5, q5, q5'⟩ := E_o0.cell
  obtain ⟨_, _, ⟨T5, L5, k5, n5⟩, -, X5, ⟨Lc5, hQ5, l5, y5, z5⟩, st5⟩ := X4.privateBack hx (y := (⟨"java/lang/AbstractStringBuilder", "putStringAt", "(ILjava/lang/String;)V"⟩ : MethodName)) hown (mvT hZ (hw _ (List.mem_of_getElem? (i := 64) rfl))) (mvT hZ (hw _ (List.mem_of_getElem? (i := 65) rfl))) (own_selp hZ (hw _ (List.mem_of_getElem? (i := 67) rfl)) (hw _ (List.mem_of_getElem? (i := 66) rfl)) (hw _ (List.mem_of_getElem? (i := 65) rfl)) (by decide)) (Cond.privateMethod_at (mvP hZ (hw _ (List.mem_of_getElem? (i := 66) rfl)) (args := #[]))) (mvT hZ (hw _ (List.mem_of_getElem? (i := 68) rfl))) (by decide) (backOf (W := 0) (rmPSu3 l Z a0 hw [] o0 o1 vb kb sv ks cs h0 n0 Z0 E_o0 F_value_o0 F_coder_o0 F_count_o0 E_o1 F_value_o1 F_coder_o1 V_vb V_sv S_COMPACT_STRINGS g_vb ne_o0_vb ne_sv_vb ne_o1_vb ne_o1_o0 ne_sv_o0 hcs) hZ (hw _ (List.mem_of_getElem? (i := 68) rfl)) (hw _ (List.mem_of_getElem? (i := 18) rfl)) (by decide) (by decide)) (g := (mkF m 30 #[.val (.ref o0), .val (.ref o1), .val (.int 10)] [(.ref o1), (.int 6), (.ref o0)])) rfl (by rw [hml]; rfl) (Steps.refl _) (a := o0) (by rw [e4]; exact q5) q5' (argsL := [(.int 6), (.ref o1)]) (rest := []) (lenOf pd__28ILjava_2flang_2fString_3b_29V rfl) rfl (by show 2 * 0 + _ ≤ _; exact Nat.le_of_eq rfl) (hb hby d6_30) (fun _ _ => ⟨rfl, e4, (by decide : 0 + 0 ≤ _), (by decide : 0 + 0 ≤ _)⟩)
  dsimp only [Pt.U, Pt.locs, Pt.cells, Pt.slots] at X5 l5 y5 z5 st5 hQ5
  obtain ⟨rfl, N5q, K5, o5_0⟩ := hQ5
  have Z6 : n0 ≤ T5.heap.size := Nat.le_trans Z0 K5.1
  have Z6h : h0.size ≤ T5.heap.size := Nat.le_trans (Nat.le_refl h0.size) K5.1
  obtain ⟨lc5, X5, N5⟩ := own_pack X5 l5 y5 z5 N3 N5q (C := 0) (S' := 0) rfl rfl
  refine own_thr (a := T5.setTop (mkF m 33 #[.val (.ref o0), .val (.ref o1), .val (.int 10)] [])) (fun t kt => st5.trans kt) ?_
  refine own_thr (a := T5.setTop (mkF m 35 #[.val (.ref o0), .val (.ref o1), .val (.int 10)] [(.ref o0), (.ref o0)])) (fun t kt => ?_) ?_
  · show Steps p.tables e below (T5.setTop (mkF m 33 #[.val (.ref o0), .val (.ref o1), .val (.int 10)] [])) _
    refine XS.aloadN X5.here hx rfl (hb hby d6_33) rfl rfl ?_
    refine XS.dup X5.here hx rfl (hb hby d6_34) rfl rfl ?_
    exact kt
  obtain ⟨T7, X7, e7, st7⟩ := getF X5 hx hZ hown (host := "") (Or.inl (hw _ (List.mem_of_getElem? (i := 57) rfl))) Via.refl rfl (F_count_o0.keep K5 (ninS ne_o0_vb nin0)) (g := (mkF m 35 #[.val (.ref o0), .val (.ref o1), .val (.int 10)] [(.ref o0), (.ref o0)])) rfl rfl (hb hby d6_35)
  refine own_thr (a := T7.setTop (mkF m 38 #[.val (.ref o0), .val (.ref o1), .val (.int 10)] [(.int 6), (.ref o0)])) (fun t kt => st7 t kt) ?_
  refine own_thr (a := T7.setTop (mkF m 40 #[.val (.ref o0), .val (.ref o1), .val (.int 10)] [(.int 16), (.ref o0)])) (fun t kt => ?_) ?_
  · show Steps p.tables e below (T7.setTop (mkF m 38 #[.val (.ref o0), .val (.ref o1), .val (.int 10)] [(.int 6), (.ref o0)])) _
    refine XS.iloadN X7.here hx rfl (hb hby d6_38) rfl ?_
    refine XS.iadd X7.here hx rfl (hb hby d6_39) rfl ?_
    exact kt
  obtain ⟨T8, h8, X8, e8, W8, st8⟩ := putF X7 hx hZ hown (host := "") (Or.inl (hw _ (List.mem_of_getElem? (i := 57) rfl))) Via.refl e7 (F_count_o0.keep K5 (ninS ne_o0_vb nin0)) (E_o0.keep K5) (Or.inl (hw _ (List.mem_of_getElem? (i := 58) rfl))) (hw _ (List.mem_of_getElem? (i := 9) rfl)) (ty := .int) (by decide) rfl rfl (g := (mkF m 40 #[.val (.ref o0), .val (.ref o1), .val (.int 10)] [(.int 16), (.ref o0)])) rfl rfl (hb hby d6_40)
  have Fw8 := (F_count_o0.keep K5 (ninS ne_o0_vb nin0)).same W8
  have Z9 : n0 ≤ h8.size := Nat.le_trans Z6 (Nat.le_of_eq W8.size.symm)
  have Z9h : h0.size ≤ h8.size := Nat.le_trans Z6h (Nat.le_of_eq W8.size.symm)
  obtain ⟨lc8, X8, N8⟩ := own_pack1 X8 N5 g_o0
  refine own_thr (a := T8.setTop (mkF m 43 #[.val (.ref o0), .val (.ref o1), .val (.int 10)] [])) (fun t kt => st8 t kt) ?_
  refine own_thr (a := T8.setTop (mkF m 44 #[.val (.ref o0), .val (.ref o1), .val (.int 10)] [(.ref o0)])) (fun t kt => ?_) ?_
  · show Steps p.tables e below (T8.setTop (mkF m 43 #[.val (.ref o0), .val (.ref o1), .val (.int 10)] [])) _
    refine XS.aloadN X8.here hx rfl (hb hby d6_43) rfl rfl ?_
    exact kt
  have c10 := ((F_value_o0.keep K5 (ninS ne_o0_vb nin0)).other W8 (Or.inr (slot_ne (Or.inl (hw _ (List.mem_of_getElem? (i := 27) rfl))) (Or.inl (hw _ (List.mem_of_getElem? (i := 58) rfl))) (by decide) (t := (.array .byte)) (t' := .int) (by decide) (by decide))))
  have c11 := ((F_coder_o0.keep K5 (ninS ne_o0_vb nin0)).other W8 (Or.inr (slot_ne (Or.inl (hw _ (List.mem_of_getElem? (i := 29) rfl))) (Or.inl (hw _ (List.mem_of_getElem? (i := 58) rfl))) (by decide) (t := .byte) (t' := .int) (by decide) (by decide))))
  exact own_end X8 hlk (v := some (.ref o0)) (fun h => by rw [Bd.returns] at h; cases h) (fun fs hr => retA X8 hx Bd.returns rfl rfl (hb hby d6_44) hr) (by rw [e8]; exact ⟨rfl, N8, (((Keep.refl h0 [o0, vb]).trans K5 (allS (Or.inl (List.mem_of_getElem? (i := 1) rfl)) all0)).wr W8 (Or.inl (List.mem_of_getElem? (i := 0) rfl))), ((E_o0.keep K5).wr W8), c10, c11, Fw8, (o5_0.other W8 (Ne.symm ne_o0_vb))⟩) (by decide : 0 ≤ _) (by decide : 0 ≤ _)
theorem ef_rmSAu3 (m : MethodId) (o0 : Addr) (o1 : Addr)  : entryFrame m #[(.ref o0), (.ref o1)] 2 = mkF m 0 #[.val (.ref o0), .val (.ref o1)] [] := by first |  (simp [entryFrame, mkF, argsToLocals, Value.category]; done) | rfl
def Q_rmSAu3 (Z : State) (o0 : Addr) (o1 : Addr) (vb : Addr) (kb : ClassId) (sv : Addr) (ks : ClassId) (cs : Int32) (h0 : Heap) (n0 : Nat) (v : Option Value) (h : Heap) (L : List Loc) : Prop := v = some (.ref o0) ∧ Fr n0 L ∧ Keep h0 h [o0, vb] ∧ Exa Z h o0 "java/lang/StringBuilder" ∧ Fld Z h o0 "java/lang/AbstractStringBuilder" "value" "[B" (.ref vb) ∧ Fld Z h o0 "java/lang/AbstractStringBuilder" "coder" "B" (.int 0) ∧ Fld Z h o0 "java/lang/AbstractStringBuilder" "count" "I" (.int 16) ∧ Arv Z h vb kb .byte (16 : Int32) [(.int 45), (.int 45), (.int 117), (.int 114), (.int 108), (.int 32), (.int 60), (.int 74), (.int 68), (.int 66), (.int 67), (.int 32), (.int 85), (.int 82), (.int 76), (.int 62)] (.int 0)
set_option maxRecDepth 65536 in
set_option maxHeartbeats 40000000 in
theorem rmSAu3 (l : Launch) (Z : State) (a0 : Array Value) (hw : ∀ d ∈ tables_1, d.before a0 Z = true) (ws : List Jvm.Cond) (o0 : Addr) (o1 : Addr) (vb : Addr) (kb : ClassId) (sv : Addr) (ks : ClassId) (cs : Int32) (h0 : Heap) (n0 : Nat) (Z0 : n0 ≤ h0.size) (E_o0 : Exa Z h0 o0 "java/lang/StringBuilder") (F_value_o0 : Fld Z h0 o0 "java/lang/AbstractStringBuilder" "value" "[B" (.ref vb)) (F_coder_o0 : Fld Z h0 o0 "java/lang/AbstractStringBuilder" "coder" "B" (.int 0)) (F_count_o0 : Fld Z h0 o0 "java/lang/AbstractStringBuilder" "count" "I" (.int 6)) (E_o1 : Exa Z h0 o1 "java/lang/String") (F_value_o1 : Fld Z h0 o1 "java/lang/String" "value" "[B" (.ref sv)) (F_coder_o1 : Fld Z h0 o1 "java/lang/String" "coder" "B" (.int 0)) (V_vb : Arv Z h0 vb kb .byte (16 : Int32) [(.int 45), (.int 45), (.int 117), (.int 114), (.int 108), (.int 32), (.int 0), (.int 0), (.int 0), (.int 0), (.int 0), (.int 0), (.int 0), (.int 0), (.int 0), (.int 0)] (.int 0)) (V_sv : Arv Z h0 sv ks .byte (10 : Int32) [(.int 60), (.int 74), (.int 68), (.int 66), (.int 67), (.int 32), (.int 85), (.int 82), (.int 76), (.int 62)] (.int 0)) (S_COMPACT_STRINGS : Sta Z h0 "java/lang/String" "COMPACT_STRINGS" "Z" (.int cs)) (g_o0 : n0 ≤ o0) (g_vb : n0 ≤ vb) (ne_o0_vb : o0 ≠ vb) (ne_sv_vb : sv ≠ vb) (ne_o1_vb : o1 ≠ vb) (ne_o1_o0 : o1 ≠ o0) (ne_sv_o0 : sv ≠ o0) (hcs : ¬ cs = (0 : Int32)) :
    MetFree l (⟨"java/lang/StringBuilder", "append", "(Ljava/lang/String;)Ljava/lang/StringBuilder;"⟩ : MethodName) (head1 (Jvm.Cond.code (⟨"java/lang/StringBuilder", "append", "(Ljava/lang/String;)Ljava/lang/StringBuilder;"⟩ : MethodName) jdk_67_method_7_code 2 (some (.object "java/lang/StringBuilder")) :: ws) ({ frames := 4, cells := 0, slots := 0, locals := 61 } : Room)) (fun a U => a = #[(.ref o0), (.ref o1)] ∧ Z.Warmed39 U.vm ∧ U.heap = h0) (fun _ _ _ _ _ => True) (fun _ U o U' => ∃ v L, o = .returned v ∧ Q_rmSAu3 Z o0 o1 vb kb sv ks cs h0 n0 v U'.heap L ∧ FrameEnd U o U' L ({ frames := 4, cells := 0, slots := 0, locals := 61 } : Room).cells ({ frames := 4, cells := 0, slots := 0, locals := 61 } : Room).slots) := by
  refine MetFree.of_bodySF (plainFor_of_name pn_java_lang_StringBuilder) hisR ?_
  intro p e s m args below meth c s₁ Bd hml0 hP hK
  obtain ⟨rfl, hZ, hh⟩ := hP
  have hx := Bd.exec
  have hby := Bd.bytes
  have hml : c.maxLocals = 2 := hml0
  have hown : s.vm.findClass "java/lang/StringBuilder" = some m.cls := findClass_of_methodNamed Bd.named
  have hnm := (name_of_methodNamed Bd.named Bd.method).1
  have hlk := Bd.notSynchronized
  have X0 : Stand p l e ({ frames := 4, cells := 0, slots := 0, locals := 61 } : Room) s m #[(.ref o0), (.ref o1)] below meth c s₁ [] 0 0 := Stand.of_body Bd
  have e0 : s₁.heap = h0 := by rw [← hh, Bd.state]; rfl
  have N0 := Fr.nil n0
  show own_G p.tables e below s (Q_rmSAu3 Z o0 o1 vb kb sv ks cs h0 n0) ({ frames := 4, cells := 0, slots := 0, locals := 61 } : Room).cells ({ frames := 4, cells := 0, slots := 0, locals := 61 } : Room).slots _
  refine own_thr (a := s₁.setTop (mkF m 0 #[.val (.ref o0), .val (.ref o1)] [])) (fun t kt => castTop (ef_rmSAu3 m o0 o1) kt) ?_
  refine own_thr (a := s₁.setTop (mkF m 2 #[.val (.ref o0), .val (.ref o1)] [(.ref o1), (.ref o0)])) (fun t kt => ?_) ?_
  · show Steps p.tables e below (s₁.setTop (mkF m 0 #[.val (.ref o0), .val (.ref o1)] [])) _
    refine XS.aloadN X0.here hx rfl (hb hby d5_0) rfl rfl ?_
    refine XS.aloadN X0.here hx rfl (hb hby d5_1) rfl rfl ?_
    exact kt
  obtain ⟨_, _, ⟨T1, L1, k1, n1⟩, -, X1, ⟨Lc1, hQ1, l1, y1, z1⟩, st1⟩ := superBack X0 hx hZ (y := (⟨"java/lang/AbstractStringBuilder", "append", "(Ljava/lang/String;)Ljava/lang/AbstractStringBuilder;"⟩ : MethodName)) hown (hw _ (List.mem_of_getElem? (i := 37) rfl)) (own_same (y := (⟨"java/lang/AbstractStringBuilder", "append", "(Ljava/lang/String;)Ljava/lang/AbstractStringBuilder;"⟩ : MethodName)) (hw _ (List.mem_of_getElem? (i := 62) rfl)) rfl (hw _ (List.mem_of_getElem? (i := 38) rfl)) (by decide)) (hw _ (List.mem_of_getElem? (i := 38) rfl)) (hw _ (List.mem_of_getElem? (i := 39) rfl)) (by decide) (backOf (W := 0) (rmAAu3 l Z a0 hw [] o0 o1 vb kb sv ks cs h0 n0 Z0 E_o0 F_value_o0 F_coder_o0 F_count_o0 E_o1 F_value_o1 F_coder_o1 V_vb V_sv S_COMPACT_STRINGS g_o0 g_vb ne_o0_vb ne_sv_vb ne_o1_vb ne_o1_o0 ne_sv_o0 hcs) hZ (hw _ (List.mem_of_getElem? (i := 41) rfl)) (hw _ (List.mem_of_getElem? (i := 18) rfl)) (by decide) (by decide)) e0 (Ins.self E_o0) (g := (mkF m 2 #[.val (.ref o0), .val (.ref o1)] [(.ref o1), (.ref o0)])) rfl (by rw [hml]; rfl) (hw _ (List.mem_of_getElem? (i := 41) rfl)) (argsL := [(.ref o1)]) (rest := []) (lenOf pd__28Ljava_2flang_2fString_3b_29Ljava_2flang_2fAbstractStringBuilder_3b rfl) rfl (by show 2 * 0 + _ ≤ _; exact Nat.le_of_eq rfl) (hb hby d5_2) (fun _ _ => ⟨rfl, e0, (by decide : 0 + 0 ≤ _), (by decide : 0 + 0 ≤ _)⟩)
  dsimp only [Pt.U, Pt.locs, Pt.cells, Pt.slots] at X1 l1 y1 z1 st1 hQ1
  obtain ⟨rfl, N1q, K1, o1_0, o1_1, o1_2, o1_3, o1_4⟩ := hQ1
  have Z2 : n0 ≤ T1.heap.size := Nat.le_trans Z0 K1.1
  have Z2h : h0.size ≤ T1.heap.size := Nat.le_trans (Nat.le_refl h0.size) K1.1
  obtain ⟨lc1, X1, N1⟩ := own_pack X1 l1 y1 z1 N0 N1q (C := 0) (S' := 0) rfl rfl
  refine own_thr (a := T1.setTop (mkF m 5 #[.val (.ref o0), .val (.ref o1)] [(.ref o0)])) (fun t kt => st1.trans kt) ?_
  refine own_thr (a := T1.setTop (mkF m 7 #[.val (.ref o0), .val (.ref o1)] [(.ref o0)])) (fun t kt => ?_) ?_
  · show Steps p.tables e below (T1.setTop (mkF m 5 #[.val (.ref o0), .val (.ref o1)] [(.ref o0)])) _
    refine XS.pop X1.here hx rfl (hb hby d5_5) rfl rfl ?_
    refine XS.aloadN X1.here hx rfl (hb hby d5_6) rfl rfl ?_
    exact kt
  exact own_end X1 hlk (v := some (.ref o0)) (fun h => by rw [Bd.returns] at h; cases h) (fun fs hr => retA X1 hx Bd.returns rfl rfl (hb hby d5_7) hr) ⟨rfl, N1, ((Keep.refl h0 [o0, vb]).trans K1 (allS (Or.inl (List.mem_of_getElem? (i := 0) rfl)) (allS (Or.inl (List.mem_of_getElem? (i := 1) rfl)) all0))), o1_0, o1_1, o1_2, o1_3, o1_4⟩ (by decide : 0 ≤ _) (by decide : 0 ≤ _)
theorem d18_0 : decode jdk_68_method_6_code 0 = .ok (.aload_n 0, 1) := by decide +kernel
theorem d18_1 : decode jdk_68_method_6_code 1 = .ok (.getfield 79, 3) := by decide +kernel
theorem d18_4 : decode jdk_68_method_6_code 4 = .ok (.ireturn, 1) := by decide +kernel
theorem ef_rmALu (m : MethodId) (o0 : Addr)  : entryFrame m #[(.ref o0)] 1 = mkF m 0 #[.val (.ref o0)] [] := by first |  (simp [entryFrame, mkF, argsToLocals, Value.category]; done) | rfl
def Q_rmALu (Z : State) (o0 : Addr) (h0 : Heap) (n0 : Nat) (v : Option Value) (h : Heap) (L : List Loc) : Prop := v = some (.int 16) ∧ Fr n0 L ∧ h = h0
set_option maxRecDepth 65536 in
set_option maxHeartbeats 40000000 in
theorem rmALu (l : Launch) (Z : State) (a0 : Array Value) (hw : ∀ d ∈ tables_1, d.before a0 Z = true) (ws : List Jvm.Cond) (o0 : Addr) (h0 : Heap) (n0 : Nat) (Z0 : n0 ≤ h0.size) (F_count_o0 : Fld Z h0 o0 "java/lang/AbstractStringBuilder" "count" "I" (.int 16)) :
    MetFree l (⟨"java/lang/AbstractStringBuilder", "length", "()I"⟩ : MethodName) (head1 (Jvm.Cond.code (⟨"java/lang/AbstractStringBuilder", "length", "()I"⟩ : MethodName) jdk_68_method_6_code 1 (some .int) :: ws) ({ frames := 0, cells := 0, slots := 0, locals := 0 } : Room)) (fun a U => a = #[(.ref o0)] ∧ Z.Warmed39 U.vm ∧ U.heap = h0) (fun _ _ _ _ _ => True) (fun _ U o U' => ∃ v L, o = .returned v ∧ Q_rmALu Z o0 h0 n0 v U'.heap L ∧ FrameEnd U o U' L ({ frames := 0, cells := 0, slots := 0, locals := 0 } : Room).cells ({ frames := 0, cells := 0, slots := 0, locals := 0 } : Room).slots) := by
  refine MetFree.of_bodySF (plainFor_of_name pn_java_lang_AbstractStringBuilder) hisR ?_
  intro p e s m args below meth c s₁ Bd hml0 hP hK
  obtain ⟨rfl, hZ, hh⟩ := hP
  have hx := Bd.exec
  have hby := Bd.bytes
  have hml : c.maxLocals = 1 := hml0
  have hown : s.vm.findClass "java/lang/AbstractStringBuilder" = some m.cls := findClass_of_methodNamed Bd.named
  have hnm := (name_of_methodNamed Bd.named Bd.method).1
  have hlk := Bd.notSynchronized
  have X0 : Stand p l e ({ frames := 0, cells := 0, slots := 0, locals := 0 } : Room) s m #[(.ref o0)] below meth c s₁ [] 0 0 := Stand.of_body Bd
  have e0 : s₁.heap = h0 := by rw [← hh, Bd.state]; rfl
  have N0 := Fr.nil n0
  show own_G p.tables e below s (Q_rmALu Z o0 h0 n0) ({ frames := 0, cells := 0, slots := 0, locals := 0 } : Room).cells ({ frames := 0, cells := 0, slots := 0, locals := 0 } : Room).slots _
  refine own_thr (a := s₁.setTop (mkF m 0 #[.val (.ref o0)] [])) (fun t kt => castTop (ef_rmALu m o0) kt) ?_
  refine own_thr (a := s₁.setTop (mkF m 1 #[.val (.ref o0)] [(.ref o0)])) (fun t kt => ?_) ?_
  · show Steps p.tables e below (s₁.setTop (mkF m 0 #[.val (.ref o0)] [])) _
    refine XS.aloadN X0.here hx rfl (hb hby d18_0) rfl rfl ?_
    exact kt
  obtain ⟨T1, X1, e1, st1⟩ := getF X0 hx hZ hown (host := "") (Or.inl (hw _ (List.mem_of_getElem? (i := 57) rfl))) Via.refl e0 F_count_o0 (g := (mkF m 1 #[.val (.ref o0)] [(.ref o0)])) rfl rfl (hb hby d18_1)
  refine own_thr (a := T1.setTop (mkF m 4 #[.val (.ref o0)] [(.int 16)])) (fun t kt => st1 t kt) ?_
  exact own_end X1 hlk (v := some (.int 16)) (fun h => by rw [Bd.returns] at h; cases h) (fun fs hr => retI X1 hx Bd.returns (hb hby d18_4) hr) (by rw [e1]; exact ⟨rfl, N0, rfl⟩) (by decide : 0 ≤ _) (by decide : 0 ≤ _)
theorem d17_0 : decode jdk_67_method_93_code 0 = .ok (.aload_n 0, 1) := by decide +kernel
theorem d17_1 : decode jdk_67_method_93_code 1 = .ok (.invokespecial 343, 3) := by decide +kernel
theorem d17_4 : decode jdk_67_method_93_code 4 = .ok (.ireturn, 1) := by decide +kernel
theorem ef_rmSLu (m : MethodId) (o0 : Addr)  : entryFrame m #[(.ref o0)] 1 = mkF m 0 #[.val (.ref o0)] [] := by first |  (simp [entryFrame, mkF, argsToLocals, Value.category]; done) | rfl
def Q_rmSLu (Z : State) (o0 : Addr) (h0 : Heap) (n0 : Nat) (v : Option Value) (h : Heap) (L : List Loc) : Prop := v = some (.int 16) ∧ Fr n0 L ∧ h = h0
set_option maxRecDepth 65536 in
set_option maxHeartbeats 40000000 in
theorem rmSLu (l : Launch) (Z : State) (a0 : Array Value) (hw : ∀ d ∈ tables_1, d.before a0 Z = true) (ws : List Jvm.Cond) (o0 : Addr) (h0 : Heap) (n0 : Nat) (Z0 : n0 ≤ h0.size) (E_o0 : Exa Z h0 o0 "java/lang/StringBuilder") (F_count_o0 : Fld Z h0 o0 "java/lang/AbstractStringBuilder" "count" "I" (.int 16)) :
    MetFree l (⟨"java/lang/StringBuilder", "length", "()I"⟩ : MethodName) (head1 (Jvm.Cond.code (⟨"java/lang/StringBuilder", "length", "()I"⟩ : MethodName) jdk_67_method_93_code 1 (some .int) :: ws) ({ frames := 1, cells := 0, slots := 0, locals := 12 } : Room)) (fun a U => a = #[(.ref o0)] ∧ Z.Warmed39 U.vm ∧ U.heap = h0) (fun _ _ _ _ _ => True) (fun _ U o U' => ∃ v L, o = .returned v ∧ Q_rmSLu Z o0 h0 n0 v U'.heap L ∧ FrameEnd U o U' L ({ frames := 1, cells := 0, slots := 0, locals := 12 } : Room).cells ({ frames := 1, cells := 0, slots := 0, locals := 12 } : Room).slots) := by
  refine MetFree.of_bodySF (plainFor_of_name pn_java_lang_StringBuilder) hisR ?_
  intro p e s m args below meth c s₁ Bd hml0 hP hK
  obtain ⟨rfl, hZ, hh⟩ := hP
  have hx := Bd.exec
  have hby := Bd.bytes
  have hml : c.maxLocals = 1 := hml0
  have hown : s.vm.findClass "java/lang/StringBuilder" = some m.cls := findClass_of_methodNamed Bd.named
  have hnm := (name_of_methodNamed Bd.named Bd.method).1
  have hlk := Bd.notSynchronized
  have X0 : Stand p l e ({ frames := 1, cells := 0, slots := 0, locals := 12 } : Room) s m #[(.ref o0)] below meth c s₁ [] 0 0 := Stand.of_body Bd
  have e0 : s₁.heap = h0 := by rw [← hh, Bd.state]; rfl
  have N0 := Fr.nil n0
  show own_G p.tables e below s (Q_rmSLu Z o0 h0 n0) ({ frames := 1, cells := 0, slots := 0, locals := 12 } : Room).cells ({ frames := 1, cells := 0, slots := 0, locals := 12 } : Room).slots _
  refine own_thr (a := s₁.setTop (mkF m 0 #[.val (.ref o0)] [])) (fun t kt => castTop (ef_rmSLu m o0) kt) ?_
  refine own_thr (a := s₁.setTop (mkF m 1 #[.val (.ref o0)] [(.ref o0)])) (fun t kt => ?_) ?_
  · show Steps p.tables e below (s₁.setTop (mkF m 0 #[.val (.ref o0)] [])) _
    refine XS.aloadN X0.here hx rfl (hb hby d17_0) rfl rfl ?_
    exact kt
  obtain ⟨_, _, ⟨T1, L1, k1, n1⟩, -, X1, ⟨Lc1, hQ1, l1, y1, z1⟩, st1⟩ := superBack X0 hx hZ (y := (⟨"java/lang/AbstractStringBuilder", "length", "()I"⟩ : MethodName)) hown (hw _ (List.mem_of_getElem? (i := 115) rfl)) (own_same (y := (⟨"java/lang/AbstractStringBuilder", "length", "()I"⟩ : MethodName)) (hw _ (List.mem_of_getElem? (i := 62) rfl)) rfl (hw _ (List.mem_of_getElem? (i := 111) rfl)) (by decide)) (hw _ (List.mem_of_getElem? (i := 111) rfl)) (hw _ (List.mem_of_getElem? (i := 39) rfl)) (by decide) (backOf (W := 0) (rmALu l Z a0 hw [] o0 h0 n0 Z0 F_count_o0) hZ (hw _ (List.mem_of_getElem? (i := 116) rfl)) (hw _ (List.mem_of_getElem? (i := 18) rfl)) (by decide) (by decide)) e0 (Ins.self E_o0) (g := (mkF m 1 #[.val (.ref o0)] [(.ref o0)])) rfl (by rw [hml]; rfl) (hw _ (List.mem_of_getElem? (i := 116) rfl)) (argsL := []) (rest := []) (lenOf pd__28_29I rfl) rfl (by show 2 * 0 + _ ≤ _; exact Nat.le_of_eq rfl) (hb hby d17_1) (fun _ _ => ⟨rfl, e0, (by decide : 0 + 0 ≤ _), (by decide : 0 + 0 ≤ _)⟩)
  dsimp only [Pt.U, Pt.locs, Pt.cells, Pt.slots] at X1 l1 y1 z1 st1 hQ1
  obtain ⟨rfl, N1q, e1⟩ := hQ1
  obtain ⟨lc1, X1, N1⟩ := own_pack X1 l1 y1 z1 N0 N1q (C := 0) (S' := 0) rfl rfl
  refine own_thr (a := T1.setTop (mkF m 4 #[.val (.ref o0)] [(.int 16)])) (fun t kt => st1.trans kt) ?_
  exact own_end X1 hlk (v := some (.int 16)) (fun h => by rw [Bd.returns] at h; cases h) (fun fs hr => retI X1 hx Bd.returns (hb hby d17_4) hr) (by rw [e1]; exact ⟨rfl, N1, rfl⟩) (by decide : 0 ≤ _) (by decide : 0 ≤ _)
theorem d20_0 : decode jdk_65_method_132_code 0 = .ok (.iload_n 1, 1) := by decide +kernel
theorem d20_1 : decode jdk_65_method_132_code 1 = .ok (.ifCond .ne 9, 3) := by decide +kernel
theorem d20_4 : decode jdk_65_method_132_code 4 = .ok (.iload_n 2, 1) := by decide +kernel
theorem d20_5 : decode jdk_65_method_132_code 5 = .ok (.aload_n 0, 1) := by decide +kernel
theorem d20_6 : decode jdk_65_method_132_code 6 = .ok (.arraylength, 1) := by decide +kernel
theorem d20_7 : decode jdk_65_method_132_code 7 = .ok (.if_icmp .eq 10, 3) := by decide +kernel
theorem d20_17 : decode jdk_65_method_132_code 17 = .ok (.aload_n 0, 1) := by decide +kernel
theorem d20_18 : decode jdk_65_method_132_code 18 = .ok (.invokevirtual 310, 3) := by decide +kernel
theorem d20_21 : decode jdk_65_method_132_code 21 = .ok (.checkcast 311, 3) := by decide +kernel
theorem d20_24 : decode jdk_65_method_132_code 24 = .ok (.areturn, 1) := by decide +kernel
theorem ef_rmCRu (m : MethodId) (o0 : Addr)  : entryFrame m #[(.ref o0), (.int 0), (.int 16)] 3 = mkF m 0 #[.val (.ref o0), .val (.int 0), .val (.int 16)] [] := by first |  (simp [entryFrame, mkF, argsToLocals, Value.category]; done) | rfl
def Q_rmCRu (Z : State) (o0 : Addr) (k0 : ClassId) (h0 : Heap) (n0 : Nat) (v : Option Value) (h : Heap) (L : List Loc) : Prop := ∃ r : Addr, v = some (.ref r) ∧ Fr n0 L ∧ Keep h0 h [] ∧ (∃ k : ClassId, Arv Z h r k .byte (16 : Int32) [(.int 45), (.int 45), (.int 117), (.int 114), (.int 108), (.int 32), (.int 60), (.int 74), (.int 68), (.int 66), (.int 67), (.int 32), (.int 85), (.int 82), (.int 76), (.int 62)] (.int 0)) ∧ h0.size ≤ r
set_option maxRecDepth 65536 in
set_option maxHeartbeats 40000000 in
theorem rmCRu (l : Launch) (Z : State) (a0 : Array Value) (hw : ∀ d ∈ tables_1, d.before a0 Z = true) (ws : List Jvm.Cond) (o0 : Addr) (k0 : ClassId) (h0 : Heap) (n0 : Nat) (Z0 : n0 ≤ h0.size) (V_o0 : Arv Z h0 o0 k0 .byte (16 : Int32) [(.int 45), (.int 45), (.int 117), (.int 114), (.int 108), (.int 32), (.int 60), (.int 74), (.int 68), (.int 66), (.int 67), (.int 32), (.int 85), (.int 82), (.int 76), (.int 62)] (.int 0)) (E_o0 : Exa Z h0 o0 "[B") :
    MetFree l (⟨"java/util/Arrays", "copyOfRange", "([BII)[B"⟩ : MethodName) (head1 (Jvm.Cond.code (⟨"java/util/Arrays", "copyOfRange", "([BII)[B"⟩ : MethodName) jdk_65_method_132_code 3 (some (.array .byte)) :: ws) ({ frames := 1, cells := 1, slots := 16, locals := 14 } : Room)) (fun a U => a = #[(.ref o0), (.int 0), (.int 16)] ∧ Z.Warmed39 U.vm ∧ U.heap = h0) (fun _ _ _ _ _ => True) (fun _ U o U' => ∃ v L, o = .returned v ∧ Q_rmCRu Z o0 k0 h0 n0 v U'.heap L ∧ FrameEnd U o U' L ({ frames := 1, cells := 1, slots := 16, locals := 14 } : Room).cells ({ frames := 1, cells := 1, slots := 16, locals := 14 } : Room).slots) := by
  refine MetFree.of_bodySF (plainFor_of_name pn_java_util_Arrays) hisR ?_
  intro p e s m args below meth c s₁ Bd hml0 hP hK
  obtain ⟨rfl, hZ, hh⟩ := hP
  have hx := Bd.exec
  have hby := Bd.bytes
  have hml : c.maxLocals = 3 := hml0
  have hown : s.vm.findClass "java/util/Arrays" = some m.cls := findClass_of_methodNamed Bd.named
  have hnm := (name_of_methodNamed Bd.named Bd.method).1
  have hlk := Bd.notSynchronized
  have X0 : Stand p l e ({ frames := 1, cells := 1, slots := 16, locals := 14 } : Room) s m #[(.ref o0), (.int 0), (.int 16)] below meth c s₁ [] 0 0 := Stand.of_body Bd
  have e0 : s₁.heap = h0 := by rw [← hh, Bd.state]; rfl
  have N0 := Fr.nil n0
  show own_G p.tables e below s (Q_rmCRu Z o0 k0 h0 n0) ({ frames := 1, cells := 1, slots := 16, locals := 14 } : Room).cells ({ frames := 1, cells := 1, slots := 16, locals := 14 } : Room).slots _
  refine own_thr (a := s₁.setTop (mkF m 0 #[.val (.ref o0), .val (.int 0), .val (.int 16)] [])) (fun t kt => castTop (ef_rmCRu m o0) kt) ?_
  refine own_thr (a := s₁.setTop (mkF m 6 #[.val (.ref o0), .val (.int 0), .val (.int 16)] [(.ref o0), (.int 16)])) (fun t kt => ?_) ?_
  · show Steps p.tables e below (s₁.setTop (mkF m 0 #[.val (.ref o0), .val (.int 0), .val (.int 16)] [])) _
    refine XS.iloadN X0.here hx rfl (hb hby d20_0) rfl ?_
    refine XS.ifNo X0.here hx rfl (hb hby d20_1) rfl ((if0 _ _).trans (teq rfl).2) ?_
    refine XS.iloadN X0.here hx rfl (hb hby d20_4) rfl ?_
    refine XS.aloadN X0.here hx rfl (hb hby d20_5) rfl rfl ?_
    exact kt
  obtain ⟨cl1, Ar1, -, S1, M1, -, -⟩ := id V_o0
  refine own_thr (a := s₁.setTop (mkF m 18 #[.val (.ref o0), .val (.int 0), .val (.int 16)] [(.ref o0)])) (fun t kt => ?_) ?_
  · show Steps p.tables e below (s₁.setTop (mkF m 6 #[.val (.ref o0), .val (.int 0), .val (.int 16)] [(.ref o0), (.int 16)])) _
    refine X0.arraylength hx (by rw [e0]; exact Ar1.1) (State.isArrayOf_alike hZ.alike Ar1.2.1) (g := (mkF m 6 #[.val (.ref o0), .val (.int 0), .val (.int 16)] [(.ref o0), (.int 16)])) rfl rfl (hb hby d20_6) _ ?_
    rw [len_of S1 M1]
    refine XS.icmpYes X0.here hx rfl (pc0 := 7) (pc' := 17) rfl (hb hby d20_7) rfl (teq rfl).1 (by decide) (by decide) ?_
    refine XS.aloadN X0.here hx rfl (hb hby d20_17) rfl rfl ?_
    exact kt
  obtain ⟨T2, h2, X2, e2, E2, A2, AE2, st2⟩ := cloneH X0 hx hZ hown (hw _ (List.mem_of_getElem? (i := 126) rfl)) (hw _ (List.mem_of_getElem? (i := 127) rfl)) (hw _ (List.mem_of_getElem? (i := 131) rfl)) (hw _ (List.mem_of_getElem? (i := 129) rfl)) (hw _ (List.mem_of_getElem? (i := 130) rfl)) (hw _ (List.mem_of_getElem? (i := 132) rfl)) e0 (Arv.arh V_o0) E_o0 (g := (mkF m 18 #[.val (.ref o0), .val (.int 0), .val (.int 16)] [(.ref o0)])) rfl (by rw [hml]; rfl) rfl (hb hby d20_18) (by decide) (W := 0) (cap := 16) (by show 2 * 0 + _ ≤ _; exact Nat.le_of_eq rfl) (by decide) (by decide) (by decide : 0 + 1 ≤ _) (by decide : 0 + 16 ≤ _)
  obtain ⟨b2, g2⟩ : ∃ z, z = h0.size := ⟨_, rfl⟩
  rw [← g2] at A2 AE2 st2
  have g_b2 : n0 ≤ b2 := Nat.le_trans Z0 (Nat.le_of_eq g2.symm)
  have sz_b2 : h0.size ≤ b2 := Nat.le_trans (Nat.le_refl h0.size) (Nat.le_of_eq g2.symm)
  have lt_o0_b2 : o0 < b2 := Nat.lt_of_lt_of_le V_o0.lt (Nat.le_of_eq g2.symm)
  have ne_o0_b2 : o0 ≠ b2 := Nat.ne_of_lt lt_o0_b2
  have Z3 : n0 ≤ h2.size := Nat.le_trans Z0 E2.1
  have Z3h : h0.size ≤ h2.size := Nat.le_trans (Nat.le_refl h0.size) E2.1
  have V_b2 : Arv Z h2 b2 k0 .byte (16 : Int32) [(.int 45), (.int 45), (.int 117), (.int 114), (.int 108), (.int 32), (.int 60), (.int 74), (.int 68), (.int 66), (.int 67), (.int 32), (.int 85), (.int 82), (.int 76), (.int 62)] (.int 0) := A2
  refine own_thr (a := T2.setTop (mkF m 21 #[.val (.ref o0), .val (.int 0), .val (.int 16)] [(.ref b2)])) (fun t kt => st2 t kt) ?_
  obtain ⟨T4, X4, e4, st4⟩ := castY X2 hx hZ hown (hw _ (List.mem_of_getElem? (i := 133) rfl)) e2 (Ins.self AE2) (g := (mkF m 21 #[.val (.ref o0), .val (.int 0), .val (.int 16)] [(.ref b2)])) rfl rfl (hb hby d20_21)
  refine own_thr (a := T4.setTop (mkF m 24 #[.val (.ref o0), .val (.int 0), .val (.int 16)] [(.ref b2)])) (fun t kt => st4 t kt) ?_
  exact own_end X4 hlk (v := some (.ref b2)) (fun h => by rw [Bd.returns] at h; cases h) (fun fs hr => retA X4 hx Bd.returns rfl rfl (hb hby d20_24) hr) (by rw [e4]; exact ⟨b2, rfl, N0, ((Keep.refl h0 []).ext E2), ⟨_, V_b2⟩, sz_b2⟩) (by decide : 1 ≤ _) (by decide : 16 ≤ _)
theorem d15_0 : decode jdk_42_method_150_code 0 = .ok (.aload_n 0, 1) := by decide +kernel
theorem d15_1 : decode jdk_42_method_150_code 1 = .ok (.invokespecial 1, 3) := by decide +kernel
theorem d15_4 : decode jdk_42_method_150_code 4 = .ok (.aload_n 1, 1) := by decide +kernel
theorem pd__28_29_5bB : parseMethodDescriptor "()[B" = some ⟨[], some (.array .byte)⟩ := by decide +kernel
theorem d15_5 : decode jdk_42_method_150_code 5 = .ok (.invokevirtual 552, 3) := by decide +kernel
theorem d15_8 : decode jdk_42_method_150_code 8 = .ok (.astore_n 3, 1) := by decide +kernel
theorem d15_9 : decode jdk_42_method_150_code 9 = .ok (.aload_n 1, 1) := by decide +kernel
theorem d15_10 : decode jdk_42_method_150_code 10 = .ok (.invokevirtual 549, 3) := by decide +kernel
theorem d15_13 : decode jdk_42_method_150_code 13 = .ok (.istore 4, 2) := by decide +kernel
theorem d15_15 : decode jdk_42_method_150_code 15 = .ok (.aload_n 1, 1) := by decide +kernel
theorem pd__28_29Z : parseMethodDescriptor "()Z" = some ⟨[], some .boolean⟩ := by decide +kernel
theorem d15_16 : decode jdk_42_method_150_code 16 = .ok (.invokevirtual 1047, 3) := by decide +kernel
theorem d15_19 : decode jdk_42_method_150_code 19 = .ok (.ifCond .eq 22, 3) := by decide +kernel
theorem d15_22 : decode jdk_42_method_150_code 22 = .ok (.aload_n 0, 1) := by decide +kernel
theorem d15_23 : decode jdk_42_method_150_code 23 = .ok (.iconst 0, 1) := by decide +kernel
theorem d15_24 : decode jdk_42_method_150_code 24 = .ok (.putfield 15, 3) := by decide +kernel
theorem d15_27 : decode jdk_42_method_150_code 27 = .ok (.aload_n 0, 1) := by decide +kernel
theorem d15_28 : decode jdk_42_method_150_code 28 = .ok (.aload_n 3, 1) := by decide +kernel
theorem d15_29 : decode jdk_42_method_150_code 29 = .ok (.iconst 0, 1) := by decide +kernel
theorem d15_30 : decode jdk_42_method_150_code 30 = .ok (.iload 4, 2) := by decide +kernel
theorem pd__28_5bBII_29_5bB : parseMethodDescriptor "([BII)[B" = some ⟨[(.array .byte), .int, .int], some (.array .byte)⟩ := by decide +kernel
theorem d15_32 : decode jdk_42_method_150_code 32 = .ok (.invokestatic 54, 3) := by decide +kernel
theorem d15_35 : decode jdk_42_method_150_code 35 = .ok (.putfield 9, 3) := by decide +kernel
theorem d15_38 : decode jdk_42_method_150_code 38 = .ok (.goto 59, 3) := by decide +kernel
theorem d15_97 : decode jdk_42_method_150_code 97 = .ok (.return_, 1) := by decide +kernel
theorem ef_rmI2u (m : MethodId) (o0 : Addr) (o1 : Addr)  : entryFrame m #[(.ref o0), (.ref o1), .null] 5 = mkF m 0 #[.val (.ref o0), .val (.ref o1), .val .null, .unset, .unset] [] := by first |  (simp [entryFrame, mkF, argsToLocals, Value.category]; done) | rfl
def Q_rmI2u (Z : State) (o0 : Addr) (o1 : Addr) (vb : Addr) (kb : ClassId) (cs : Int32) (h0 : Heap) (n0 : Nat) (v : Option Value) (h : Heap) (L : List Loc) : Prop := v = none ∧ Fr n0 L ∧ Keep h0 h [o0] ∧ Exa Z h o0 "java/lang/String" ∧ Fld Z h o0 "java/lang/String" "coder" "B" (.int 0) ∧ (∃ (b : Addr) (k : ClassId), Fld Z h o0 "java/lang/String" "value" "[B" (.ref b) ∧ Arv Z h b k .byte (16 : Int32) [(.int 45), (.int 45), (.int 117), (.int 114), (.int 108), (.int 32), (.int 60), (.int 74), (.int 68), (.int 66), (.int 67), (.int 32), (.int 85), (.int 82), (.int 76), (.int 62)] (.int 0))
set_option maxRecDepth 65536 in
set_option maxHeartbeats 40000000 in
theorem rmI2u (l : Launch) (Z : State) (a0 : Array Value) (hw : ∀ d ∈ tables_1, d.before a0 Z = true) (ws : List Jvm.Cond) (o0 : Addr) (o1 : Addr) (vb : Addr) (kb : ClassId) (cs : Int32) (h0 : Heap) (n0 : Nat) (Z0 : n0 ≤ h0.size) (E_o0 : Exa Z h0 o0 "java/lang/String") (F_v : Fld Z h0 o0 "java/lang/String" "value" "[B" .null) (F_c : Fld Z h0 o0 "java/lang/String" "coder" "B" (.int 0)) (E_o1 : Exa Z h0 o1 "java/lang/StringBuilder") (F_v1 : Fld Z h0 o1 "java/lang/AbstractStringBuilder" "value" "[B" (.ref vb)) (F_c1 : Fld Z h0 o1 "java/lang/AbstractStringBuilder" "coder" "B" (.int 0)) (F_n1 : Fld Z h0 o1 "java/lang/AbstractStringBuilder" "count" "I" (.int 16)) (V_vb : Arv Z h0 vb kb .byte (16 : Int32) [(.int 45), (.int 45), (.int 117), (.int 114), (.int 108), (.int 32), (.int 60), (.int 74), (.int 68), (.int 66), (.int 67), (.int 32), (.int 85), (.int 82), (.int 76), (.int 62)] (.int 0)) (E_vb : Exa Z h0 vb "[B") (g_o0 : n0 ≤ o0) (ne_o1_o0 : o1 ≠ o0) (ne_vb_o0 : vb ≠ o0) (S_cs : Sta Z h0 "java/lang/String" "COMPACT_STRINGS" "Z" (.int cs)) (hcs : ¬ cs = (0 : Int32)) :
    MetFree l (⟨"java/lang/String", "<init>", "(Ljava/lang/AbstractStringBuilder;Ljava/lang/Void;)V"⟩ : MethodName) (head1 (Jvm.Cond.code (⟨"java/lang/String", "<init>", "(Ljava/lang/AbstractStringBuilder;Ljava/lang/Void;)V"⟩ : MethodName) jdk_42_method_150_code 5 none :: ws) ({ frames := 2, cells := 1, slots := 16, locals := 29 } : Room)) (fun a U => a = #[(.ref o0), (.ref o1), .null] ∧ Z.Warmed39 U.vm ∧ U.heap = h0) (fun _ _ _ _ _ => True) (fun _ U o U' => ∃ v L, o = .returned v ∧ Q_rmI2u Z o0 o1 vb kb cs h0 n0 v U'.heap L ∧ FrameEnd U o U' L ({ frames := 2, cells := 1, slots := 16, locals := 29 } : Room).cells ({ frames := 2, cells := 1, slots := 16, locals := 29 } : Room).slots) := by
  refine MetFree.of_bodySF (plainFor_of_name pn_java_lang_String) hisR ?_
  intro p e s m args below meth c s₁ Bd hml0 hP hK
  obtain ⟨rfl, hZ, hh⟩ := hP
  have hx := Bd.exec
  have hby := Bd.bytes
  have hml : c.maxLocals = 5 := hml0
  have hown : s.vm.findClass "java/lang/String" = some m.cls := findClass_of_methodNamed Bd.named
  have hnm := (name_of_methodNamed Bd.named Bd.method).1
  have hlk := Bd.notSynchronized
  have X0 : Stand p l e ({ frames := 2, cells := 1, slots := 16, locals := 29 } : Room) s m #[(.ref o0), (.ref o1), .null] below meth c s₁ [] 0 0 := Stand.of_body Bd
  have e0 : s₁.heap = h0 := by rw [← hh, Bd.state]; rfl
  have N0 := Fr.nil n0
  show own_G p.tables e below s (Q_rmI2u Z o0 o1 vb kb cs h0 n0) ({ frames := 2, cells := 1, slots := 16, locals := 29 } : Room).cells ({ frames := 2, cells := 1, slots := 16, locals := 29 } : Room).slots _
  refine own_thr (a := s₁.setTop (mkF m 0 #[.val (.ref o0), .val (.ref o1), .val .null, .unset, .unset] [])) (fun t kt => castTop (ef_rmI2u m o0 o1) kt) ?_
  refine own_thr (a := s₁.setTop (mkF m 1 #[.val (.ref o0), .val (.ref o1), .val .null, .unset, .unset] [(.ref o0)])) (fun t kt => ?_) ?_
  · show Steps p.tables e below (s₁.setTop (mkF m 0 #[.val (.ref o0), .val (.ref o1), .val .null, .unset, .unset] [])) _
    refine XS.aloadN X0.here hx rfl (hb hby d15_0) rfl rfl ?_
    exact kt
  obtain ⟨T1, X1, e1, st1⟩ := initO X0 hx hZ hown (hw _ (List.mem_of_getElem? (i := 103) rfl)) (hw _ (List.mem_of_getElem? (i := 21) rfl)) (hw _ (List.mem_of_getElem? (i := 22) rfl)) e0 (g := (mkF m 1 #[.val (.ref o0), .val (.ref o1), .val .null, .unset, .unset] [(.ref o0)])) rfl (by rw [hml]; rfl) rfl (hb hby d15_1) (by decide) (W := 0) (by show 2 * 0 + _ ≤ _; exact Nat.le_of_eq rfl) (by decide)
  refine own_thr (a := T1.setTop (mkF m 4 #[.val (.ref o0), .val (.ref o1), .val .null, .unset, .unset] [])) (fun t kt => st1 t kt) ?_
  refine own_thr (a := T1.setTop (mkF m 5 #[.val (.ref o0), .val (.ref o1), .val .null, .unset, .unset] [(.ref o1)])) (fun t kt => ?_) ?_
  · show Steps p.tables e below (T1.setTop (mkF m 4 #[.val (.ref o0), .val (.ref o1), .val .null, .unset, .unset] [])) _
    refine XS.aloadN X1.here hx rfl (hb hby d15_4) rfl rfl ?_
    exact kt
  obtain ⟨cq2, kq2, q2a, q2b, q2c⟩ := isOf hZ e1 E_o1
  obtain ⟨_, _, ⟨T2, L2, k2, n2⟩, -, X2, ⟨Lc2, hQ2, l2, y2, z2⟩, st2⟩ := X1.virtualBack hx (y := (⟨"java/lang/AbstractStringBuilder", "getValue", "()[B"⟩ : MethodName)) (z := (⟨"java/lang/AbstractStringBuilder", "getValue", "()[B"⟩ : MethodName)) hown (mvT hZ (hw _ (List.mem_of_getElem? (i := 104) rfl))) (mvT hZ (hw _ (List.mem_of_getElem? (i := 105) rfl))) (notFace_of_selects (args := #[]) (mvT hZ (hw _ (List.mem_of_getElem? (i := 107) rfl)))) (mvT hZ (hw _ (List.mem_of_getElem? (i := 107) rfl))) (mvT hZ (hw _ (List.mem_of_getElem? (i := 106) rfl))) (by decide) (backOf (W := 0) (rmGV l Z a0 hw [] o1 vb h0 n0 Z0 F_v1) hZ (hw _ (List.mem_of_getElem? (i := 108) rfl)) (hw _ (List.mem_of_getElem? (i := 18) rfl)) (by decide) (by decide)) q2a q2c (g := (mkF m 5 #[.val (.ref o0), .val (.ref o1), .val .null, .unset, .unset] [(.ref o1)])) rfl (by rw [hml]; rfl) (Steps.refl _) (argsL := []) (rest := []) (lenOf pd__28_29_5bB rfl) rfl (by show 2 * 0 + _ ≤ _; exact Nat.le_of_eq rfl) (hb hby d15_5) (fun _ _ => ⟨rfl, e1, (by decide : 0 + 0 ≤ _), (by decide : 0 + 0 ≤ _)⟩)
  dsimp only [Pt.U, Pt.locs, Pt.cells, Pt.slots] at X2 l2 y2 z2 st2 hQ2
  obtain ⟨rfl, N2q, e2⟩ := hQ2
  obtain ⟨lc2, X2, N2⟩ := own_pack X2 l2 y2 z2 N0 N2q (C := 0) (S' := 0) rfl rfl
  refine own_thr (a := T2.setTop (mkF m 8 #[.val (.ref o0), .val (.ref o1), .val .null, .unset, .unset] [(.ref vb)])) (fun t kt => st2.trans kt) ?_
  refine own_thr (a := T2.setTop (mkF m 10 #[.val (.ref o0), .val (.ref o1), .val .null, .val (.ref vb), .unset] [(.ref o1)])) (fun t kt => ?_) ?_
  · show Steps p.tables e below (T2.setTop (mkF m 8 #[.val (.ref o0), .val (.ref o1), .val .null, .unset, .unset] [(.ref vb)])) _
    refine XS.astoreN X2.here hx rfl (hb hby d15_8) rfl rfl (l' := #[.val (.ref o0), .val (.ref o1), .val .null, .val (.ref vb), .unset]) rfl ?_
    refine XS.aloadN X2.here hx rfl (hb hby d15_9) rfl rfl ?_
    exact kt
  obtain ⟨cq3, kq3, q3a, q3b, q3c⟩ := isOf hZ e2 E_o1
  obtain ⟨_, _, ⟨T3, L3, k3, n3⟩, -, X3, ⟨Lc3, hQ3, l3, y3, z3⟩, st3⟩ := X2.virtualBack hx (y := (⟨"java/lang/AbstractStringBuilder", "length", "()I"⟩ : MethodName)) (z := (⟨"java/lang/StringBuilder", "length", "()I"⟩ : MethodName)) hown (mvT hZ (hw _ (List.mem_of_getElem? (i := 109) rfl))) (mvT hZ (hw _ (List.mem_of_getElem? (i := 110) rfl))) (own_nf (args := #[]) (mvT hZ (hw _ (List.mem_of_getElem? (i := 62) rfl))) rfl) (mvT hZ (hw _ (List.mem_of_getElem? (i := 112) rfl))) (mvT hZ (hw _ (List.mem_of_getElem? (i := 113) rfl))) (by decide) (backOf (W := 0) (rmSLu l Z a0 hw [] o1 h0 n0 Z0 E_o1 F_n1) hZ (hw _ (List.mem_of_getElem? (i := 114) rfl)) (hw _ (List.mem_of_getElem? (i := 10) rfl)) (by decide) (by decide)) q3a q3c (g := (mkF m 10 #[.val (.ref o0), .val (.ref o1), .val .null, .val (.ref vb), .unset] [(.ref o1)])) rfl (by rw [hml]; rfl) (Steps.refl _) (argsL := []) (rest := []) (lenOf pd__28_29I rfl) rfl (by show 2 * 0 + _ ≤ _; exact Nat.le_of_eq rfl) (hb hby d15_10) (fun _ _ => ⟨rfl, e2, (by decide : 0 + 0 ≤ _), (by decide : 0 + 0 ≤ _)⟩)
  dsimp only [Pt.U, Pt.locs, Pt.cells, Pt.slots] at X3 l3 y3 z3 st3 hQ3
  obtain ⟨rfl, N3q, e3⟩ := hQ3
  obtain ⟨lc3, X3, N3⟩ := own_pack X3 l3 y3 z3 N2 N3q (C := 0) (S' := 0) rfl rfl
  refine own_thr (a := T3.setTop (mkF m 13 #[.val (.ref o0), .val (.ref o1), .val .null, .val (.ref vb), .unset] [(.int 16)])) (fun t kt => st3.trans kt) ?_
  refine own_thr (a := T3.setTop (mkF m 16 #[.val (.ref o0), .val (.ref o1), .val .null, .val (.ref vb), .val (.int 16)] [(.ref o1)])) (fun t kt => ?_) ?_
  · show Steps p.tables e below (T3.setTop (mkF m 13 #[.val (.ref o0), .val (.ref o1), .val .null, .val (.ref vb), .unset] [(.int 16)])) _
    refine XS.istore X3.here hx rfl (hb hby d15_13) rfl (l' := #[.val (.ref o0), .val (.ref o1), .val .null, .val (.ref vb), .val (.int 16)]) rfl ?_
    refine XS.aloadN X3.here hx rfl (hb hby d15_15) rfl rfl ?_
    exact kt
  obtain ⟨cq4, kq4, q4a, q4b, q4c⟩ := isOf hZ e3 E_o1
  obtain ⟨_, _, ⟨T4, L4, k4, n4⟩, -, X4, ⟨Lc4, hQ4, l4, y4, z4⟩, st4⟩ := X3.virtualBack hx (y := (⟨"java/lang/AbstractStringBuilder", "isLatin1", "()Z"⟩ : MethodName)) (z := (⟨"java/lang/AbstractStringBuilder", "isLatin1", "()Z"⟩ : MethodName)) hown (mvT hZ (hw _ (List.mem_of_getElem? (i := 117) rfl))) (mvT hZ (hw _ (List.mem_of_getElem? (i := 118) rfl))) (notFace_of_selects (args := #[]) (mvT hZ (hw _ (List.mem_of_getElem? (i := 120) rfl)))) (mvT hZ (hw _ (List.mem_of_getElem? (i := 120) rfl))) (mvT hZ (hw _ (List.mem_of_getElem? (i := 119) rfl))) (by decide) (backOf (W := 0) (rmIL l Z a0 hw [] o1 cs h0 n0 Z0 F_c1 S_cs hcs) hZ (hw _ (List.mem_of_getElem? (i := 121) rfl)) (hw _ (List.mem_of_getElem? (i := 18) rfl)) (by decide) (by decide)) q4a q4c (g := (mkF m 16 #[.val (.ref o0), .val (.ref o1), .val .null, .val (.ref vb), .val (.int 16)] [(.ref o1)])) rfl (by rw [hml]; rfl) (Steps.refl _) (argsL := []) (rest := []) (lenOf pd__28_29Z rfl) rfl (by show 2 * 0 + _ ≤ _; exact Nat.le_of_eq rfl) (hb hby d15_16) (fun _ _ => ⟨rfl, e3, (by decide : 0 + 0 ≤ _), (by decide : 0 + 0 ≤ _)⟩)
  dsimp only [Pt.U, Pt.locs, Pt.cells, Pt.slots] at X4 l4 y4 z4 st4 hQ4
  obtain ⟨rfl, N4q, e4⟩ := hQ4
  obtain ⟨lc4, X4, N4⟩ := own_pack X4 l4 y4 z4 N3 N4q (C := 0) (S' := 0) rfl rfl
  refine own_thr (a := T4.setTop (mkF m 19 #[.val (.ref o0), .val (.ref o1), .val .null, .val (.ref vb), .val (.int 16)] [(.int 1)])) (fun t kt => st4.trans kt) ?_
  refine own_thr (a := T4.setTop (mkF m 24 #[.val (.ref o0), .val (.ref o1), .val .null, .val (.ref vb), .val (.int 16)] [(.int 0), (.ref o0)])) (fun t kt => ?_) ?_
  · show Steps p.tables e below (T4.setTop (mkF m 19 #[.val (.ref o0), .val (.ref o1), .val .null, .val (.ref vb), .val (.int 16)] [(.int 1)])) _
    refine XS.ifNo X4.here hx rfl (hb hby d15_19) rfl ((if0 _ _).trans (feq (by decide)).1) ?_
    refine XS.aloadN X4.here hx rfl (hb hby d15_22) rfl rfl ?_
    refine XS.iconst X4.here hx rfl (hb hby d15_23) ?_
    exact kt
  obtain ⟨T5, h5, X5, e5, W5, st5⟩ := putFN X4 hx hZ hown (hw _ (List.mem_of_getElem? (i := 55) rfl)) Via.refl e4 F_c E_o0 (Or.inr ⟨(hw _ (List.mem_of_getElem? (i := 56) rfl)), rfl, hnm⟩) (hw _ (List.mem_of_getElem? (i := 85) rfl)) (ty := .byte) (v' := (.int 0)) (by decide) rfl rfl (g := (mkF m 24 #[.val (.ref o0), .val (.ref o1), .val .null, .val (.ref vb), .val (.int 16)] [(.int 0), (.ref o0)])) rfl rfl (hb hby d15_24)
  have Fw5 := F_c.same W5
  have Z6 : n0 ≤ h5.size := Nat.le_trans Z0 (Nat.le_of_eq W5.size.symm)
  have Z6h : h0.size ≤ h5.size := Nat.le_trans (Nat.le_refl h0.size) (Nat.le_of_eq W5.size.symm)
  obtain ⟨lc5, X5, N5⟩ := own_pack1 X5 N4 g_o0
  refine own_thr (a := T5.setTop (mkF m 27 #[.val (.ref o0), .val (.ref o1), .val .null, .val (.ref vb), .val (.int 16)] [])) (fun t kt => st5 t kt) ?_
  refine own_thr (a := T5.setTop (mkF m 32 #[.val (.ref o0), .val (.ref o1), .val .null, .val (.ref vb), .val (.int 16)] [(.int 16), (.int 0), (.ref vb), (.ref o0)])) (fun t kt => ?_) ?_
  · show Steps p.tables e below (T5.setTop (mkF m 27 #[.val (.ref o0), .val (.ref o1), .val .null, .val (.ref vb), .val (.int 16)] [])) _
    refine XS.aloadN X5.here hx rfl (hb hby d15_27) rfl rfl ?_
    refine XS.aloadN X5.here hx rfl (hb hby d15_28) rfl rfl ?_
    refine XS.iconst X5.here hx rfl (hb hby d15_29) ?_
    refine XS.iload X5.here hx rfl (hb hby d15_30) rfl ?_
    exact kt
  obtain ⟨_, _, ⟨T7, L7, k7, n7⟩, -, X7, ⟨Lc7, hQ7, l7, y7, z7⟩, st7⟩ := Jvm.LawKit.callS X5 hx (y := (⟨"java/util/Arrays", "copyOfRange", "([BII)[B"⟩ : MethodName)) hown (mvT hZ (hw _ (List.mem_of_getElem? (i := 122) rfl))) (mvT hZ (hw _ (List.mem_of_getElem? (i := 123) rfl))) (mvT hZ (hw _ (List.mem_of_getElem? (i := 124) rfl))) (mvT hZ (hw _ (List.mem_of_getElem? (i := 125) rfl))) (by decide) (backOf (W := 1) (rmCRu l Z a0 hw [] vb kb h5 n0 Z6 (V_vb.other W5 ne_vb_o0) (E_vb.wr W5)) hZ (hw _ (List.mem_of_getElem? (i := 125) rfl)) (hw _ (List.mem_of_getElem? (i := 124) rfl)) (by decide) (by decide)) (g := (mkF m 32 #[.val (.ref o0), .val (.ref o1), .val .null, .val (.ref vb), .val (.int 16)] [(.int 16), (.int 0), (.ref vb), (.ref o0)])) rfl (by rw [hml]; rfl) (argsL := [(.ref vb), (.int 0), (.int 16)]) (rest := [(.ref o0)]) (lenOf pd__28_5bBII_29_5bB rfl) rfl (by show 2 * 0 + _ ≤ _; exact Nat.le_of_eq rfl) (hb hby d15_32) (fun _ _ => ⟨rfl, e5, (by decide : 0 + 1 ≤ _), (by decide : 0 + 16 ≤ _)⟩)
  dsimp only [Pt.U, Pt.locs, Pt.cells, Pt.slots] at X7 l7 y7 z7 st7 hQ7
  obtain ⟨r7, rfl, N7q, K7, o7_0, o7_1⟩ := hQ7
  have Z8 : n0 ≤ T7.heap.size := Nat.le_trans Z6 K7.1
  have Z8h : h0.size ≤ T7.heap.size := Nat.le_trans Z6h K7.1
  obtain ⟨lc7, X7, N7⟩ := own_pack X7 l7 y7 z7 N5 N7q (C := 1) (S' := 16) rfl rfl
  refine own_thr (a := T7.setTop (mkF m 35 #[.val (.ref o0), .val (.ref o1), .val .null, .val (.ref vb), .val (.int 16)] [(.ref r7), (.ref o0)])) (fun t kt => st7 t kt) ?_
  obtain ⟨kq7, Vq7⟩ := o7_0
  have ne_o0_r7 : o0 ≠ r7 := Nat.ne_of_lt (Nat.lt_of_lt_of_le (E_o0.wr W5).lt o7_1)
  have c9 := ((F_v.other W5 (Or.inr (slot_ne (Or.inr (hw _ (List.mem_of_getElem? (i := 48) rfl))) (Or.inr (hw _ (List.mem_of_getElem? (i := 56) rfl))) (by decide) (t := (.array .byte)) (t' := .byte) (by decide) (by decide)))).keep K7 nin0)
  obtain ⟨T10, h10, X10, e10, W10, st10⟩ := putF X7 hx hZ hown (host := "") (Or.inl (hw _ (List.mem_of_getElem? (i := 47) rfl))) Via.refl rfl c9 ((E_o0.wr W5).keep K7) (Or.inr ⟨(hw _ (List.mem_of_getElem? (i := 48) rfl)), rfl, hnm⟩) (hw _ (List.mem_of_getElem? (i := 85) rfl)) (ty := (.array .byte)) (by decide) rfl rfl (g := (mkF m 35 #[.val (.ref o0), .val (.ref o1), .val .null, .val (.ref vb), .val (.int 16)] [(.ref r7), (.ref o0)])) rfl rfl (hb hby d15_35)
  have Fw10 := c9.same W10
  have Z11 : n0 ≤ h10.size := Nat.le_trans Z8 (Nat.le_of_eq W10.size.symm)
  have Z11h : h0.size ≤ h10.size := Nat.le_trans Z8h (Nat.le_of_eq W10.size.symm)
  obtain ⟨lc10, X10, N10⟩ := own_pack1 X10 N7 g_o0
  refine own_thr (a := T10.setTop (mkF m 38 #[.val (.ref o0), .val (.ref o1), .val .null, .val (.ref vb), .val (.int 16)] [])) (fun t kt => st10 t kt) ?_
  refine own_thr (a := T10.setTop (mkF m 97 #[.val (.ref o0), .val (.ref o1), .val .null, .val (.ref vb), .val (.int 16)] [])) (fun t kt => ?_) ?_
  · show Steps p.tables e below (T10.setTop (mkF m 38 #[.val (.ref o0), .val (.ref o1), .val .null, .val (.ref vb), .val (.int 16)] [])) _
    refine XS.goto X10.here hx rfl (pc0 := 38) (pc' := 97) rfl (hb hby d15_38) (by decide) (by decide) ?_
    exact kt
  have c12 := ((Fw5.keep K7 nin0).other W10 (Or.inr (slot_ne (Or.inr (hw _ (List.mem_of_getElem? (i := 56) rfl))) (Or.inr (hw _ (List.mem_of_getElem? (i := 48) rfl))) (by decide) (t := .byte) (t' := (.array .byte)) (by decide) (by decide))))
  exact own_end X10 hlk (v := none) (fun _ => rfl) (fun fs hr => X10.returnOut hx Bd.returns (hb hby d15_97) hr) (by rw [e10]; exact ⟨rfl, N10, ((((Keep.refl h0 [o0]).wr W5 (Or.inl (List.mem_of_getElem? (i := 0) rfl))).trans K7 all0).wr W10 (Or.inl (List.mem_of_getElem? (i := 0) rfl))), (((E_o0.wr W5).keep K7).wr W10), c12, r7, _, Fw10, (Vq7.other W10 (Ne.symm ne_o0_r7))⟩) (by decide : 1 ≤ _) (by decide : 16 ≤ _)
theorem d14_0 : decode jdk_42_method_53_code 0 = .ok (.aload_n 0, 1) := by decide +kernel
theorem d14_1 : decode jdk_42_method_53_code 1 = .ok (.aload_n 1, 1) := by decide +kernel
theorem d14_2 : decode jdk_42_method_53_code 2 = .ok (.aconst_null, 1) := by decide +kernel
theorem pd__28Ljava_2flang_2fAbstractStringBuilder_3bLjava_2flang_2fVoid_3b_29V : parseMethodDescriptor "(Ljava/lang/AbstractStringBuilder;Ljava/lang/Void;)V" = some ⟨[(.object "java/lang/AbstractStringBuilder"), (.object "java/lang/Void")], none⟩ := by decide +kernel
theorem d14_3 : decode jdk_42_method_53_code 3 = .ok (.invokespecial 489, 3) := by decide +kernel
theorem d14_6 : decode jdk_42_method_53_code 6 = .ok (.return_, 1) := by decide +kernel
theorem ef_rmI1u (m : MethodId) (o0 : Addr) (o1 : Addr)  : entryFrame m #[(.ref o0), (.ref o1)] 2 = mkF m 0 #[.val (.ref o0), .val (.ref o1)] [] := by first |  (simp [entryFrame, mkF, argsToLocals, Value.category]; done) | rfl
def Q_rmI1u (Z : State) (o0 : Addr) (o1 : Addr) (vb : Addr) (kb : ClassId) (cs : Int32) (h0 : Heap) (n0 : Nat) (v : Option Value) (h : Heap) (L : List Loc) : Prop := v = none ∧ Fr n0 L ∧ Keep h0 h [o0] ∧ Exa Z h o0 "java/lang/String" ∧ Fld Z h o0 "java/lang/String" "coder" "B" (.int 0) ∧ (∃ (b : Addr) (k : ClassId), Fld Z h o0 "java/lang/String" "value" "[B" (.ref b) ∧ Arv Z h b k .byte (16 : Int32) [(.int 45), (.int 45), (.int 117), (.int 114), (.int 108), (.int 32), (.int 60), (.int 74), (.int 68), (.int 66), (.int 67), (.int 32), (.int 85), (.int 82), (.int 76), (.int 62)] (.int 0))
set_option maxRecDepth 65536 in
set_option maxHeartbeats 40000000 in
theorem rmI1u (l : Launch) (Z : State) (a0 : Array Value) (hw : ∀ d ∈ tables_1, d.before a0 Z = true) (ws : List Jvm.Cond) (o0 : Addr) (o1 : Addr) (vb : Addr) (kb : ClassId) (cs : Int32) (h0 : Heap) (n0 : Nat) (Z0 : n0 ≤ h0.size) (E_o0 : Exa Z h0 o0 "java/lang/String") (F_v : Fld Z h0 o0 "java/lang/String" "value" "[B" .null) (F_c : Fld Z h0 o0 "java/lang/String" "coder" "B" (.int 0)) (E_o1 : Exa Z h0 o1 "java/lang/StringBuilder") (F_v1 : Fld Z h0 o1 "java/lang/AbstractStringBuilder" "value" "[B" (.ref vb)) (F_c1 : Fld Z h0 o1 "java/lang/AbstractStringBuilder" "coder" "B" (.int 0)) (F_n1 : Fld Z h0 o1 "java/lang/AbstractStringBuilder" "count" "I" (.int 16)) (V_vb : Arv Z h0 vb kb .byte (16 : Int32) [(.int 45), (.int 45), (.int 117), (.int 114), (.int 108), (.int 32), (.int 60), (.int 74), (.int 68), (.int 66), (.int 67), (.int 32), (.int 85), (.int 82), (.int 76), (.int 62)] (.int 0)) (E_vb : Exa Z h0 vb "[B") (g_o0 : n0 ≤ o0) (ne_o1_o0 : o1 ≠ o0) (ne_vb_o0 : vb ≠ o0) (S_cs : Sta Z h0 "java/lang/String" "COMPACT_STRINGS" "Z" (.int cs)) (hcs : ¬ cs = (0 : Int32)) :
    MetFree l (⟨"java/lang/String", "<init>", "(Ljava/lang/StringBuilder;)V"⟩ : MethodName) (head1 (Jvm.Cond.code (⟨"java/lang/String", "<init>", "(Ljava/lang/StringBuilder;)V"⟩ : MethodName) jdk_42_method_53_code 2 none :: ws) ({ frames := 3, cells := 1, slots := 16, locals := 45 } : Room)) (fun a U => a = #[(.ref o0), (.ref o1)] ∧ Z.Warmed39 U.vm ∧ U.heap = h0) (fun _ _ _ _ _ => True) (fun _ U o U' => ∃ v L, o = .returned v ∧ Q_rmI1u Z o0 o1 vb kb cs h0 n0 v U'.heap L ∧ FrameEnd U o U' L ({ frames := 3, cells := 1, slots := 16, locals := 45 } : Room).cells ({ frames := 3, cells := 1, slots := 16, locals := 45 } : Room).slots) := by
  refine MetFree.of_bodySF (plainFor_of_name pn_java_lang_String) hisR ?_
  intro p e s m args below meth c s₁ Bd hml0 hP hK
  obtain ⟨rfl, hZ, hh⟩ := hP
  have hx := Bd.exec
  have hby := Bd.bytes
  have hml : c.maxLocals = 2 := hml0
  have hown : s.vm.findClass "java/lang/String" = some m.cls := findClass_of_methodNamed Bd.named
  have hnm := (name_of_methodNamed Bd.named Bd.method).1
  have hlk := Bd.notSynchronized
  have X0 : Stand p l e ({ frames := 3, cells := 1, slots := 16, locals := 45 } : Room) s m #[(.ref o0), (.ref o1)] below meth c s₁ [] 0 0 := Stand.of_body Bd
  have e0 : s₁.heap = h0 := by rw [← hh, Bd.state]; rfl
  have N0 := Fr.nil n0
  show own_G p.tables e below s (Q_rmI1u Z o0 o1 vb kb cs h0 n0) ({ frames := 3, cells := 1, slots := 16, locals := 45 } : Room).cells ({ frames := 3, cells := 1, slots := 16, locals := 45 } : Room).slots _
  refine own_thr (a := s₁.setTop (mkF m 0 #[.val (.ref o0), .val (.ref o1)] [])) (fun t kt => castTop (ef_rmI1u m o0 o1) kt) ?_
  refine own_thr (a := s₁.setTop (mkF m 3 #[.val (.ref o0), .val (.ref o1)] [.null, (.ref o1), (.ref o0)])) (fun t kt => ?_) ?_
  · show Steps p.tables e below (s₁.setTop (mkF m 0 #[.val (.ref o0), .val (.ref o1)] [])) _
    refine XS.aloadN X0.here hx rfl (hb hby d14_0) rfl rfl ?_
    refine XS.aloadN X0.here hx rfl (hb hby d14_1) rfl rfl ?_
    refine XS.aconstNull X0.here hx rfl (hb hby d14_2) ?_
    exact kt
  obtain ⟨_, _, ⟨T1, L1, k1, n1⟩, -, X1, ⟨Lc1, hQ1, l1, y1, z1⟩, st1⟩ := X0.specialBack hx (y := (⟨"java/lang/String", "<init>", "(Ljava/lang/AbstractStringBuilder;Ljava/lang/Void;)V"⟩ : MethodName)) rfl hown (mvT hZ (hw _ (List.mem_of_getElem? (i := 100) rfl))) (mvT hZ (hw _ (List.mem_of_getElem? (i := 101) rfl))) (mvT hZ (hw _ (List.mem_of_getElem? (i := 102) rfl))) (by decide) (backOf (W := 0) (rmI2u l Z a0 hw [] o0 o1 vb kb cs h0 n0 Z0 E_o0 F_v F_c E_o1 F_v1 F_c1 F_n1 V_vb E_vb g_o0 ne_o1_o0 ne_vb_o0 S_cs hcs) hZ (hw _ (List.mem_of_getElem? (i := 102) rfl)) (hw _ (List.mem_of_getElem? (i := 24) rfl)) (by decide) (by decide)) (g := (mkF m 3 #[.val (.ref o0), .val (.ref o1)] [.null, (.ref o1), (.ref o0)])) rfl (by rw [hml]; rfl) (Steps.refl _) (a := o0) (argsL := [(.ref o1), .null]) (rest := []) (lenOf pd__28Ljava_2flang_2fAbstractStringBuilder_3bLjava_2flang_2fVoid_3b_29V rfl) rfl (by show 2 * 0 + _ ≤ _; exact Nat.le_of_eq rfl) (hb hby d14_3) (fun _ _ => ⟨rfl, e0, (by decide : 0 + 1 ≤ _), (by decide : 0 + 16 ≤ _)⟩)
  dsimp only [Pt.U, Pt.locs, Pt.cells, Pt.slots] at X1 l1 y1 z1 st1 hQ1
  obtain ⟨rfl, N1q, K1, o1_e, o1_c, sv1, ks1, o1_v, o1_a⟩ := hQ1
  have Z2 : n0 ≤ T1.heap.size := Nat.le_trans Z0 K1.1
  have Z2h : h0.size ≤ T1.heap.size := Nat.le_trans (Nat.le_refl h0.size) K1.1
  obtain ⟨lc1, X1, N1⟩ := own_pack X1 l1 y1 z1 N0 N1q (C := 1) (S' := 16) rfl rfl
  refine own_thr (a := T1.setTop (mkF m 6 #[.val (.ref o0), .val (.ref o1)] [])) (fun t kt => st1.trans kt) ?_
  exact own_end X1 hlk (v := none) (fun _ => rfl) (fun fs hr => X1.returnOut hx Bd.returns (hb hby d14_6) hr) ⟨rfl, N1, ((Keep.refl h0 [o0]).trans K1 (allS (Or.inl (List.mem_of_getElem? (i := 0) rfl)) all0)), o1_e, o1_c, sv1, _, o1_v, o1_a⟩ (by decide : 1 ≤ _) (by decide : 16 ≤ _)
theorem d13_0 : decode jdk_67_method_42_code 0 = .ok (.new 18, 3) := by decide +kernel
theorem d13_3 : decode jdk_67_method_42_code 3 = .ok (.dup, 1) := by decide +kernel
theorem d13_4 : decode jdk_67_method_42_code 4 = .ok (.aload_n 0, 1) := by decide +kernel
theorem pd__28Ljava_2flang_2fStringBuilder_3b_29V : parseMethodDescriptor "(Ljava/lang/StringBuilder;)V" = some ⟨[(.object "java/lang/StringBuilder")], none⟩ := by decide +kernel
theorem d13_5 : decode jdk_67_method_42_code 5 = .ok (.invokespecial 137, 3) := by decide +kernel
theorem d13_8 : decode jdk_67_method_42_code 8 = .ok (.areturn, 1) := by decide +kernel
theorem ef_rmTSu (m : MethodId) (o1 : Addr)  : entryFrame m #[(.ref o1)] 1 = mkF m 0 #[.val (.ref o1)] [] := by first |  (simp [entryFrame, mkF, argsToLocals, Value.category]; done) | rfl
def Q_rmTSu (Z : State) (o1 : Addr) (vb : Addr) (kb : ClassId) (cs : Int32) (h0 : Heap) (n0 : Nat) (v : Option Value) (h : Heap) (L : List Loc) : Prop := ∃ r : Addr, v = some (.ref r) ∧ Fr n0 L ∧ Keep h0 h [] ∧ Exa Z h r "java/lang/String" ∧ Fld Z h r "java/lang/String" "coder" "B" (.int 0) ∧ (∃ (b : Addr) (k : ClassId), Fld Z h r "java/lang/String" "value" "[B" (.ref b) ∧ Arv Z h b k .byte (16 : Int32) [(.int 45), (.int 45), (.int 117), (.int 114), (.int 108), (.int 32), (.int 60), (.int 74), (.int 68), (.int 66), (.int 67), (.int 32), (.int 85), (.int 82), (.int 76), (.int 62)] (.int 0))
set_option maxRecDepth 65536 in
set_option maxHeartbeats 40000000 in
theorem rmTSu (l : Launch) (Z : State) (a0 : Array Value) (hw : ∀ d ∈ tables_1, d.before a0 Z = true) (ws : List Jvm.Cond) (o1 : Addr) (vb : Addr) (kb : ClassId) (cs : Int32) (h0 : Heap) (n0 : Nat) (Z0 : n0 ≤ h0.size) (E_o1 : Exa Z h0 o1 "java/lang/StringBuilder") (F_v1 : Fld Z h0 o1 "java/lang/AbstractStringBuilder" "value" "[B" (.ref vb)) (F_c1 : Fld Z h0 o1 "java/lang/AbstractStringBuilder" "coder" "B" (.int 0)) (F_n1 : Fld Z h0 o1 "java/lang/AbstractStringBuilder" "count" "I" (.int 16)) (V_vb : Arv Z h0 vb kb .byte (16 : Int32) [(.int 45), (.int 45), (.int 117), (.int 114), (.int 108), (.int 32), (.int 60), (.int 74), (.int 68), (.int 66), (.int 67), (.int 32), (.int 85), (.int 82), (.int 76), (.int 62)] (.int 0)) (E_vb : Exa Z h0 vb "[B") (S_cs : Sta Z h0 "java/lang/String" "COMPACT_STRINGS" "Z" (.int cs)) (hcs : ¬ cs = (0 : Int32)) :
    MetFree l (⟨"java/lang/StringBuilder", "toString", "()Ljava/lang/String;"⟩ : MethodName) (head1 (Jvm.Cond.code (⟨"java/lang/StringBuilder", "toString", "()Ljava/lang/String;"⟩ : MethodName) jdk_67_method_42_code 1 (some (.object "java/lang/String")) :: ws) ({ frames := 4, cells := 2, slots := 20, locals := 59 } : Room)) (fun a U => a = #[(.ref o1)] ∧ Z.Warmed39 U.vm ∧ U.heap = h0) (fun _ _ _ _ _ => True) (fun _ U o U' => ∃ v L, o = .returned v ∧ Q_rmTSu Z o1 vb kb cs h0 n0 v U'.heap L ∧ FrameEnd U o U' L ({ frames := 4, cells := 2, slots := 20, locals := 59 } : Room).cells ({ frames := 4, cells := 2, slots := 20, locals := 59 } : Room).slots) := by
  refine MetFree.of_bodySF (plainFor_of_name pn_java_lang_StringBuilder) hisR ?_
  intro p e s m args below meth c s₁ Bd hml0 hP hK
  obtain ⟨rfl, hZ, hh⟩ := hP
  have hx := Bd.exec
  have hby := Bd.bytes
  have hml : c.maxLocals = 1 := hml0
  have hown : s.vm.findClass "java/lang/StringBuilder" = some m.cls := findClass_of_methodNamed Bd.named
  have hnm := (name_of_methodNamed Bd.named Bd.method).1
  have hlk := Bd.notSynchronized
  have X0 : Stand p l e ({ frames := 4, cells := 2, slots := 20, locals := 59 } : Room) s m #[(.ref o1)] below meth c s₁ [] 0 0 := Stand.of_body Bd
  have e0 : s₁.heap = h0 := by rw [← hh, Bd.state]; rfl
  have N0 := Fr.nil n0
  show own_G p.tables e below s (Q_rmTSu Z o1 vb kb cs h0 n0) ({ frames := 4, cells := 2, slots := 20, locals := 59 } : Room).cells ({ frames := 4, cells := 2, slots := 20, locals := 59 } : Room).slots _
  refine own_thr (a := s₁.setTop (mkF m 0 #[.val (.ref o1)] [])) (fun t kt => castTop (ef_rmTSu m o1) kt) ?_
  obtain ⟨T1, h1, X1, e1, E1, A1, D1, U1, st1⟩ := newO X0 hx hZ hown (hw _ (List.mem_of_getElem? (i := 95) rfl)) (hw _ (List.mem_of_getElem? (i := 85) rfl)) (hw _ (List.mem_of_getElem? (i := 24) rfl)) e0 (g := (mkF m 0 #[.val (.ref o1)] [])) rfl (hb hby d13_0) (by decide : 0 + 1 ≤ _) (by decide : 0 + 4 ≤ _)
  obtain ⟨b1, g1⟩ : ∃ z, z = h0.size := ⟨_, rfl⟩
  rw [← g1] at A1 D1 st1 U1
  have g_b1 : n0 ≤ b1 := Nat.le_trans Z0 (Nat.le_of_eq g1.symm)
  have sz_b1 : h0.size ≤ b1 := Nat.le_trans (Nat.le_refl h0.size) (Nat.le_of_eq g1.symm)
  have lt_o1_b1 : o1 < b1 := Nat.lt_of_lt_of_le E_o1.lt (Nat.le_of_eq g1.symm)
  have ne_o1_b1 : o1 ≠ b1 := Nat.ne_of_lt lt_o1_b1
  have lt_vb_b1 : vb < b1 := Nat.lt_of_lt_of_le V_vb.lt (Nat.le_of_eq g1.symm)
  have ne_vb_b1 : vb ≠ b1 := Nat.ne_of_lt lt_vb_b1
  have Z2 : n0 ≤ h1.size := Nat.le_trans Z0 E1.1
  have Z2h : h0.size ≤ h1.size := Nat.le_trans (Nat.le_refl h0.size) E1.1
  have F_value_b1 : Fld Z h1 b1 "java/lang/String" "value" "[B" .null := D1 (Or.inr (hw _ (List.mem_of_getElem? (i := 48) rfl))) (ty := (.array .byte)) (by decide)
  have F_coder_b1 : Fld Z h1 b1 "java/lang/String" "coder" "B" (.int 0) := D1 (Or.inr (hw _ (List.mem_of_getElem? (i := 56) rfl))) (ty := .byte) (by decide)
  refine own_thr (a := T1.setTop (mkF m 3 #[.val (.ref o1)] [(.ref b1)])) (fun t kt => st1 t kt) ?_
  refine own_thr (a := T1.setTop (mkF m 5 #[.val (.ref o1)] [(.ref o1), (.ref b1), (.ref b1)])) (fun t kt => ?_) ?_
  · show Steps p.tables e below (T1.setTop (mkF m 3 #[.val (.ref o1)] [(.ref b1)])) _
    refine XS.dup X1.here hx rfl (hb hby d13_3) rfl rfl ?_
    refine XS.aloadN X1.here hx rfl (hb hby d13_4) rfl rfl ?_
    exact kt
  obtain ⟨_, _, ⟨T3, L3, k3, n3⟩, -, X3, ⟨Lc3, hQ3, l3, y3, z3⟩, st3⟩ := X1.specialBack hx (y := (⟨"java/lang/String", "<init>", "(Ljava/lang/StringBuilder;)V"⟩ : MethodName)) rfl hown (mvT hZ (hw _ (List.mem_of_getElem? (i := 96) rfl))) (mvT hZ (hw _ (List.mem_of_getElem? (i := 97) rfl))) (mvT hZ (hw _ (List.mem_of_getElem? (i := 99) rfl))) (by decide) (backOf (W := 1) (rmI1u l Z a0 hw [] b1 o1 vb kb cs h1 n0 Z2 A1 F_value_b1 F_coder_b1 (E_o1.ext E1) (F_v1.ext E1) (F_c1.ext E1) (F_n1.ext E1) (V_vb.ext E1) (E_vb.ext E1) g_b1 ne_o1_b1 ne_vb_b1 (S_cs.ext E1) hcs) hZ (hw _ (List.mem_of_getElem? (i := 99) rfl)) (hw _ (List.mem_of_getElem? (i := 24) rfl)) (by decide) (by decide)) (g := (mkF m 5 #[.val (.ref o1)] [(.ref o1), (.ref b1), (.ref b1)])) rfl (by rw [hml]; rfl) (Steps.refl _) (a := b1) (argsL := [(.ref o1)]) (rest := [(.ref b1)]) (lenOf pd__28Ljava_2flang_2fStringBuilder_3b_29V rfl) rfl (by show 2 * 0 + _ ≤ _; exact Nat.le_of_eq rfl) (hb hby d13_5) (fun _ _ => ⟨rfl, e1, (by decide : 1 + 1 ≤ _), (by decide : 4 + 16 ≤ _)⟩)
  dsimp only [Pt.U, Pt.locs, Pt.cells, Pt.slots] at X3 l3 y3 z3 st3 hQ3
  obtain ⟨rfl, N3q, K3, o3_e, o3_c, sv3, ks3, o3_v, o3_a⟩ := hQ3
  have Z4 : n0 ≤ T3.heap.size := Nat.le_trans Z2 K3.1
  have Z4h : h0.size ≤ T3.heap.size := Nat.le_trans Z2h K3.1
  obtain ⟨lc3, X3, N3⟩ := own_pack X3 l3 y3 z3 N0 N3q (C := 2) (S' := 20) rfl rfl
  refine own_thr (a := T3.setTop (mkF m 8 #[.val (.ref o1)] [(.ref b1)])) (fun t kt => st3.trans kt) ?_
  exact own_end X3 hlk (v := some (.ref b1)) (fun h => by rw [Bd.returns] at h; cases h) (fun fs hr => retA X3 hx Bd.returns rfl rfl (hb hby d13_8) hr) ⟨b1, rfl, N3, (((Keep.refl h0 []).ext E1).trans K3 (allS (Or.inr sz_b1) all0)), o3_e, o3_c, sv3, _, o3_v, o3_a⟩ (by decide : 2 ≤ _) (by decide : 20 ≤ _)
theorem ef_rmLNq1 (m : MethodId) (o0 : Addr)  : entryFrame m #[(.ref o0)] 1 = mkF m 0 #[.val (.ref o0)] [] := by first |  (simp [entryFrame, mkF, argsToLocals, Value.category]; done) | rfl
def Q_rmLNq1 (Z : State) (o0 : Addr) (sv : Addr) (ks : ClassId) (cs : Int32) (h0 : Heap) (n0 : Nat) (v : Option Value) (h : Heap) (L : List Loc) : Prop := v = some (.int 7) ∧ Fr n0 L ∧ h = h0
set_option maxRecDepth 65536 in
set_option maxHeartbeats 40000000 in
theorem rmLNq1 (l : Launch) (Z : State) (a0 : Array Value) (hw : ∀ d ∈ tables_1, d.before a0 Z = true) (ws : List Jvm.Cond) (o0 : Addr) (sv : Addr) (ks : ClassId) (cs : Int32) (h0 : Heap) (n0 : Nat) (Z0 : n0 ≤ h0.size) (E_o0 : Exa Z h0 o0 "java/lang/String") (F_value_o0 : Fld Z h0 o0 "java/lang/String" "value" "[B" (.ref sv)) (F_coder_o0 : Fld Z h0 o0 "java/lang/String" "coder" "B" (.int 0)) (V_sv : Arv Z h0 sv ks .byte (7 : Int32) [(.int 45), (.int 45), (.int 113), (.int 117), (.int 101), (.int 117), (.int 101)] (.int 0)) (S_COMPACT_STRINGS : Sta Z h0 "java/lang/String" "COMPACT_STRINGS" "Z" (.int cs)) (hcs : ¬ cs = (0 : Int32)) :
    MetFree l (⟨"java/lang/String", "length", "()I"⟩ : MethodName) (head1 (Jvm.Cond.code (⟨"java/lang/String", "length", "()I"⟩ : MethodName) jdk_42_method_54_code 1 (some .int) :: ws) ({ frames := 1, cells := 0, slots := 0, locals := 13 } : Room)) (fun a U => a = #[(.ref o0)] ∧ Z.Warmed39 U.vm ∧ U.heap = h0) (fun _ _ _ _ _ => True) (fun _ U o U' => ∃ v L, o = .returned v ∧ Q_rmLNq1 Z o0 sv ks cs h0 n0 v U'.heap L ∧ FrameEnd U o U' L ({ frames := 1, cells := 0, slots := 0, locals := 13 } : Room).cells ({ frames := 1, cells := 0, slots := 0, locals := 13 } : Room).slots) := by
  refine MetFree.of_bodySF (plainFor_of_name pn_java_lang_String) hisR ?_
  intro p e s m args below meth c s₁ Bd hml0 hP hK
  obtain ⟨rfl, hZ, hh⟩ := hP
  have hx := Bd.exec
  have hby := Bd.bytes
  have hml : c.maxLocals = 1 := hml0
  have hown : s.vm.findClass "java/lang/String" = some m.cls := findClass_of_methodNamed Bd.named
  have hnm := (name_of_methodNamed Bd.named Bd.method).1
  have hlk := Bd.notSynchronized
  have X0 : Stand p l e ({ frames := 1, cells := 0, slots := 0, locals := 13 } : Room) s m #[(.ref o0)] below meth c s₁ [] 0 0 := Stand.of_body Bd
  have e0 : s₁.heap = h0 := by rw [← hh, Bd.state]; rfl
  have N0 := Fr.nil n0
  show own_G p.tables e below s (Q_rmLNq1 Z o0 sv ks cs h0 n0) ({ frames := 1, cells := 0, slots := 0, locals := 13 } : Room).cells ({ frames := 1, cells := 0, slots := 0, locals := 13 } : Room).slots _
  refine own_thr (a := s₁.setTop (mkF m 0 #[.val (.ref o0)] [])) (fun t kt => castTop (ef_rmLNq1 m o0) kt) ?_
  refine own_thr (a := s₁.setTop (mkF m 1 #[.val (.ref o0)] [(.ref o0)])) (fun t kt => ?_) ?_
  · show Steps p.tables e below (s₁.setTop (mkF m 0 #[.val (.ref o0)] [])) _
    refine XS.aloadN X0.here hx rfl (hb hby d7_0) rfl rfl ?_
    exact kt
  obtain ⟨T1, X1, e1, st1⟩ := getF X0 hx hZ hown (host := "") (Or.inl (hw _ (List.mem_of_getElem? (i := 47) rfl))) Via.refl e0 F_value_o0 (g := (mkF m 1 #[.val (.ref o0)] [(.ref o0)])) rfl rfl (hb hby d7_1)
  refine own_thr (a := T1.setTop (mkF m 4 #[.val (.ref o0)] [(.ref sv)])) (fun t kt => st1 t kt) ?_
  obtain ⟨cl2, Ar2, -, S2, M2, -, -⟩ := id V_sv
  refine own_thr (a := T1.setTop (mkF m 6 #[.val (.ref o0)] [(.ref o0), (.int 7)])) (fun t kt => ?_) ?_
  · show Steps p.tables e below (T1.setTop (mkF m 4 #[.val (.ref o0)] [(.ref sv)])) _
    refine X1.arraylength hx (by rw [e1]; exact Ar2.1) (State.isArrayOf_alike hZ.alike Ar2.2.1) (g := (mkF m 4 #[.val (.ref o0)] [(.ref sv)])) rfl rfl (hb hby d7_4) _ ?_
    rw [len_of S2 M2]
    refine XS.aloadN X1.here hx rfl (hb hby d7_5) rfl rfl ?_
    exact kt
  obtain ⟨cq3, kq3, q3a, q3b, q3c⟩ := isOf hZ e1 E_o0
  obtain ⟨_, _, ⟨T3, L3, k3, n3⟩, -, X3, ⟨Lc3, hQ3, l3, y3, z3⟩, st3⟩ := X1.virtualBack hx (y := (⟨"java/lang/String", "coder", "()B"⟩ : MethodName)) (z := (⟨"java/lang/String", "coder", "()B"⟩ : MethodName)) hown (mvT hZ (hw _ (List.mem_of_getElem? (i := 49) rfl))) (mvT hZ (hw _ (List.mem_of_getElem? (i := 50) rfl))) (notFace_of_selects (args := #[]) (mvT hZ (hw _ (List.mem_of_getElem? (i := 52) rfl)))) (mvT hZ (hw _ (List.mem_of_getElem? (i := 52) rfl))) (mvT hZ (hw _ (List.mem_of_getElem? (i := 51) rfl))) (by decide) (backOf (W := 1) (rmCO l Z a0 hw [] o0 cs h0 n0 Z0 F_coder_o0 S_COMPACT_STRINGS hcs) hZ (hw _ (List.mem_of_getElem? (i := 53) rfl)) (hw _ (List.mem_of_getElem? (i := 24) rfl)) (by decide) (by decide)) q3a q3c (g := (mkF m 6 #[.val (.ref o0)] [(.ref o0), (.int 7)])) rfl (by rw [hml]; rfl) (Steps.refl _) (argsL := []) (rest := [(.int 7)]) (lenOf pd__28_29B rfl) rfl (by show 2 * 0 + _ ≤ _; exact Nat.le_of_eq rfl) (hb hby d7_6) (fun _ _ => ⟨rfl, e1, (by decide : 0 + 0 ≤ _), (by decide : 0 + 0 ≤ _)⟩)
  dsimp only [Pt.U, Pt.locs, Pt.cells, Pt.slots] at X3 l3 y3 z3 st3 hQ3
  obtain ⟨rfl, N3q, e3⟩ := hQ3
  obtain ⟨lc3, X3, N3⟩ := own_pack X3 l3 y3 z3 N0 N3q (C := 0) (S' := 0) rfl rfl
  refine own_thr (a := T3.setTop (mkF m 9 #[.val (.ref o0)] [(.int 0), (.int 7)])) (fun t kt => st3.trans kt) ?_
  refine own_thr (a := T3.setTop (mkF m 10 #[.val (.ref o0)] [(.int 7)])) (fun t kt => ?_) ?_
  · show Steps p.tables e below (T3.setTop (mkF m 9 #[.val (.ref o0)] [(.int 0), (.int 7)])) _
    refine XS.ishr X3.here hx rfl (hb hby d7_9) rfl ?_
    exact kt
  exact own_end X3 hlk (v := some (.int 7)) (fun h => by rw [Bd.returns] at h; cases h) (fun fs hr => retI X3 hx Bd.returns (hb hby d7_10) hr) (by rw [e3]; exact ⟨rfl, N3, rfl⟩) (by decide : 0 ≤ _) (by decide : 0 ≤ _)
theorem ef_rmENq1 (m : MethodId) (o0 : Addr)  : entryFrame m #[(.ref o0), (.int 7)] 3 = mkF m 0 #[.val (.ref o0), .val (.int 7), .unset] [] := by first |  (simp [entryFrame, mkF, argsToLocals, Value.category]; done) | rfl
def Q_rmENq1 (Z : State) (o0 : Addr) (vb : Addr) (kb : ClassId) (h0 : Heap) (n0 : Nat) (v : Option Value) (h : Heap) (L : List Loc) : Prop := v = none ∧ Fr n0 L ∧ h = h0
set_option maxRecDepth 65536 in
set_option maxHeartbeats 40000000 in
theorem rmENq1 (l : Launch) (Z : State) (a0 : Array Value) (hw : ∀ d ∈ tables_1, d.before a0 Z = true) (ws : List Jvm.Cond) (o0 : Addr) (vb : Addr) (kb : ClassId) (h0 : Heap) (n0 : Nat) (Z0 : n0 ≤ h0.size) (F_value_o0 : Fld Z h0 o0 "java/lang/AbstractStringBuilder" "value" "[B" (.ref vb)) (F_coder_o0 : Fld Z h0 o0 "java/lang/AbstractStringBuilder" "coder" "B" (.int 0)) (V_vb : Arv Z h0 vb kb .byte (16 : Int32) [(.int 0), (.int 0), (.int 0), (.int 0), (.int 0), (.int 0), (.int 0), (.int 0), (.int 0), (.int 0), (.int 0), (.int 0), (.int 0), (.int 0), (.int 0), (.int 0)] (.int 0)) :
    MetFree l (⟨"java/lang/AbstractStringBuilder", "ensureCapacityInternal", "(I)V"⟩ : MethodName) (head1 (Jvm.Cond.code (⟨"java/lang/AbstractStringBuilder", "ensureCapacityInternal", "(I)V"⟩ : MethodName) jdk_68_method_9_code 3 none :: ws) ({ frames := 0, cells := 0, slots := 0, locals := 0 } : Room)) (fun a U => a = #[(.ref o0), (.int 7)] ∧ Z.Warmed39 U.vm ∧ U.heap = h0) (fun _ _ _ _ _ => True) (fun _ U o U' => ∃ v L, o = .returned v ∧ Q_rmENq1 Z o0 vb kb h0 n0 v U'.heap L ∧ FrameEnd U o U' L ({ frames := 0, cells := 0, slots := 0, locals := 0 } : Room).cells ({ frames := 0, cells := 0, slots := 0, locals := 0 } : Room).slots) := by
  refine MetFree.of_bodySF (plainFor_of_name pn_java_lang_AbstractStringBuilder) hisR ?_
  intro p e s m args below meth c s₁ Bd hml0 hP hK
  obtain ⟨rfl, hZ, hh⟩ := hP
  have hx := Bd.exec
  have hby := Bd.bytes
  have hml : c.maxLocals = 3 := hml0
  have hown : s.vm.findClass "java/lang/AbstractStringBuilder" = some m.cls := findClass_of_methodNamed Bd.named
  have hnm := (name_of_methodNamed Bd.named Bd.method).1
  have hlk := Bd.notSynchronized
  have X0 : Stand p l e ({ frames := 0, cells := 0, slots := 0, locals := 0 } : Room) s m #[(.ref o0), (.int 7)] below meth c s₁ [] 0 0 := Stand.of_body Bd
  have e0 : s₁.heap = h0 := by rw [← hh, Bd.state]; rfl
  have N0 := Fr.nil n0
  show own_G p.tables e below s (Q_rmENq1 Z o0 vb kb h0 n0) ({ frames := 0, cells := 0, slots := 0, locals := 0 } : Room).cells ({ frames := 0, cells := 0, slots := 0, locals := 0 } : Room).slots _
  refine own_thr (a := s₁.setTop (mkF m 0 #[.val (.ref o0), .val (.int 7), .unset] [])) (fun t kt => castTop (ef_rmENq1 m o0) kt) ?_
  refine own_thr (a := s₁.setTop (mkF m 1 #[.val (.ref o0), .val (.int 7), .unset] [(.ref o0)])) (fun t kt => ?_) ?_
  · show Steps p.tables e below (s₁.setTop (mkF m 0 #[.val (.ref o0), .val (.int 7), .unset] [])) _
    refine XS.aloadN X0.here hx rfl (hb hby d9_0) rfl rfl ?_
    exact kt
  obtain ⟨T1, X1, e1, st1⟩ := getF X0 hx hZ hown (host := "") (Or.inl (hw _ (List.mem_of_getElem? (i := 26) rfl))) Via.refl e0 F_value_o0 (g := (mkF m 1 #[.val (.ref o0), .val (.int 7), .unset] [(.ref o0)])) rfl rfl (hb hby d9_1)
  refine own_thr (a := T1.setTop (mkF m 4 #[.val (.ref o0), .val (.int 7), .unset] [(.ref vb)])) (fun t kt => st1 t kt) ?_
  obtain ⟨cl2, Ar2, -, S2, M2, -, -⟩ := id V_vb
  refine own_thr (a := T1.setTop (mkF m 6 #[.val (.ref o0), .val (.int 7), .unset] [(.ref o0), (.int 16)])) (fun t kt => ?_) ?_
  · show Steps p.tables e below (T1.setTop (mkF m 4 #[.val (.ref o0), .val (.int 7), .unset] [(.ref vb)])) _
    refine X1.arraylength hx (by rw [e1]; exact Ar2.1) (State.isArrayOf_alike hZ.alike Ar2.2.1) (g := (mkF m 4 #[.val (.ref o0), .val (.int 7), .unset] [(.ref vb)])) rfl rfl (hb hby d9_4) _ ?_
    rw [len_of S2 M2]
    refine XS.aloadN X1.here hx rfl (hb hby d9_5) rfl rfl ?_
    exact kt
  obtain ⟨T3, X3, e3, st3⟩ := getF X1 hx hZ hown (host := "") (Or.inl (hw _ (List.mem_of_getElem? (i := 28) rfl))) Via.refl e1 F_coder_o0 (g := (mkF m 6 #[.val (.ref o0), .val (.int 7), .unset] [(.ref o0), (.int 16)])) rfl rfl (hb hby d9_6)
  refine own_thr (a := T3.setTop (mkF m 9 #[.val (.ref o0), .val (.int 7), .unset] [(.int 0), (.int 16)])) (fun t kt => st3 t kt) ?_
  refine own_thr (a := T3.setTop (mkF m 38 #[.val (.ref o0), .val (.int 7), .val (.int 16)] [])) (fun t kt => ?_) ?_
  · show Steps p.tables e below (T3.setTop (mkF m 9 #[.val (.ref o0), .val (.int 7), .unset] [(.int 0), (.int 16)])) _
    refine XS.ishr X3.here hx rfl (hb hby d9_9) rfl ?_
    refine XS.istoreN X3.here hx rfl (hb hby d9_10) rfl (l' := #[.val (.ref o0), .val (.int 7), .val (.int 16)]) rfl ?_
    refine XS.iloadN X3.here hx rfl (hb hby d9_11) rfl ?_
    refine XS.iloadN X3.here hx rfl (hb hby d9_12) rfl ?_
    refine XS.isub X3.here hx rfl (hb hby d9_13) rfl ?_
    refine XS.ifYes X3.here hx rfl (pc0 := 14) (pc' := 38) rfl (hb hby d9_14) rfl ((if0 _ _).trans (flt (by decide)).2.2.2) (by decide) (by decide) ?_
    exact kt
  exact own_end X3 hlk (v := none) (fun _ => rfl) (fun fs hr => X3.returnOut hx Bd.returns (hb hby d9_38) hr) (by rw [e3]; exact ⟨rfl, N0, rfl⟩) (by decide : 0 ≤ _) (by decide : 0 ≤ _)
theorem ef_rmGBq1 (m : MethodId) (o0 : Addr) (vb : Addr)  : entryFrame m #[(.ref o0), (.ref vb), (.int 0), (.int 0)] 4 = mkF m 0 #[.val (.ref o0), .val (.ref vb), .val (.int 0), .val (.int 0)] [] := by first |  (simp [entryFrame, mkF, argsToLocals, Value.category]; done) | rfl
def Q_rmGBq1 (Z : State) (o0 : Addr) (vb : Addr) (sv : Addr) (ks : ClassId) (kb : ClassId) (cs : Int32) (h0 : Heap) (n0 : Nat) (v : Option Value) (h : Heap) (L : List Loc) : Prop := v = none ∧ Fr n0 L ∧ Keep h0 h [vb] ∧ Arv Z h vb kb .byte (16 : Int32) [(.int 45), (.int 45), (.int 113), (.int 117), (.int 101), (.int 117), (.int 101), (.int 0), (.int 0), (.int 0), (.int 0), (.int 0), (.int 0), (.int 0), (.int 0), (.int 0)] (.int 0)
set_option maxRecDepth 65536 in
set_option maxHeartbeats 40000000 in
theorem rmGBq1 (l : Launch) (Z : State) (a0 : Array Value) (hw : ∀ d ∈ tables_1, d.before a0 Z = true) (ws : List Jvm.Cond) (o0 : Addr) (vb : Addr) (sv : Addr) (ks : ClassId) (kb : ClassId) (cs : Int32) (h0 : Heap) (n0 : Nat) (Z0 : n0 ≤ h0.size) (E_o0 : Exa Z h0 o0 "java/lang/String") (F_value_o0 : Fld Z h0 o0 "java/lang/String" "value" "[B" (.ref sv)) (F_coder_o0 : Fld Z h0 o0 "java/lang/String" "coder" "B" (.int 0)) (V_sv : Arv Z h0 sv ks .byte (7 : Int32) [(.int 45), (.int 45), (.int 113), (.int 117), (.int 101), (.int 117), (.int 101)] (.int 0)) (V_vb : Arv Z h0 vb kb .byte (16 : Int32) [(.int 0), (.int 0), (.int 0), (.int 0), (.int 0), (.int 0), (.int 0), (.int 0), (.int 0), (.int 0), (.int 0), (.int 0), (.int 0), (.int 0), (.int 0), (.int 0)] (.int 0)) (S_COMPACT_STRINGS : Sta Z h0 "java/lang/String" "COMPACT_STRINGS" "Z" (.int cs)) (g_vb : n0 ≤ vb) (ne_sv_vb : sv ≠ vb) (ne_o0_vb : o0 ≠ vb) (hcs : ¬ cs = (0 : Int32)) :
    MetFree l (⟨"java/lang/String", "getBytes", "([BIB)V"⟩ : MethodName) (head1 (Jvm.Cond.code (⟨"java/lang/String", "getBytes", "([BIB)V"⟩ : MethodName) jdk_42_method_147_code 4 none :: ws) ({ frames := 1, cells := 0, slots := 0, locals := 18 } : Room)) (fun a U => a = #[(.ref o0), (.ref vb), (.int 0), (.int 0)] ∧ Z.Warmed39 U.vm ∧ U.heap = h0) (fun _ _ _ _ _ => True) (fun _ U o U' => ∃ v L, o = .returned v ∧ Q_rmGBq1 Z o0 vb sv ks kb cs h0 n0 v U'.heap L ∧ FrameEnd U o U' L ({ frames := 1, cells := 0, slots := 0, locals := 18 } : Room).cells ({ frames := 1, cells := 0, slots := 0, locals := 18 } : Room).slots) := by
  refine MetFree.of_bodySF (plainFor_of_name pn_java_lang_String) hisR ?_
  intro p e s m args below meth c s₁ Bd hml0 hP hK
  obtain ⟨rfl, hZ, hh⟩ := hP
  have hx := Bd.exec
  have hby := Bd.bytes
  have hml : c.maxLocals = 4 := hml0
  have hown : s.vm.findClass "java/lang/String" = some m.cls := findClass_of_methodNamed Bd.named
  have hnm := (name_of_methodNamed Bd.named Bd.method).1
  have hlk := Bd.notSynchronized
  have X0 : Stand p l e ({ frames := 1, cells := 0, slots := 0, locals := 18 } : Room) s m #[(.ref o0), (.ref vb), (.int 0), (.int 0)] below meth c s₁ [] 0 0 := Stand.of_body Bd
  have e0 : s₁.heap = h0 := by rw [← hh, Bd.state]; rfl
  have N0 := Fr.nil n0
  show own_G p.tables e below s (Q_rmGBq1 Z o0 vb sv ks kb cs h0 n0) ({ frames := 1, cells := 0, slots := 0, locals := 18 } : Room).cells ({ frames := 1, cells := 0, slots := 0, locals := 18 } : Room).slots _
  refine own_thr (a := s₁.setTop (mkF m 0 #[.val (.ref o0), .val (.ref vb), .val (.int 0), .val (.int 0)] [])) (fun t kt => castTop (ef_rmGBq1 m o0 vb) kt) ?_
  refine own_thr (a := s₁.setTop (mkF m 1 #[.val (.ref o0), .val (.ref vb), .val (.int 0), .val (.int 0)] [(.ref o0)])) (fun t kt => ?_) ?_
  · show Steps p.tables e below (s₁.setTop (mkF m 0 #[.val (.ref o0), .val (.ref vb), .val (.int 0), .val (.int 0)] [])) _
    refine XS.aloadN X0.here hx rfl (hb hby d12_0) rfl rfl ?_
    exact kt
  obtain ⟨cq1, kq1, q1a, q1b, q1c⟩ := isOf hZ e0 E_o0
  obtain ⟨_, _, ⟨T1, L1, k1, n1⟩, -, X1, ⟨Lc1, hQ1, l1, y1, z1⟩, st1⟩ := X0.virtualBack hx (y := (⟨"java/lang/String", "coder", "()B"⟩ : MethodName)) (z := (⟨"java/lang/String", "coder", "()B"⟩ : MethodName)) hown (mvT hZ (hw _ (List.mem_of_getElem? (i := 49) rfl))) (mvT hZ (hw _ (List.mem_of_getElem? (i := 50) rfl))) (notFace_of_selects (args := #[]) (mvT hZ (hw _ (List.mem_of_getElem? (i := 52) rfl)))) (mvT hZ (hw _ (List.mem_of_getElem? (i := 52) rfl))) (mvT hZ (hw _ (List.mem_of_getElem? (i := 51) rfl))) (by decide) (backOf (W := 0) (rmCO l Z a0 hw [] o0 cs h0 n0 Z0 F_coder_o0 S_COMPACT_STRINGS hcs) hZ (hw _ (List.mem_of_getElem? (i := 53) rfl)) (hw _ (List.mem_of_getElem? (i := 24) rfl)) (by decide) (by decide)) q1a q1c (g := (mkF m 1 #[.val (.ref o0), .val (.ref vb), .val (.int 0), .val (.int 0)] [(.ref o0)])) rfl (by rw [hml]; rfl) (Steps.refl _) (argsL := []) (rest := []) (lenOf pd__28_29B rfl) rfl (by show 2 * 0 + _ ≤ _; exact Nat.le_of_eq rfl) (hb hby d12_1) (fun _ _ => ⟨rfl, e0, (by decide : 0 + 0 ≤ _), (by decide : 0 + 0 ≤ _)⟩)
  dsimp only [Pt.U, Pt.locs, Pt.cells, Pt.slots] at X1 l1 y1 z1 st1 hQ1
  obtain ⟨rfl, N1q, e1⟩ := hQ1
  obtain ⟨lc1, X1, N1⟩ := own_pack X1 l1 y1 z1 N0 N1q (C := 0) (S' := 0) rfl rfl
  refine own_thr (a := T1.setTop (mkF m 4 #[.val (.ref o0), .val (.ref vb), .val (.int 0), .val (.int 0)] [(.int 0)])) (fun t kt => st1.trans kt) ?_
  refine own_thr (a := T1.setTop (mkF m 9 #[.val (.ref o0), .val (.ref vb), .val (.int 0), .val (.int 0)] [(.ref o0)])) (fun t kt => ?_) ?_
  · show Steps p.tables e below (T1.setTop (mkF m 4 #[.val (.ref o0), .val (.ref vb), .val (.int 0), .val (.int 0)] [(.int 0)])) _
    refine XS.iloadN X1.here hx rfl (hb hby d12_4) rfl ?_
    refine XS.icmpNo X1.here hx rfl (hb hby d12_5) rfl (teq rfl).2 ?_
    refine XS.aloadN X1.here hx rfl (hb hby d12_8) rfl rfl ?_
    exact kt
  obtain ⟨T2, X2, e2, st2⟩ := getF X1 hx hZ hown (host := "") (Or.inl (hw _ (List.mem_of_getElem? (i := 47) rfl))) Via.refl e1 F_value_o0 (g := (mkF m 9 #[.val (.ref o0), .val (.ref vb), .val (.int 0), .val (.int 0)] [(.ref o0)])) rfl rfl (hb hby d12_9)
  refine own_thr (a := T2.setTop (mkF m 12 #[.val (.ref o0), .val (.ref vb), .val (.int 0), .val (.int 0)] [(.ref sv)])) (fun t kt => st2 t kt) ?_
  refine own_thr (a := T2.setTop (mkF m 18 #[.val (.ref o0), .val (.ref vb), .val (.int 0), .val (.int 0)] [(.ref o0), (.int 0), (.ref vb), (.int 0), (.ref sv)])) (fun t kt => ?_) ?_
  · show Steps p.tables e below (T2.setTop (mkF m 12 #[.val (.ref o0), .val (.ref vb), .val (.int 0), .val (.int 0)] [(.ref sv)])) _
    refine XS.iconst X2.here hx rfl (hb hby d12_12) ?_
    refine XS.aloadN X2.here hx rfl (hb hby d12_13) rfl rfl ?_
    refine XS.iloadN X2.here hx rfl (hb hby d12_14) rfl ?_
    refine XS.iloadN X2.here hx rfl (hb hby d12_15) rfl ?_
    refine XS.ishl X2.here hx rfl (hb hby d12_16) rfl ?_
    refine XS.aloadN X2.here hx rfl (hb hby d12_17) rfl rfl ?_
    exact kt
  obtain ⟨T3, X3, e3, st3⟩ := getF X2 hx hZ hown (host := "") (Or.inl (hw _ (List.mem_of_getElem? (i := 47) rfl))) Via.refl e2 F_value_o0 (g := (mkF m 18 #[.val (.ref o0), .val (.ref vb), .val (.int 0), .val (.int 0)] [(.ref o0), (.int 0), (.ref vb), (.int 0), (.ref sv)])) rfl rfl (hb hby d12_18)
  refine own_thr (a := T3.setTop (mkF m 21 #[.val (.ref o0), .val (.ref vb), .val (.int 0), .val (.int 0)] [(.ref sv), (.int 0), (.ref vb), (.int 0), (.ref sv)])) (fun t kt => st3 t kt) ?_
  obtain ⟨cl4, Ar4, -, S4, M4, -, -⟩ := id V_sv
  refine own_thr (a := T3.setTop (mkF m 22 #[.val (.ref o0), .val (.ref vb), .val (.int 0), .val (.int 0)] [(.int 7), (.int 0), (.ref vb), (.int 0), (.ref sv)])) (fun t kt => ?_) ?_
  · show Steps p.tables e below (T3.setTop (mkF m 21 #[.val (.ref o0), .val (.ref vb), .val (.int 0), .val (.int 0)] [(.ref sv), (.int 0), (.ref vb), (.int 0), (.ref sv)])) _
    refine X3.arraylength hx (by rw [e3]; exact Ar4.1) (State.isArrayOf_alike hZ.alike Ar4.2.1) (g := (mkF m 21 #[.val (.ref o0), .val (.ref vb), .val (.int 0), .val (.int 0)] [(.ref sv), (.int 0), (.ref vb), (.int 0), (.ref sv)])) rfl rfl (hb hby d12_21) _ ?_
    rw [len_of S4 M4]
    exact kt
  obtain ⟨T5, h5, L5, X5, e5, N5, K5, V5, st5⟩ := cpA X3 hx hZ hown (hw _ (List.mem_of_getElem? (i := 80) rfl)) (hw _ (List.mem_of_getElem? (i := 83) rfl)) (hw _ (List.mem_of_getElem? (i := 81) rfl)) (hw _ (List.mem_of_getElem? (i := 82) rfl)) e3 V_sv V_vb (Or.inl ⟨rfl, rfl⟩) (sp := (0 : Int32)) (dp := (0 : Int32)) (nn := (7 : Int32)) (by decide) (by decide) (by decide) (by decide) (by decide) (us := [(.int 45), (.int 45), (.int 113), (.int 117), (.int 101), (.int 117), (.int 101)]) rfl (by decide) N1 g_vb (g := (mkF m 22 #[.val (.ref o0), .val (.ref vb), .val (.int 0), .val (.int 0)] [(.int 7), (.int 0), (.ref vb), (.int 0), (.ref sv)])) rfl (by rw [hml]; rfl) rfl (hb hby d12_22) (by decide) (W := 0) (by show 2 * 0 + _ ≤ _; exact Nat.le_of_eq rfl) (by decide)
  have Z6 : n0 ≤ h5.size := Nat.le_trans Z0 K5.1
  have Z6h : h0.size ≤ h5.size := Nat.le_trans (Nat.le_refl h0.size) K5.1
  have Vl5 : Arv Z h5 vb kb .byte (16 : Int32) [(.int 45), (.int 45), (.int 113), (.int 117), (.int 101), (.int 117), (.int 101), (.int 0), (.int 0), (.int 0), (.int 0), (.int 0), (.int 0), (.int 0), (.int 0), (.int 0)] (.int 0) := V5
  refine own_thr (a := T5.setTop (mkF m 25 #[.val (.ref o0), .val (.ref vb), .val (.int 0), .val (.int 0)] [])) (fun t kt => st5 t kt) ?_
  refine own_thr (a := T5.setTop (mkF m 43 #[.val (.ref o0), .val (.ref vb), .val (.int 0), .val (.int 0)] [])) (fun t kt => ?_) ?_
  · show Steps p.tables e below (T5.setTop (mkF m 25 #[.val (.ref o0), .val (.ref vb), .val (.int 0), .val (.int 0)] [])) _
    refine XS.goto X5.here hx rfl (pc0 := 25) (pc' := 43) rfl (hb hby d12_25) (by decide) (by decide) ?_
    exact kt
  exact own_end X5 hlk (v := none) (fun _ => rfl) (fun fs hr => X5.returnOut hx Bd.returns (hb hby d12_43) hr) (by rw [e5]; exact ⟨rfl, N5, ((Keep.refl h0 [vb]).trans K5 (allS (Or.inl (List.mem_of_getElem? (i := 0) rfl)) all0)), Vl5⟩) (by decide : 0 ≤ _) (by decide : 0 ≤ _)
theorem ef_rmPSq1 (m : MethodId) (o0 : Addr) (o2 : Addr)  : entryFrame m #[(.ref o0), (.int 0), (.ref o2)] 3 = mkF m 0 #[.val (.ref o0), .val (.int 0), .val (.ref o2)] [] := by first |  (simp [entryFrame, mkF, argsToLocals, Value.category]; done) | rfl
def Q_rmPSq1 (Z : State) (o0 : Addr) (o2 : Addr) (vb : Addr) (kb : ClassId) (sv : Addr) (ks : ClassId) (cs : Int32) (h0 : Heap) (n0 : Nat) (v : Option Value) (h : Heap) (L : List Loc) : Prop := v = none ∧ Fr n0 L ∧ Keep h0 h [vb] ∧ Arv Z h vb kb .byte (16 : Int32) [(.int 45), (.int 45), (.int 113), (.int 117), (.int 101), (.int 117), (.int 101), (.int 0), (.int 0), (.int 0), (.int 0), (.int 0), (.int 0), (.int 0), (.int 0), (.int 0)] (.int 0)
set_option maxRecDepth 65536 in
set_option maxHeartbeats 40000000 in
theorem rmPSq1 (l : Launch) (Z : State) (a0 : Array Value) (hw : ∀ d ∈ tables_1, d.before a0 Z = true) (ws : List Jvm.Cond) (o0 : Addr) (o2 : Addr) (vb : Addr) (kb : ClassId) (sv : Addr) (ks : ClassId) (cs : Int32) (h0 : Heap) (n0 : Nat) (Z0 : n0 ≤ h0.size) (E_o0 : Exa Z h0 o0 "java/lang/StringBuilder") (F_value_o0 : Fld Z h0 o0 "java/lang/AbstractStringBuilder" "value" "[B" (.ref vb)) (F_coder_o0 : Fld Z h0 o0 "java/lang/AbstractStringBuilder" "coder" "B" (.int 0)) (F_count_o0 : Fld Z h0 o0 "java/lang/AbstractStringBuilder" "count" "I" (.int 0)) (E_o2 : Exa Z h0 o2 "java/lang/String") (F_value_o2 : Fld Z h0 o2 "java/lang/String" "value" "[B" (.ref sv)) (F_coder_o2 : Fld Z h0 o2 "java/lang/String" "coder" "B" (.int 0)) (V_vb : Arv Z h0 vb kb .byte (16 : Int32) [(.int 0), (.int 0), (.int 0), (.int 0), (.int 0), (.int 0), (.int 0), (.int 0), (.int 0), (.int 0), (.int 0), (.int 0), (.int 0), (.int 0), (.int 0), (.int 0)] (.int 0)) (V_sv : Arv Z h0 sv ks .byte (7 : Int32) [(.int 45), (.int 45), (.int 113), (.int 117), (.int 101), (.int 117), (.int 101)] (.int 0)) (S_COMPACT_STRINGS : Sta Z h0 "java/lang/String" "COMPACT_STRINGS" "Z" (.int cs)) (g_vb : n0 ≤ vb) (ne_o0_vb : o0 ≠ vb) (ne_sv_vb : sv ≠ vb) (ne_o2_vb : o2 ≠ vb) (ne_o2_o0 : o2 ≠ o0) (ne_sv_o0 : sv ≠ o0) (hcs : ¬ cs = (0 : Int32)) :
    MetFree l (⟨"java/lang/AbstractStringBuilder", "putStringAt", "(ILjava/lang/String;)V"⟩ : MethodName) (head1 (Jvm.Cond.code (⟨"java/lang/AbstractStringBuilder", "putStringAt", "(ILjava/lang/String;)V"⟩ : MethodName) jdk_68_method_73_code 3 none :: ws) ({ frames := 2, cells := 0, slots := 0, locals := 33 } : Room)) (fun a U => a = #[(.ref o0), (.int 0), (.ref o2)] ∧ Z.Warmed39 U.vm ∧ U.heap = h0) (fun _ _ _ _ _ => True) (fun _ U o U' => ∃ v L, o = .returned v ∧ Q_rmPSq1 Z o0 o2 vb kb sv ks cs h0 n0 v U'.heap L ∧ FrameEnd U o U' L ({ frames := 2, cells := 0, slots := 0, locals := 33 } : Room).cells ({ frames := 2, cells := 0, slots := 0, locals := 33 } : Room).slots) := by
  refine MetFree.of_bodySF (plainFor_of_name pn_java_lang_AbstractStringBuilder) hisR ?_
  intro p e s m args below meth c s₁ Bd hml0 hP hK
  obtain ⟨rfl, hZ, hh⟩ := hP
  have hx := Bd.exec
  have hby := Bd.bytes
  have hml : c.maxLocals = 3 := hml0
  have hown : s.vm.findClass "java/lang/AbstractStringBuilder" = some m.cls := findClass_of_methodNamed Bd.named
  have hnm := (name_of_methodNamed Bd.named Bd.method).1
  have hlk := Bd.notSynchronized
  have X0 : Stand p l e ({ frames := 2, cells := 0, slots := 0, locals := 33 } : Room) s m #[(.ref o0), (.int 0), (.ref o2)] below meth c s₁ [] 0 0 := Stand.of_body Bd
  have e0 : s₁.heap = h0 := by rw [← hh, Bd.state]; rfl
  have N0 := Fr.nil n0
  show own_G p.tables e below s (Q_rmPSq1 Z o0 o2 vb kb sv ks cs h0 n0) ({ frames := 2, cells := 0, slots := 0, locals := 33 } : Room).cells ({ frames := 2, cells := 0, slots := 0, locals := 33 } : Room).slots _
  refine own_thr (a := s₁.setTop (mkF m 0 #[.val (.ref o0), .val (.int 0), .val (.ref o2)] [])) (fun t kt => castTop (ef_rmPSq1 m o0 o2) kt) ?_
  refine own_thr (a := s₁.setTop (mkF m 2 #[.val (.ref o0), .val (.int 0), .val (.ref o2)] [(.ref o2), (.ref o0)])) (fun t kt => ?_) ?_
  · show Steps p.tables e below (s₁.setTop (mkF m 0 #[.val (.ref o0), .val (.int 0), .val (.ref o2)] [])) _
    refine XS.aloadN X0.here hx rfl (hb hby d10_0) rfl rfl ?_
    refine XS.aloadN X0.here hx rfl (hb hby d10_1) rfl rfl ?_
    exact kt
  obtain ⟨cq1, q1, q1'⟩ := E_o0.cell
  obtain ⟨_, _, ⟨T1, L1, k1, n1⟩, -, X1, ⟨Lc1, hQ1, l1, y1, z1⟩, st1⟩ := X0.privateBack hx (y := (⟨"java/lang/AbstractStringBuilder", "inflateIfNeededFor", "(Ljava/lang/String;)V"⟩ : MethodName)) hown (mvT hZ (hw _ (List.mem_of_getElem? (i := 69) rfl))) (mvT hZ (hw _ (List.mem_of_getElem? (i := 70) rfl))) (own_selp hZ (hw _ (List.mem_of_getElem? (i := 72) rfl)) (hw _ (List.mem_of_getElem? (i := 71) rfl)) (hw _ (List.mem_of_getElem? (i := 70) rfl)) (by decide)) (Cond.privateMethod_at (mvP hZ (hw _ (List.mem_of_getElem? (i := 71) rfl)) (args := #[]))) (mvT hZ (hw _ (List.mem_of_getElem? (i := 73) rfl))) (by decide) (backOf (W := 0) (rmIN l Z a0 hw [] o0 o2 cs h0 n0 Z0 F_coder_o0 E_o2 F_coder_o2 S_COMPACT_STRINGS hcs) hZ (hw _ (List.mem_of_getElem? (i := 73) rfl)) (hw _ (List.mem_of_getElem? (i := 18) rfl)) (by decide) (by decide)) (g := (mkF m 2 #[.val (.ref o0), .val (.int 0), .val (.ref o2)] [(.ref o2), (.ref o0)])) rfl (by rw [hml]; rfl) (Steps.refl _) (a := o0) (by rw [e0]; exact q1) q1' (argsL := [(.ref o2)]) (rest := []) (lenOf pd__28Ljava_2flang_2fString_3b_29V rfl) rfl (by show 2 * 0 + _ ≤ _; exact Nat.le_of_eq rfl) (hb hby d10_2) (fun _ _ => ⟨rfl, e0, (by decide : 0 + 0 ≤ _), (by decide : 0 + 0 ≤ _)⟩)
  dsimp only [Pt.U, Pt.locs, Pt.cells, Pt.slots] at X1 l1 y1 z1 st1 hQ1
  obtain ⟨rfl, N1q, e1⟩ := hQ1
  obtain ⟨lc1, X1, N1⟩ := own_pack X1 l1 y1 z1 N0 N1q (C := 0) (S' := 0) rfl rfl
  refine own_thr (a := T1.setTop (mkF m 5 #[.val (.ref o0), .val (.int 0), .val (.ref o2)] [])) (fun t kt => st1.trans kt) ?_
  refine own_thr (a := T1.setTop (mkF m 7 #[.val (.ref o0), .val (.int 0), .val (.ref o2)] [(.ref o0), (.ref o2)])) (fun t kt => ?_) ?_
  · show Steps p.tables e below (T1.setTop (mkF m 5 #[.val (.ref o0), .val (.int 0), .val (.ref o2)] [])) _
    refine XS.aloadN X1.here hx rfl (hb hby d10_5) rfl rfl ?_
    refine XS.aloadN X1.here hx rfl (hb hby d10_6) rfl rfl ?_
    exact kt
  obtain ⟨T2, X2, e2, st2⟩ := getF X1 hx hZ hown (host := "") (Or.inl (hw _ (List.mem_of_getElem? (i := 26) rfl))) Via.refl e1 F_value_o0 (g := (mkF m 7 #[.val (.ref o0), .val (.int 0), .val (.ref o2)] [(.ref o0), (.ref o2)])) rfl rfl (hb hby d10_7)
  refine own_thr (a := T2.setTop (mkF m 10 #[.val (.ref o0), .val (.int 0), .val (.ref o2)] [(.ref vb), (.ref o2)])) (fun t kt => st2 t kt) ?_
  refine own_thr (a := T2.setTop (mkF m 12 #[.val (.ref o0), .val (.int 0), .val (.ref o2)] [(.ref o0), (.int 0), (.ref vb), (.ref o2)])) (fun t kt => ?_) ?_
  · show Steps p.tables e below (T2.setTop (mkF m 10 #[.val (.ref o0), .val (.int 0), .val (.ref o2)] [(.ref vb), (.ref o2)])) _
    refine XS.iloadN X2.here hx rfl (hb hby d10_10) rfl ?_
    refine XS.aloadN X2.here hx rfl (hb hby d10_11) rfl rfl ?_
    exact kt
  obtain ⟨T3, X3, e3, st3⟩ := getF X2 hx hZ hown (host := "") (Or.inl (hw _ (List.mem_of_getElem? (i := 28) rfl))) Via.refl e2 F_coder_o0 (g := (mkF m 12 #[.val (.ref o0), .val (.int 0), .val (.ref o2)] [(.ref o0), (.int 0), (.ref vb), (.ref o2)])) rfl rfl (hb hby d10_12)
  refine own_thr (a := T3.setTop (mkF m 15 #[.val (.ref o0), .val (.int 0), .val (.ref o2)] [(.int 0), (.int 0), (.ref vb), (.ref o2)])) (fun t kt => st3 t kt) ?_
  obtain ⟨cq4, kq4, q4a, q4b, q4c⟩ := isOf hZ e3 E_o2
  obtain ⟨_, _, ⟨T4, L4, k4, n4⟩, -, X4, ⟨Lc4, hQ4, l4, y4, z4⟩, st4⟩ := X3.virtualBack hx (y := (⟨"java/lang/String", "getBytes", "([BIB)V"⟩ : MethodName)) (z := (⟨"java/lang/String", "getBytes", "([BIB)V"⟩ : MethodName)) hown (mvT hZ (hw _ (List.mem_of_getElem? (i := 75) rfl))) (mvT hZ (hw _ (List.mem_of_getElem? (i := 76) rfl))) (notFace_of_selects (args := #[]) (mvT hZ (hw _ (List.mem_of_getElem? (i := 78) rfl)))) (mvT hZ (hw _ (List.mem_of_getElem? (i := 78) rfl))) (mvT hZ (hw _ (List.mem_of_getElem? (i := 77) rfl))) (by decide) (backOf (W := 0) (rmGBq1 l Z a0 hw [] o2 vb sv ks kb cs h0 n0 Z0 E_o2 F_value_o2 F_coder_o2 V_sv V_vb S_COMPACT_STRINGS g_vb ne_sv_vb ne_o2_vb hcs) hZ (hw _ (List.mem_of_getElem? (i := 79) rfl)) (hw _ (List.mem_of_getElem? (i := 24) rfl)) (by decide) (by decide)) q4a q4c (g := (mkF m 15 #[.val (.ref o0), .val (.int 0), .val (.ref o2)] [(.int 0), (.int 0), (.ref vb), (.ref o2)])) rfl (by rw [hml]; rfl) (Steps.refl _) (argsL := [(.ref vb), (.int 0), (.int 0)]) (rest := []) (lenOf pd__28_5bBIB_29V rfl) rfl (by show 2 * 0 + _ ≤ _; exact Nat.le_of_eq rfl) (hb hby d10_15) (fun _ _ => ⟨rfl, e3, (by decide : 0 + 0 ≤ _), (by decide : 0 + 0 ≤ _)⟩)
  dsimp only [Pt.U, Pt.locs, Pt.cells, Pt.slots] at X4 l4 y4 z4 st4 hQ4
  obtain ⟨rfl, N4q, K4, o4_0⟩ := hQ4
  have Z5 : n0 ≤ T4.heap.size := Nat.le_trans Z0 K4.1
  have Z5h : h0.size ≤ T4.heap.size := Nat.le_trans (Nat.le_refl h0.size) K4.1
  obtain ⟨lc4, X4, N4⟩ := own_pack X4 l4 y4 z4 N1 N4q (C := 0) (S' := 0) rfl rfl
  refine own_thr (a := T4.setTop (mkF m 18 #[.val (.ref o0), .val (.int 0), .val (.ref o2)] [])) (fun t kt => st4.trans kt) ?_
  exact own_end X4 hlk (v := none) (fun _ => rfl) (fun fs hr => X4.returnOut hx Bd.returns (hb hby d10_18) hr) ⟨rfl, N4, ((Keep.refl h0 [vb]).trans K4 (allS (Or.inl (List.mem_of_getElem? (i := 0) rfl)) all0)), o4_0⟩ (by decide : 0 ≤ _) (by decide : 0 ≤ _)
theorem ef_rmAAq1 (m : MethodId) (o0 : Addr) (o1 : Addr)  : entryFrame m #[(.ref o0), (.ref o1)] 3 = mkF m 0 #[.val (.ref o0), .val (.ref o1), .unset] [] := by first |  (simp [entryFrame, mkF, argsToLocals, Value.category]; done) | rfl
def Q_rmAAq1 (Z : State) (o0 : Addr) (o1 : Addr) (vb : Addr) (kb : ClassId) (sv : Addr) (ks : ClassId) (cs : Int32) (h0 : Heap) (n0 : Nat) (v : Option Value) (h : Heap) (L : List Loc) : Prop := v = some (.ref o0) ∧ Fr n0 L ∧ Keep h0 h [o0, vb] ∧ Exa Z h o0 "java/lang/StringBuilder" ∧ Fld Z h o0 "java/lang/AbstractStringBuilder" "value" "[B" (.ref vb) ∧ Fld Z h o0 "java/lang/AbstractStringBuilder" "coder" "B" (.int 0) ∧ Fld Z h o0 "java/lang/AbstractStringBuilder" "count" "I" (.int 7) ∧ Arv Z h vb kb .byte (16 : Int32) [(.int 45), (.int 45), (.int 113), (.int 117), (.int 101), (.int 117), (.int 101), (.int 0), (.int 0), (.int 0), (.int 0), (.int 0), (.int 0), (.int 0), (.int 0), (.int 0)] (.int 0)
set_option maxRecDepth 65536 in
set_option maxHeartbeats 40000000 in
theorem rmAAq1 (l : Launch) (Z : State) (a0 : Array Value) (hw : ∀ d ∈ tables_1, d.before a0 Z = true) (ws : List Jvm.Cond) (o0 : Addr) (o1 : Addr) (vb : Addr) (kb : ClassId) (sv : Addr) (ks : ClassId) (cs : Int32) (h0 : Heap) (n0 : Nat) (Z0 : n0 ≤ h0.size) (E_o0 : Exa Z h0 o0 "java/lang/StringBuilder") (F_value_o0 : Fld Z h0 o0 "java/lang/AbstractStringBuilder" "value" "[B" (.ref vb)) (F_coder_o0 : Fld Z h0 o0 "java/lang/AbstractStringBuilder" "coder" "B" (.int 0)) (F_count_o0 : Fld Z h0 o0 "java/lang/AbstractStringBuilder" "count" "I" (.int 0)) (E_o1 : Exa Z h0 o1 "java/lang/String") (F_value_o1 : Fld Z h0 o1 "java/lang/String" "value" "[B" (.ref sv)) (F_coder_o1 : Fld Z h0 o1 "java/lang/String" "coder" "B" (.int 0)) (V_vb : Arv Z h0 vb kb .byte (16 : Int32) [(.int 0), (.int 0), (.int 0), (.int 0), (.int 0), (.int 0), (.int 0), (.int 0), (.int 0), (.int 0), (.int 0), (.int 0), (.int 0), (.int 0), (.int 0), (.int 0)] (.int 0)) (V_sv : Arv Z h0 sv ks .byte (7 : Int32) [(.int 45), (.int 45), (.int 113), (.int 117), (.int 101), (.int 117), (.int 101)] (.int 0)) (S_COMPACT_STRINGS : Sta Z h0 "java/lang/String" "COMPACT_STRINGS" "Z" (.int cs)) (g_o0 : n0 ≤ o0) (g_vb : n0 ≤ vb) (ne_o0_vb : o0 ≠ vb) (ne_sv_vb : sv ≠ vb) (ne_o1_vb : o1 ≠ vb) (ne_o1_o0 : o1 ≠ o0) (ne_sv_o0 : sv ≠ o0) (hcs : ¬ cs = (0 : Int32)) :
    MetFree l (⟨"java/lang/AbstractStringBuilder", "append", "(Ljava/lang/String;)Ljava/lang/AbstractStringBuilder;"⟩ : MethodName) (head1 (Jvm.Cond.code (⟨"java/lang/AbstractStringBuilder", "append", "(Ljava/lang/String;)Ljava/lang/AbstractStringBuilder;"⟩ : MethodName) jdk_68_method_22_code 3 (some (.object "java/lang/AbstractStringBuilder")) :: ws) ({ frames := 3, cells := 0, slots := 0, locals := 47 } : Room)) (fun a U => a = #[(.ref o0), (.ref o1)] ∧ Z.Warmed39 U.vm ∧ U.heap = h0) (fun _ _ _ _ _ => True) (fun _ U o U' => ∃ v L, o = .returned v ∧ Q_rmAAq1 Z o0 o1 vb kb sv ks cs h0 n0 v U'.heap L ∧ FrameEnd U o U' L ({ frames := 3, cells := 0, slots := 0, locals := 47 } : Room).cells ({ frames := 3, cells := 0, slots := 0, locals := 47 } : Room).slots) := by
  refine MetFree.of_bodySF (plainFor_of_name pn_java_lang_AbstractStringBuilder) hisR ?_
  intro p e s m args below meth c s₁ Bd hml0 hP hK
  obtain ⟨rfl, hZ, hh⟩ := hP
  have hx := Bd.exec
  have hby := Bd.bytes
  have hml : c.maxLocals = 3 := hml0
  have hown : s.vm.findClass "java/lang/AbstractStringBuilder" = some m.cls := findClass_of_methodNamed Bd.named
  have hnm := (name_of_methodNamed Bd.named Bd.method).1
  have hlk := Bd.notSynchronized
  have X0 : Stand p l e ({ frames := 3, cells := 0, slots := 0, locals := 47 } : Room) s m #[(.ref o0), (.ref o1)] below meth c s₁ [] 0 0 := Stand.of_body Bd
  have e0 : s₁.heap = h0 := by rw [← hh, Bd.state]; rfl
  have N0 := Fr.nil n0
  show own_G p.tables e below s (Q_rmAAq1 Z o0 o1 vb kb sv ks cs h0 n0) ({ frames := 3, cells := 0, slots := 0, locals := 47 } : Room).cells ({ frames := 3, cells := 0, slots := 0, locals := 47 } : Room).slots _
  refine own_thr (a := s₁.setTop (mkF m 0 #[.val (.ref o0), .val (.ref o1), .unset] [])) (fun t kt => castTop (ef_rmAAq1 m o0 o1) kt) ?_
  refine own_thr (a := s₁.setTop (mkF m 10 #[.val (.ref o0), .val (.ref o1), .unset] [(.ref o1)])) (fun t kt => ?_) ?_
  · show Steps p.tables e below (s₁.setTop (mkF m 0 #[.val (.ref o0), .val (.ref o1), .unset] [])) _
    refine XS.aloadN X0.here hx rfl (hb hby d6_0) rfl rfl ?_
    refine XS.ifnonnullYes X0.here hx rfl (pc0 := 1) (pc' := 9) rfl (hb hby d6_1) rfl (by decide) (by decide) ?_
    refine XS.aloadN X0.here hx rfl (hb hby d6_9) rfl rfl ?_
    exact kt
  obtain ⟨cq1, kq1, q1a, q1b, q1c⟩ := isOf hZ e0 E_o1
  obtain ⟨_, _, ⟨T1, L1, k1, n1⟩, -, X1, ⟨Lc1, hQ1, l1, y1, z1⟩, st1⟩ := X0.virtualBack hx (y := (⟨"java/lang/String", "length", "()I"⟩ : MethodName)) (z := (⟨"java/lang/String", "length", "()I"⟩ : MethodName)) hown (mvT hZ (hw _ (List.mem_of_getElem? (i := 42) rfl))) (mvT hZ (hw _ (List.mem_of_getElem? (i := 43) rfl))) (notFace_of_selects (args := #[]) (mvT hZ (hw _ (List.mem_of_getElem? (i := 45) rfl)))) (mvT hZ (hw _ (List.mem_of_getElem? (i := 45) rfl))) (mvT hZ (hw _ (List.mem_of_getElem? (i := 44) rfl))) (by decide) (backOf (W := 0) (rmLNq1 l Z a0 hw [] o1 sv ks cs h0 n0 Z0 E_o1 F_value_o1 F_coder_o1 V_sv S_COMPACT_STRINGS hcs) hZ (hw _ (List.mem_of_getElem? (i := 46) rfl)) (hw _ (List.mem_of_getElem? (i := 24) rfl)) (by decide) (by decide)) q1a q1c (g := (mkF m 10 #[.val (.ref o0), .val (.ref o1), .unset] [(.ref o1)])) rfl (by rw [hml]; rfl) (Steps.refl _) (argsL := []) (rest := []) (lenOf pd__28_29I rfl) rfl (by show 2 * 0 + _ ≤ _; exact Nat.le_of_eq rfl) (hb hby d6_10) (fun _ _ => ⟨rfl, e0, (by decide : 0 + 0 ≤ _), (by decide : 0 + 0 ≤ _)⟩)
  dsimp only [Pt.U, Pt.locs, Pt.cells, Pt.slots] at X1 l1 y1 z1 st1 hQ1
  obtain ⟨rfl, N1q, e1⟩ := hQ1
  obtain ⟨lc1, X1, N1⟩ := own_pack X1 l1 y1 z1 N0 N1q (C := 0) (S' := 0) rfl rfl
  refine own_thr (a := T1.setTop (mkF m 13 #[.val (.ref o0), .val (.ref o1), .unset] [(.int 7)])) (fun t kt => st1.trans kt) ?_
  refine own_thr (a := T1.setTop (mkF m 16 #[.val (.ref o0), .val (.ref o1), .val (.int 7)] [(.ref o0), (.ref o0)])) (fun t kt => ?_) ?_
  · show Steps p.tables e below (T1.setTop (mkF m 13 #[.val (.ref o0), .val (.ref o1), .unset] [(.int 7)])) _
    refine XS.istoreN X1.here hx rfl (hb hby d6_13) rfl (l' := #[.val (.ref o0), .val (.ref o1), .val (.int 7)]) rfl ?_
    refine XS.aloadN X1.here hx rfl (hb hby d6_14) rfl rfl ?_
    refine XS.aloadN X1.here hx rfl (hb hby d6_15) rfl rfl ?_
    exact kt
  obtain ⟨T2, X2, e2, st2⟩ := getF X1 hx hZ hown (host := "") (Or.inl (hw _ (List.mem_of_getElem? (i := 57) rfl))) Via.refl e1 F_count_o0 (g := (mkF m 16 #[.val (.ref o0), .val (.ref o1), .val (.int 7)] [(.ref o0), (.ref o0)])) rfl rfl (hb hby d6_16)
  refine own_thr (a := T2.setTop (mkF m 19 #[.val (.ref o0), .val (.ref o1), .val (.int 7)] [(.int 0), (.ref o0)])) (fun t kt => st2 t kt) ?_
  refine own_thr (a := T2.setTop (mkF m 21 #[.val (.ref o0), .val (.ref o1), .val (.int 7)] [(.int 7), (.ref o0)])) (fun t kt => ?_) ?_
  · show Steps p.tables e below (T2.setTop (mkF m 19 #[.val (.ref o0), .val (.ref o1), .val (.int 7)] [(.int 0), (.ref o0)])) _
    refine XS.iloadN X2.here hx rfl (hb hby d6_19) rfl ?_
    refine XS.iadd X2.here hx rfl (hb hby d6_20) rfl ?_
    exact kt
  obtain ⟨cq3, q3, q3'⟩ := E_o0.cell
  obtain ⟨_, _, ⟨T3, L3, k3, n3⟩, -, X3, ⟨Lc3, hQ3, l3, y3, z3⟩, st3⟩ := X2.privateBack hx (y := (⟨"java/lang/AbstractStringBuilder", "ensureCapacityInternal", "(I)V"⟩ : MethodName)) hown (mvT hZ (hw _ (List.mem_of_getElem? (i := 59) rfl))) (mvT hZ (hw _ (List.mem_of_getElem? (i := 60) rfl))) (own_selp hZ (hw _ (List.mem_of_getElem? (i := 62) rfl)) (hw _ (List.mem_of_getElem? (i := 61) rfl)) (hw _ (List.mem_of_getElem? (i := 60) rfl)) (by decide)) (Cond.privateMethod_at (mvP hZ (hw _ (List.mem_of_getElem? (i := 61) rfl)) (args := #[]))) (mvT hZ (hw _ (List.mem_of_getElem? (i := 63) rfl))) (by decide) (backOf (W := 0) (rmENq1 l Z a0 hw [] o0 vb kb h0 n0 Z0 F_value_o0 F_coder_o0 V_vb) hZ (hw _ (List.mem_of_getElem? (i := 63) rfl)) (hw _ (List.mem_of_getElem? (i := 18) rfl)) (by decide) (by decide)) (g := (mkF m 21 #[.val (.ref o0), .val (.ref o1), .val (.int 7)] [(.int 7), (.ref o0)])) rfl (by rw [hml]; rfl) (Steps.refl _) (a := o0) (by rw [e2]; exact q3) q3' (argsL := [(.int 7)]) (rest := []) (lenOf pd__28I_29V rfl) rfl (by show 2 * 0 + _ ≤ _; exact Nat.le_of_eq rfl) (hb hby d6_21) (fun _ _ => ⟨rfl, e2, (by decide : 0 + 0 ≤ _), (by decide : 0 + 0 ≤ _)⟩)
  dsimp only [Pt.U, Pt.locs, Pt.cells, Pt.slots] at X3 l3 y3 z3 st3 hQ3
  obtain ⟨rfl, N3q, e3⟩ := hQ3
  obtain ⟨lc3, X3, N3⟩ := own_pack X3 l3 y3 z3 N1 N3q (C := 0) (S' := 0) rfl rfl
  refine own_thr (a := T3.setTop (mkF m 24 #[.val (.ref o0), .val (.ref o1), .val (.int 7)] [])) (fun t kt => st3.trans kt) ?_
  refine own_thr (a := T3.setTop (mkF m 26 #[.val (.ref o0), .val (.ref o1), .val (.int 7)] [(.ref o0), (.ref o0)])) (fun t kt => ?_) ?_
  · show Steps p.tables e below (T3.setTop (mkF m 24 #[.val (.ref o0), .val (.ref o1), .val (.int 7)] [])) _
    refine XS.aloadN X3.here hx rfl (hb hby d6_24) rfl rfl ?_
    refine XS.aloadN X3.here hx rfl (hb hby d6_25) rfl rfl ?_
    exact kt
  obtain ⟨T4, X4, e4, st4⟩ := getF X3 hx hZ hown (host := "") (Or.inl (hw _ (List.mem_of_getElem? (i := 57) rfl))) Via.refl e3 F_count_o0 (g := (mkF m 26 #[.val (.ref o0), .val (.ref o1), .val (.int 7)] [(.ref o0), (.ref o0)])) rfl rfl (hb hby d6_26)
  refine own_thr (a := T4.setTop (mkF m 29 #[.val (.ref o0), .val (.ref o1), .val (.int 7)] [(.int 0), (.ref o0)])) (fun t kt => st4 t kt) ?_
  refine own_thr (a := T4.setTop (mkF m 30 #[.val (.ref o0), .val (.ref o1), .val (.int 7)] [(.ref o1), (.int 0), (.ref o0)])) (fun t kt => ?_) ?_
  · show Steps p.tables e below (T4.setTop (mkF m 29 #[.val (.ref o0), .val (.ref o1), .val (.int 7)] [(.int 0), (.ref o0)])) _
    refine XS.aloadN X4.here hx rfl (hb hby d6_29) rfl rfl ?_
    exact kt
  obtain ⟨cq5, q5, q5'⟩ := E_o0.cell
  obtain ⟨_, _, ⟨T5, L5, k5, n5⟩, -, X5, ⟨Lc5, hQ5, l5, y5, z5⟩, st5⟩ := X4.privateBack hx (y := (⟨"java/lang/AbstractStringBuilder", "putStringAt", "(ILjava/lang/String;)V"⟩ : MethodName)) hown (mvT hZ (hw _ (List.mem_of_getElem? (i := 64) rfl))) (mvT hZ (hw _ (List.mem_of_getElem? (i := 65) rfl))) (own_selp hZ (hw _ (List.mem_of_getElem? (i := 67) rfl)) (hw _ (List.mem_of_getElem? (i := 66) rfl)) (hw _ (List.mem_of_getElem? (i := 65) rfl)) (by decide)) (Cond.privateMethod_at (mvP hZ (hw _ (List.mem_of_getElem? (i := 66) rfl)) (args := #[]))) (mvT hZ (hw _ (List.mem_of_getElem? (i := 68) rfl))) (by decide) (backOf (W := 0) (rmPSq1 l Z a0 hw [] o0 o1 vb kb sv ks cs h0 n0 Z0 E_o0 F_value_o0 F_coder_o0 F_count_o0 E_o1 F_value_o1 F_coder_o1 V_vb V_sv S_COMPACT_STRINGS g_vb ne_o0_vb ne_sv_vb ne_o1_vb ne_o1_o0 ne_sv_o0 hcs) hZ (hw _ (List.mem_of_getElem? (i := 68) rfl)) (hw _ (List.mem_of_getElem? (i := 18) rfl)) (by decide) (by decide)) (g := (mkF m 30 #[.val (.ref o0), .val (.ref o1), .val (.int 7)] [(.ref o1), (.int 0), (.ref o0)])) rfl (by rw [hml]; rfl) (Steps.refl _) (a := o0) (by rw [e4]; exact q5) q5' (argsL := [(.int 0), (.ref o1)]) (rest := []) (lenOf pd__28ILjava_2flang_2fString_3b_29V rfl) rfl (by show 2 * 0 + _ ≤ _; exact Nat.le_of_eq rfl) (hb hby d6_30) (fun _ _ => ⟨rfl, e4, (by decide : 0 + 0 ≤ _), (by decide : 0 + 0 ≤ _)⟩)
  dsimp only [Pt.U, Pt.locs, Pt.cells, Pt.slots] at X5 l5 y5 z5 st5 hQ5
  obtain ⟨rfl, N5q, K5, o5_0⟩ := hQ5
  have Z6 : n0 ≤ T5.heap.size := Nat.le_trans Z0 K5.1
  have Z6h : h0.size ≤ T5.heap.size := Nat.le_trans (Nat.le_refl h0.size) K5.1
  obtain ⟨lc5, X5, N5⟩ := own_pack X5 l5 y5 z5 N3 N5q (C := 0) (S' := 0) rfl rfl
  refine own_thr (a := T5.setTop (mkF m 33 #[.val (.ref o0), .val (.ref o1), .val (.int 7)] [])) (fun t kt => st5.trans kt) ?_
  refine own_thr (a := T5.setTop (mkF m 35 #[.val (.ref o0), .val (.ref o1), .val (.int 7)] [(.ref o0), (.ref o0)])) (fun t kt => ?_) ?_
  · show Steps p.tables e below (T5.setTop (mkF m 33 #[.val (.ref o0), .val (.ref o1), .val (.int 7)] [])) _
    refine XS.aloadN X5.here hx rfl (hb hby d6_33) rfl rfl ?_
    refine XS.dup X5.here hx rfl (hb hby d6_34) rfl rfl ?_
    exact kt
  obtain ⟨T7, X7, e7, st7⟩ := getF X5 hx hZ hown (host := "") (Or.inl (hw _ (List.mem_of_getElem? (i := 57) rfl))) Via.refl rfl (F_count_o0.keep K5 (ninS ne_o0_vb nin0)) (g := (mkF m 35 #[.val (.ref o0), .val (.ref o1), .val (.int 7)] [(.ref o0), (.ref o0)])) rfl rfl (hb hby d6_35)
  refine own_thr (a := T7.setTop (mkF m 38 #[.val (.ref o0), .val (.ref o1), .val (.int 7)] [(.int 0), (.ref o0)])) (fun t kt => st7 t kt) ?_
  refine own_thr (a := T7.setTop (mkF m 40 #[.val (.ref o0), .val (.ref o1), .val (.int 7)] [(.int 7), (.ref o0)])) (fun t kt => ?_) ?_
  · show Steps p.tables e below (T7.setTop (mkF m 38 #[.val (.ref o0), .val (.ref o1), .val (.int 7)] [(.int 0), (.ref o0)])) _
    refine XS.iloadN X7.here hx rfl (hb hby d6_38) rfl ?_
    refine XS.iadd X7.here hx rfl (hb hby d6_39) rfl ?_
    exact kt
  obtain ⟨T8, h8, X8, e8, W8, st8⟩ := putF X7 hx hZ hown (host := "") (Or.inl (hw _ (List.mem_of_getElem? (i := 57) rfl))) Via.refl e7 (F_count_o0.keep K5 (ninS ne_o0_vb nin0)) (E_o0.keep K5) (Or.inl (hw _ (List.mem_of_getElem? (i := 58) rfl))) (hw _ (List.mem_of_getElem? (i := 9) rfl)) (ty := .int) (by decide) rfl rfl (g := (mkF m 40 #[.val (.ref o0), .val (.ref o1), .val (.int 7)] [(.int 7), (.ref o0)])) rfl rfl (hb hby d6_40)
  have Fw8 := (F_count_o0.keep K5 (ninS ne_o0_vb nin0)).same W8
  have Z9 : n0 ≤ h8.size := Nat.le_trans Z6 (Nat.le_of_eq W8.size.symm)
  have Z9h : h0.size ≤ h8.size := Nat.le_trans Z6h (Nat.le_of_eq W8.size.symm)
  obtain ⟨lc8, X8, N8⟩ := own_pack1 X8 N5 g_o0
  refine own_thr (a := T8.setTop (mkF m 43 #[.val (.ref o0), .val (.ref o1), .val (.int 7)] [])) (fun t kt => st8 t kt) ?_
  refine own_thr (a := T8.setTop (mkF m 44 #[.val (.ref o0), .val (.ref o1), .val (.int 7)] [(.ref o0)])) (fun t kt => ?_) ?_
  · show Steps p.tables e below (T8.setTop (mkF m 43 #[.val (.ref o0), .val (.ref o1), .val (.int 7)] [])) _
    refine XS.aloadN X8.here hx rfl (hb hby d6_43) rfl rfl ?_
    exact kt
  have c10 := ((F_value_o0.keep K5 (ninS ne_o0_vb nin0)).other W8 (Or.inr (slot_ne (Or.inl (hw _ (List.mem_of_getElem? (i := 27) rfl))) (Or.inl (hw _ (List.mem_of_getElem? (i := 58) rfl))) (by decide) (t := (.array .byte)) (t' := .int) (by decide) (by decide))))
  have c11 := ((F_coder_o0.keep K5 (ninS ne_o0_vb nin0)).other W8 (Or.inr (slot_ne (Or.inl (hw _ (List.mem_of_getElem? (i := 29) rfl))) (Or.inl (hw _ (List.mem_of_getElem? (i := 58) rfl))) (by decide) (t := .byte) (t' := .int) (by decide) (by decide))))
  exact own_end X8 hlk (v := some (.ref o0)) (fun h => by rw [Bd.returns] at h; cases h) (fun fs hr => retA X8 hx Bd.returns rfl rfl (hb hby d6_44) hr) (by rw [e8]; exact ⟨rfl, N8, (((Keep.refl h0 [o0, vb]).trans K5 (allS (Or.inl (List.mem_of_getElem? (i := 1) rfl)) all0)).wr W8 (Or.inl (List.mem_of_getElem? (i := 0) rfl))), ((E_o0.keep K5).wr W8), c10, c11, Fw8, (o5_0.other W8 (Ne.symm ne_o0_vb))⟩) (by decide : 0 ≤ _) (by decide : 0 ≤ _)
theorem ef_rmSAq1 (m : MethodId) (o0 : Addr) (o1 : Addr)  : entryFrame m #[(.ref o0), (.ref o1)] 2 = mkF m 0 #[.val (.ref o0), .val (.ref o1)] [] := by first |  (simp [entryFrame, mkF, argsToLocals, Value.category]; done) | rfl
def Q_rmSAq1 (Z : State) (o0 : Addr) (o1 : Addr) (vb : Addr) (kb : ClassId) (sv : Addr) (ks : ClassId) (cs : Int32) (h0 : Heap) (n0 : Nat) (v : Option Value) (h : Heap) (L : List Loc) : Prop := v = some (.ref o0) ∧ Fr n0 L ∧ Keep h0 h [o0, vb] ∧ Exa Z h o0 "java/lang/StringBuilder" ∧ Fld Z h o0 "java/lang/AbstractStringBuilder" "value" "[B" (.ref vb) ∧ Fld Z h o0 "java/lang/AbstractStringBuilder" "coder" "B" (.int 0) ∧ Fld Z h o0 "java/lang/AbstractStringBuilder" "count" "I" (.int 7) ∧ Arv Z h vb kb .byte (16 : Int32) [(.int 45), (.int 45), (.int 113), (.int 117), (.int 101), (.int 117), (.int 101), (.int 0), (.int 0), (.int 0), (.int 0), (.int 0), (.int 0), (.int 0), (.int 0), (.int 0)] (.int 0)
set_option maxRecDepth 65536 in
set_option maxHeartbeats 40000000 in
theorem rmSAq1 (l : Launch) (Z : State) (a0 : Array Value) (hw : ∀ d ∈ tables_1, d.before a0 Z = true) (ws : List Jvm.Cond) (o0 : Addr) (o1 : Addr) (vb : Addr) (kb : ClassId) (sv : Addr) (ks : ClassId) (cs : Int32) (h0 : Heap) (n0 : Nat) (Z0 : n0 ≤ h0.size) (E_o0 : Exa Z h0 o0 "java/lang/StringBuilder") (F_value_o0 : Fld Z h0 o0 "java/lang/AbstractStringBuilder" "value" "[B" (.ref vb)) (F_coder_o0 : Fld Z h0 o0 "java/lang/AbstractStringBuilder" "coder" "B" (.int 0)) (F_count_o0 : Fld Z h0 o0 "java/lang/AbstractStringBuilder" "count" "I" (.int 0)) (E_o1 : Exa Z h0 o1 "java/lang/String") (F_value_o1 : Fld Z h0 o1 "java/lang/String" "value" "[B" (.ref sv)) (F_coder_o1 : Fld Z h0 o1 "java/lang/String" "coder" "B" (.int 0)) (V_vb : Arv Z h0 vb kb .byte (16 : Int32) [(.int 0), (.int 0), (.int 0), (.int 0), (.int 0), (.int 0), (.int 0), (.int 0), (.int 0), (.int 0), (.int 0), (.int 0), (.int 0), (.int 0), (.int 0), (.int 0)] (.int 0)) (V_sv : Arv Z h0 sv ks .byte (7 : Int32) [(.int 45), (.int 45), (.int 113), (.int 117), (.int 101), (.int 117), (.int 101)] (.int 0)) (S_COMPACT_STRINGS : Sta Z h0 "java/lang/String" "COMPACT_STRINGS" "Z" (.int cs)) (g_o0 : n0 ≤ o0) (g_vb : n0 ≤ vb) (ne_o0_vb : o0 ≠ vb) (ne_sv_vb : sv ≠ vb) (ne_o1_vb : o1 ≠ vb) (ne_o1_o0 : o1 ≠ o0) (ne_sv_o0 : sv ≠ o0) (hcs : ¬ cs = (0 : Int32)) :
    MetFree l (⟨"java/lang/StringBuilder", "append", "(Ljava/lang/String;)Ljava/lang/StringBuilder;"⟩ : MethodName) (head1 (Jvm.Cond.code (⟨"java/lang/StringBuilder", "append", "(Ljava/lang/String;)Ljava/lang/StringBuilder;"⟩ : MethodName) jdk_67_method_7_code 2 (some (.object "java/lang/StringBuilder")) :: ws) ({ frames := 4, cells := 0, slots := 0, locals := 61 } : Room)) (fun a U => a = #[(.ref o0), (.ref o1)] ∧ Z.Warmed39 U.vm ∧ U.heap = h0) (fun _ _ _ _ _ => True) (fun _ U o U' => ∃ v L, o = .returned v ∧ Q_rmSAq1 Z o0 o1 vb kb sv ks cs h0 n0 v U'.heap L ∧ FrameEnd U o U' L ({ frames := 4, cells := 0, slots := 0, locals := 61 } : Room).cells ({ frames := 4, cells := 0, slots := 0, locals := 61 } : Room).slots) := by
  refine MetFree.of_bodySF (plainFor_of_name pn_java_lang_StringBuilder) hisR ?_
  intro p e s m args below meth c s₁ Bd hml0 hP hK
  obtain ⟨rfl, hZ, hh⟩ := hP
  have hx := Bd.exec
  have hby := Bd.bytes
  have hml : c.maxLocals = 2 := hml0
  have hown : s.vm.findClass "java/lang/StringBuilder" = some m.cls := findClass_of_methodNamed Bd.named
  have hnm := (name_of_methodNamed Bd.named Bd.method).1
  have hlk := Bd.notSynchronized
  have X0 : Stand p l e ({ frames := 4, cells := 0, slots := 0, locals := 61 } : Room) s m #[(.ref o0), (.ref o1)] below meth c s₁ [] 0 0 := Stand.of_body Bd
  have e0 : s₁.heap = h0 := by rw [← hh, Bd.state]; rfl
  have N0 := Fr.nil n0
  show own_G p.tables e below s (Q_rmSAq1 Z o0 o1 vb kb sv ks cs h0 n0) ({ frames := 4, cells := 0, slots := 0, locals := 61 } : Room).cells ({ frames := 4, cells := 0, slots := 0, locals := 61 } : Room).slots _
  refine own_thr (a := s₁.setTop (mkF m 0 #[.val (.ref o0), .val (.ref o1)] [])) (fun t kt => castTop (ef_rmSAq1 m o0 o1) kt) ?_
  refine own_thr (a := s₁.setTop (mkF m 2 #[.val (.ref o0), .val (.ref o1)] [(.ref o1), (.ref o0)])) (fun t kt => ?_) ?_
  · show Steps p.tables e below (s₁.setTop (mkF m 0 #[.val (.ref o0), .val (.ref o1)] [])) _
    refine XS.aloadN X0.here hx rfl (hb hby d5_0) rfl rfl ?_
    refine XS.aloadN X0.here hx rfl (hb hby d5_1) rfl rfl ?_
    exact kt
  obtain ⟨_, _, ⟨T1, L1, k1, n1⟩, -, X1, ⟨Lc1, hQ1, l1, y1, z1⟩, st1⟩ := superBack X0 hx hZ (y := (⟨"java/lang/AbstractStringBuilder", "append", "(Ljava/lang/String;)Ljava/lang/AbstractStringBuilder;"⟩ : MethodName)) hown (hw _ (List.mem_of_getElem? (i := 37) rfl)) (own_same (y := (⟨"java/lang/AbstractStringBuilder", "append", "(Ljava/lang/String;)Ljava/lang/AbstractStringBuilder;"⟩ : MethodName)) (hw _ (List.mem_of_getElem? (i := 62) rfl)) rfl (hw _ (List.mem_of_getElem? (i := 38) rfl)) (by decide)) (hw _ (List.mem_of_getElem? (i := 38) rfl)) (hw _ (List.mem_of_getElem? (i := 39) rfl)) (by decide) (backOf (W := 0) (rmAAq1 l Z a0 hw [] o0 o1 vb kb sv ks cs h0 n0 Z0 E_o0 F_value_o0 F_coder_o0 F_count_o0 E_o1 F_value_o1 F_coder_o1 V_vb V_sv S_COMPACT_STRINGS g_o0 g_vb ne_o0_vb ne_sv_vb ne_o1_vb ne_o1_o0 ne_sv_o0 hcs) hZ (hw _ (List.mem_of_getElem? (i := 41) rfl)) (hw _ (List.mem_of_getElem? (i := 18) rfl)) (by decide) (by decide)) e0 (Ins.self E_o0) (g := (mkF m 2 #[.val (.ref o0), .val (.ref o1)] [(.ref o1), (.ref o0)])) rfl (by rw [hml]; rfl) (hw _ (List.mem_of_getElem? (i := 41) rfl)) (argsL := [(.ref o1)]) (rest := []) (lenOf pd__28Ljava_2flang_2fString_3b_29Ljava_2flang_2fAbstractStringBuilder_3b rfl) rfl (by show 2 * 0 + _ ≤ _; exact Nat.le_of_eq rfl) (hb hby d5_2) (fun _ _ => ⟨rfl, e0, (by decide : 0 + 0 ≤ _), (by decide : 0 + 0 ≤ _)⟩)
  dsimp only [Pt.U, Pt.locs, Pt.cells, Pt.slots] at X1 l1 y1 z1 st1 hQ1
  obtain ⟨rfl, N1q, K1, o1_0, o1_1, o1_2, o1_3, o1_4⟩ := hQ1
  have Z2 : n0 ≤ T1.heap.size := Nat.le_trans Z0 K1.1
  have Z2h : h0.size ≤ T1.heap.size := Nat.le_trans (Nat.le_refl h0.size) K1.1
  obtain ⟨lc1, X1, N1⟩ := own_pack X1 l1 y1 z1 N0 N1q (C := 0) (S' := 0) rfl rfl
  refine own_thr (a := T1.setTop (mkF m 5 #[.val (.ref o0), .val (.ref o1)] [(.ref o0)])) (fun t kt => st1.trans kt) ?_
  refine own_thr (a := T1.setTop (mkF m 7 #[.val (.ref o0), .val (.ref o1)] [(.ref o0)])) (fun t kt => ?_) ?_
  · show Steps p.tables e below (T1.setTop (mkF m 5 #[.val (.ref o0), .val (.ref o1)] [(.ref o0)])) _
    refine XS.pop X1.here hx rfl (hb hby d5_5) rfl rfl ?_
    refine XS.aloadN X1.here hx rfl (hb hby d5_6) rfl rfl ?_
    exact kt
  exact own_end X1 hlk (v := some (.ref o0)) (fun h => by rw [Bd.returns] at h; cases h) (fun fs hr => retA X1 hx Bd.returns rfl rfl (hb hby d5_7) hr) ⟨rfl, N1, ((Keep.refl h0 [o0, vb]).trans K1 (allS (Or.inl (List.mem_of_getElem? (i := 0) rfl)) (allS (Or.inl (List.mem_of_getElem? (i := 1) rfl)) all0))), o1_0, o1_1, o1_2, o1_3, o1_4⟩ (by decide : 0 ≤ _) (by decide : 0 ≤ _)
theorem ef_rmLNq2 (m : MethodId) (o0 : Addr)  : entryFrame m #[(.ref o0)] 1 = mkF m 0 #[.val (.ref o0)] [] := by first |  (simp [entryFrame, mkF, argsToLocals, Value.category]; done) | rfl
def Q_rmLNq2 (Z : State) (o0 : Addr) (sv : Addr) (ks : ClassId) (cs : Int32) (h0 : Heap) (n0 : Nat) (v : Option Value) (h : Heap) (L : List Loc) : Prop := v = some (.int 1) ∧ Fr n0 L ∧ h = h0
set_option maxRecDepth 65536 in
set_option maxHeartbeats 40000000 in
theorem rmLNq2 (l : Launch) (Z : State) (a0 : Array Value) (hw : ∀ d ∈ tables_1, d.before a0 Z = true) (ws : List Jvm.Cond) (o0 : Addr) (sv : Addr) (ks : ClassId) (cs : Int32) (h0 : Heap) (n0 : Nat) (Z0 : n0 ≤ h0.size) (E_o0 : Exa Z h0 o0 "java/lang/String") (F_value_o0 : Fld Z h0 o0 "java/lang/String" "value" "[B" (.ref sv)) (F_coder_o0 : Fld Z h0 o0 "java/lang/String" "coder" "B" (.int 0)) (V_sv : Arv Z h0 sv ks .byte (1 : Int32) [(.int 32)] (.int 0)) (S_COMPACT_STRINGS : Sta Z h0 "java/lang/String" "COMPACT_STRINGS" "Z" (.int cs)) (hcs : ¬ cs = (0 : Int32)) :
    MetFree l (⟨"java/lang/String", "length", "()I"⟩ : MethodName) (head1 (Jvm.Cond.code (⟨"java/lang/String", "length", "()I"⟩ : MethodName) jdk_42_method_54_code 1 (some .int) :: ws) ({ frames := 1, cells := 0, slots := 0, locals := 13 } : Room)) (fun a U => a = #[(.ref o0)] ∧ Z.Warmed39 U.vm ∧ U.heap = h0) (fun _ _ _ _ _ => True) (fun _ U o U' => ∃ v L, o = .returned v ∧ Q_rmLNq2 Z o0 sv ks cs h0 n0 v U'.heap L ∧ FrameEnd U o U' L ({ frames := 1, cells := 0, slots := 0, locals := 13 } : Room).cells ({ frames := 1, cells := 0, slots := 0, locals := 13 } : Room).slots) := by
  refine MetFree.of_bodySF (plainFor_of_name pn_java_lang_String) hisR ?_
  intro p e s m args below meth c s₁ Bd hml0 hP hK
  obtain ⟨rfl, hZ, hh⟩ := hP
  have hx := Bd.exec
  have hby := Bd.bytes
  have hml : c.maxLocals = 1 := hml0
  have hown : s.vm.findClass "java/lang/String" = some m.cls := findClass_of_methodNamed Bd.named
  have hnm := (name_of_methodNamed Bd.named Bd.method).1
  have hlk := Bd.notSynchronized
  have X0 : Stand p l e ({ frames := 1, cells := 0, slots := 0, locals := 13 } : Room) s m #[(.ref o0)] below meth c s₁ [] 0 0 := Stand.of_body Bd
  have e0 : s₁.heap = h0 := by rw [← hh, Bd.state]; rfl
  have N0 := Fr.nil n0
  show own_G p.tables e below s (Q_rmLNq2 Z o0 sv ks cs h0 n0) ({ frames := 1, cells := 0, slots := 0, locals := 13 } : Room).cells ({ frames := 1, cells := 0, slots := 0, locals := 13 } : Room).slots _
  refine own_thr (a := s₁.setTop (mkF m 0 #[.val (.ref o0)] [])) (fun t kt => castTop (ef_rmLNq2 m o0) kt) ?_
  refine own_thr (a := s₁.setTop (mkF m 1 #[.val (.ref o0)] [(.ref o0)])) (fun t kt => ?_) ?_
  · show Steps p.tables e below (s₁.setTop (mkF m 0 #[.val (.ref o0)] [])) _
    refine XS.aloadN X0.here hx rfl (hb hby d7_0) rfl rfl ?_
    exact kt
  obtain ⟨T1, X1, e1, st1⟩ := getF X0 hx hZ hown (host := "") (Or.inl (hw _ (List.mem_of_getElem? (i := 47) rfl))) Via.refl e0 F_value_o0 (g := (mkF m 1 #[.val (.ref o0)] [(.ref o0)])) rfl rfl (hb hby d7_1)
  refine own_thr (a := T1.setTop (mkF m 4 #[.val (.ref o0)] [(.ref sv)])) (fun t kt => st1 t kt) ?_
  obtain ⟨cl2, Ar2, -, S2, M2, -, -⟩ := id V_sv
  refine own_thr (a := T1.setTop (mkF m 6 #[.val (.ref o0)] [(.ref o0), (.int 1)])) (fun t kt => ?_) ?_
  · show Steps p.tables e below (T1.setTop (mkF m 4 #[.val (.ref o0)] [(.ref sv)])) _
    refine X1.arraylength hx (by rw [e1]; exact Ar2.1) (State.isArrayOf_alike hZ.alike Ar2.2.1) (g := (mkF m 4 #[.val (.ref o0)] [(.ref sv)])) rfl rfl (hb hby d7_4) _ ?_
    rw [len_of S2 M2]
    refine XS.aloadN X1.here hx rfl (hb hby d7_5) rfl rfl ?_
    exact kt
  obtain ⟨cq3, kq3, q3a, q3b, q3c⟩ := isOf hZ e1 E_o0
  obtain ⟨_, _, ⟨T3, L3, k3, n3⟩, -, X3, ⟨Lc3, hQ3, l3, y3, z3⟩, st3⟩ := X1.virtualBack hx (y := (⟨"java/lang/String", "coder", "()B"⟩ : MethodName)) (z := (⟨"java/lang/String", "coder", "()B"⟩ : MethodName)) hown (mvT hZ (hw _ (List.mem_of_getElem? (i := 49) rfl))) (mvT hZ (hw _ (List.mem_of_getElem? (i := 50) rfl))) (notFace_of_selects (args := #[]) (mvT hZ (hw _ (List.mem_of_getElem? (i := 52) rfl)))) (mvT hZ (hw _ (List.mem_of_getElem? (i := 52) rfl))) (mvT hZ (hw _ (List.mem_of_getElem? (i := 51) rfl))) (by decide) (backOf (W := 1) (rmCO l Z a0 hw [] o0 cs h0 n0 Z0 F_coder_o0 S_COMPACT_STRINGS hcs) hZ (hw _ (List.mem_of_getElem? (i := 53) rfl)) (hw _ (List.mem_of_getElem? (i := 24) rfl)) (by decide) (by decide)) q3a q3c (g := (mkF m 6 #[.val (.ref o0)] [(.ref o0), (.int 1)])) rfl (by rw [hml]; rfl) (Steps.refl _) (argsL := []) (rest := [(.int 1)]) (lenOf pd__28_29B rfl) rfl (by show 2 * 0 + _ ≤ _; exact Nat.le_of_eq rfl) (hb hby d7_6) (fun _ _ => ⟨rfl, e1, (by decide : 0 + 0 ≤ _), (by decide : 0 + 0 ≤ _)⟩)
  dsimp only [Pt.U, Pt.locs, Pt.cells, Pt.slots] at X3 l3 y3 z3 st3 hQ3
  obtain ⟨rfl, N3q, e3⟩ := hQ3
  obtain ⟨lc3, X3, N3⟩ := own_pack X3 l3 y3 z3 N0 N3q (C := 0) (S' := 0) rfl rfl
  refine own_thr (a := T3.setTop (mkF m 9 #[.val (.ref o0)] [(.int 0), (.int 1)])) (fun t kt => st3.trans kt) ?_
  refine own_thr (a := T3.setTop (mkF m 10 #[.val (.ref o0)] [(.int 1)])) (fun t kt => ?_) ?_
  · show Steps p.tables e below (T3.setTop (mkF m 9 #[.val (.ref o0)] [(.int 0), (.int 1)])) _
    refine XS.ishr X3.here hx rfl (hb hby d7_9) rfl ?_
    exact kt
  exact own_end X3 hlk (v := some (.int 1)) (fun h => by rw [Bd.returns] at h; cases h) (fun fs hr => retI X3 hx Bd.returns (hb hby d7_10) hr) (by rw [e3]; exact ⟨rfl, N3, rfl⟩) (by decide : 0 ≤ _) (by decide : 0 ≤ _)
theorem ef_rmENq2 (m : MethodId) (o0 : Addr)  : entryFrame m #[(.ref o0), (.int 8)] 3 = mkF m 0 #[.val (.ref o0), .val (.int 8), .unset] [] := by first |  (simp [entryFrame, mkF, argsToLocals, Value.category]; done) | rfl
def Q_rmENq2 (Z : State) (o0 : Addr) (vb : Addr) (kb : ClassId) (h0 : Heap) (n0 : Nat) (v : Option Value) (h : Heap) (L : List Loc) : Prop := v = none ∧ Fr n0 L ∧ h = h0
set_option maxRecDepth 65536 in
set_option maxHeartbeats 40000000 in
theorem rmENq2 (l : Launch) (Z : State) (a0 : Array Value) (hw : ∀ d ∈ tables_1, d.before a0 Z = true) (ws : List Jvm.Cond) (o0 : Addr) (vb : Addr) (kb : ClassId) (h0 : Heap) (n0 : Nat) (Z0 : n0 ≤ h0.size) (F_value_o0 : Fld Z h0 o0 "java/lang/AbstractStringBuilder" "value" "[B" (.ref vb)) (F_coder_o0 : Fld Z h0 o0 "java/lang/AbstractStringBuilder" "coder" "B" (.int 0)) (V_vb : Arv Z h0 vb kb .byte (16 : Int32) [(.int 45), (.int 45), (.int 113), (.int 117), (.int 101), (.int 117), (.int 101), (.int 0), (.int 0), (.int 0), (.int 0), (.int 0), (.int 0), (.int 0), (.int 0), (.int 0)] (.int 0)) :
    MetFree l (⟨"java/lang/AbstractStringBuilder", "ensureCapacityInternal", "(I)V"⟩ : MethodName) (head1 (Jvm.Cond.code (⟨"java/lang/AbstractStringBuilder", "ensureCapacityInternal", "(I)V"⟩ : MethodName) jdk_68_method_9_code 3 none :: ws) ({ frames := 0, cells := 0, slots := 0, locals := 0 } : Room)) (fun a U => a = #[(.ref o0), (.int 8)] ∧ Z.Warmed39 U.vm ∧ U.heap = h0) (fun _ _ _ _ _ => True) (fun _ U o U' => ∃ v L, o = .returned v ∧ Q_rmENq2 Z o0 vb kb h0 n0 v U'.heap L ∧ FrameEnd U o U' L ({ frames := 0, cells := 0, slots := 0, locals := 0 } : Room).cells ({ frames := 0, cells := 0, slots := 0, locals := 0 } : Room).slots) := by
  refine MetFree.of_bodySF (plainFor_of_name pn_java_lang_AbstractStringBuilder) hisR ?_
  intro p e s m args below meth c s₁ Bd hml0 hP hK
  obtain ⟨rfl, hZ, hh⟩ := hP
  have hx := Bd.exec
  have hby := Bd.bytes
  have hml : c.maxLocals = 3 := hml0
  have hown : s.vm.findClass "java/lang/AbstractStringBuilder" = some m.cls := findClass_of_methodNamed Bd.named
  have hnm := (name_of_methodNamed Bd.named Bd.method).1
  have hlk := Bd.notSynchronized
  have X0 : Stand p l e ({ frames := 0, cells := 0, slots := 0, locals := 0 } : Room) s m #[(.ref o0), (.int 8)] below meth c s₁ [] 0 0 := Stand.of_body Bd
  have e0 : s₁.heap = h0 := by rw [← hh, Bd.state]; rfl
  have N0 := Fr.nil n0
  show own_G p.tables e below s (Q_rmENq2 Z o0 vb kb h0 n0) ({ frames := 0, cells := 0, slots := 0, locals := 0 } : Room).cells ({ frames := 0, cells := 0, slots := 0, locals := 0 } : Room).slots _
  refine own_thr (a := s₁.setTop (mkF m 0 #[.val (.ref o0), .val (.int 8), .unset] [])) (fun t kt => castTop (ef_rmENq2 m o0) kt) ?_
  refine own_thr (a := s₁.setTop (mkF m 1 #[.val (.ref o0), .val (.int 8), .unset] [(.ref o0)])) (fun t kt => ?_) ?_
  · show Steps p.tables e below (s₁.setTop (mkF m 0 #[.val (.ref o0), .val (.int 8), .unset] [])) _
    refine XS.aloadN X0.here hx rfl (hb hby d9_0) rfl rfl ?_
    exact kt
  obtain ⟨T1, X1, e1, st1⟩ := getF X0 hx hZ hown (host := "") (Or.inl (hw _ (List.mem_of_getElem? (i := 26) rfl))) Via.refl e0 F_value_o0 (g := (mkF m 1 #[.val (.ref o0), .val (.int 8), .unset] [(.ref o0)])) rfl rfl (hb hby d9_1)
  refine own_thr (a := T1.setTop (mkF m 4 #[.val (.ref o0), .val (.int 8), .unset] [(.ref vb)])) (fun t kt => st1 t kt) ?_
  obtain ⟨cl2, Ar2, -, S2, M2, -, -⟩ := id V_vb
  refine own_thr (a := T1.setTop (mkF m 6 #[.val (.ref o0), .val (.int 8), .unset] [(.ref o0), (.int 16)])) (fun t kt => ?_) ?_
  · show Steps p.tables e below (T1.setTop (mkF m 4 #[.val (.ref o0), .val (.int 8), .unset] [(.ref vb)])) _
    refine X1.arraylength hx (by rw [e1]; exact Ar2.1) (State.isArrayOf_alike hZ.alike Ar2.2.1) (g := (mkF m 4 #[.val (.ref o0), .val (.int 8), .unset] [(.ref vb)])) rfl rfl (hb hby d9_4) _ ?_
    rw [len_of S2 M2]
    refine XS.aloadN X1.here hx rfl (hb hby d9_5) rfl rfl ?_
    exact kt
  obtain ⟨T3, X3, e3, st3⟩ := getF X1 hx hZ hown (host := "") (Or.inl (hw _ (List.mem_of_getElem? (i := 28) rfl))) Via.refl e1 F_coder_o0 (g := (mkF m 6 #[.val (.ref o0), .val (.int 8), .unset] [(.ref o0), (.int 16)])) rfl rfl (hb hby d9_6)
  refine own_thr (a := T3.setTop (mkF m 9 #[.val (.ref o0), .val (.int 8), .unset] [(.int 0), (.int 16)])) (fun t kt => st3 t kt) ?_
  refine own_thr (a := T3.setTop (mkF m 38 #[.val (.ref o0), .val (.int 8), .val (.int 16)] [])) (fun t kt => ?_) ?_
  · show Steps p.tables e below (T3.setTop (mkF m 9 #[.val (.ref o0), .val (.int 8), .unset] [(.int 0), (.int 16)])) _
    refine XS.ishr X3.here hx rfl (hb hby d9_9) rfl ?_
    refine XS.istoreN X3.here hx rfl (hb hby d9_10) rfl (l' := #[.val (.ref o0), .val (.int 8), .val (.int 16)]) rfl ?_
    refine XS.iloadN X3.here hx rfl (hb hby d9_11) rfl ?_
    refine XS.iloadN X3.here hx rfl (hb hby d9_12) rfl ?_
    refine XS.isub X3.here hx rfl (hb hby d9_13) rfl ?_
    refine XS.ifYes X3.here hx rfl (pc0 := 14) (pc' := 38) rfl (hb hby d9_14) rfl ((if0 _ _).trans (flt (by decide)).2.2.2) (by decide) (by decide) ?_
    exact kt
  exact own_end X3 hlk (v := none) (fun _ => rfl) (fun fs hr => X3.returnOut hx Bd.returns (hb hby d9_38) hr) (by rw [e3]; exact ⟨rfl, N0, rfl⟩) (by decide : 0 ≤ _) (by decide : 0 ≤ _)
theorem ef_rmGBq2 (m : MethodId) (o0 : Addr) (vb : Addr)  : entryFrame m #[(.ref o0), (.ref vb), (.int 7), (.int 0)] 4 = mkF m 0 #[.val (.ref o0), .val (.ref vb), .val (.int 7), .val (.int 0)] [] := by first |  (simp [entryFrame, mkF, argsToLocals, Value.category]; done) | rfl
def Q_rmGBq2 (Z : State) (o0 : Addr) (vb : Addr) (sv : Addr) (ks : ClassId) (kb : ClassId) (cs : Int32) (h0 : Heap) (n0 : Nat) (v : Option Value) (h : Heap) (L : List Loc) : Prop := v = none ∧ Fr n0 L ∧ Keep h0 h [vb] ∧ Arv Z h vb kb .byte (16 : Int32) [(.int 45), (.int 45), (.int 113), (.int 117), (.int 101), (.int 117), (.int 101), (.int 32), (.int 0), (.int 0), (.int 0), (.int 0), (.int 0), (.int 0), (.int 0), (.int 0)] (.int 0)
set_option maxRecDepth 65536 in
set_option maxHeartbeats 40000000 in
theorem rmGBq2 (l : Launch) (Z : State) (a0 : Array Value) (hw : ∀ d ∈ tables_1, d.before a0 Z = true) (ws : List Jvm.Cond) (o0 : Addr) (vb : Addr) (sv : Addr) (ks : ClassId) (kb : ClassId) (cs : Int32) (h0 : Heap) (n0 : Nat) (Z0 : n0 ≤ h0.size) (E_o0 : Exa Z h0 o0 "java/lang/String") (F_value_o0 : Fld Z h0 o0 "java/lang/String" "value" "[B" (.ref sv)) (F_coder_o0 : Fld Z h0 o0 "java/lang/String" "coder" "B" (.int 0)) (V_sv : Arv Z h0 sv ks .byte (1 : Int32) [(.int 32)] (.int 0)) (V_vb : Arv Z h0 vb kb .byte (16 : Int32) [(.int 45), (.int 45), (.int 113), (.int 117), (.int 101), (.int 117), (.int 101), (.int 0), (.int 0), (.int 0), (.int 0), (.int 0), (.int 0), (.int 0), (.int 0), (.int 0)] (.int 0)) (S_COMPACT_STRINGS : Sta Z h0 "java/lang/String" "COMPACT_STRINGS" "Z" (.int cs)) (g_vb : n0 ≤ vb) (ne_sv_vb : sv ≠ vb) (ne_o0_vb : o0 ≠ vb) (hcs : ¬ cs = (0 : Int32)) :
    MetFree l (⟨"java/lang/String", "getBytes", "([BIB)V"⟩ : MethodName) (head1 (Jvm.Cond.code (⟨"java/lang/String", "getBytes", "([BIB)V"⟩ : MethodName) jdk_42_method_147_code 4 none :: ws) ({ frames := 1, cells := 0, slots := 0, locals := 18 } : Room)) (fun a U => a = #[(.ref o0), (.ref vb), (.int 7), (.int 0)] ∧ Z.Warmed39 U.vm ∧ U.heap = h0) (fun _ _ _ _ _ => True) (fun _ U o U' => ∃ v L, o = .returned v ∧ Q_rmGBq2 Z o0 vb sv ks kb cs h0 n0 v U'.heap L ∧ FrameEnd U o U' L ({ frames := 1, cells := 0, slots := 0, locals := 18 } : Room).cells ({ frames := 1, cells := 0, slots := 0, locals := 18 } : Room).slots) := by
  refine MetFree.of_bodySF (plainFor_of_name pn_java_lang_String) hisR ?_
  intro p e s m args below meth c s₁ Bd hml0 hP hK
  obtain ⟨rfl, hZ, hh⟩ := hP
  have hx := Bd.exec
  have hby := Bd.bytes
  have hml : c.maxLocals = 4 := hml0
  have hown : s.vm.findClass "java/lang/String" = some m.cls := findClass_of_methodNamed Bd.named
  have hnm := (name_of_methodNamed Bd.named Bd.method).1
  have hlk := Bd.notSynchronized
  have X0 : Stand p l e ({ frames := 1, cells := 0, slots := 0, locals := 18 } : Room) s m #[(.ref o0), (.ref vb), (.int 7), (.int 0)] below meth c s₁ [] 0 0 := Stand.of_body Bd
  have e0 : s₁.heap = h0 := by rw [← hh, Bd.state]; rfl
  have N0 := Fr.nil n0
  show own_G p.tables e below s (Q_rmGBq2 Z o0 vb sv ks kb cs h0 n0) ({ frames := 1, cells := 0, slots := 0, locals := 18 } : Room).cells ({ frames := 1, cells := 0, slots := 0, locals := 18 } : Room).slots _
  refine own_thr (a := s₁.setTop (mkF m 0 #[.val (.ref o0), .val (.ref vb), .val (.int 7), .val (.int 0)] [])) (fun t kt => castTop (ef_rmGBq2 m o0 vb) kt) ?_
  refine own_thr (a := s₁.setTop (mkF m 1 #[.val (.ref o0), .val (.ref vb), .val (.int 7), .val (.int 0)] [(.ref o0)])) (fun t kt => ?_) ?_
  · show Steps p.tables e below (s₁.setTop (mkF m 0 #[.val (.ref o0), .val (.ref vb), .val (.int 7), .val (.int 0)] [])) _
    refine XS.aloadN X0.here hx rfl (hb hby d12_0) rfl rfl ?_
    exact kt
  obtain ⟨cq1, kq1, q1a, q1b, q1c⟩ := isOf hZ e0 E_o0
  obtain ⟨_, _, ⟨T1, L1, k1, n1⟩, -, X1, ⟨Lc1, hQ1, l1, y1, z1⟩, st1⟩ := X0.virtualBack hx (y := (⟨"java/lang/String", "coder", "()B"⟩ : MethodName)) (z := (⟨"java/lang/String", "coder", "()B"⟩ : MethodName)) hown (mvT hZ (hw _ (List.mem_of_getElem? (i := 49) rfl))) (mvT hZ (hw _ (List.mem_of_getElem? (i := 50) rfl))) (notFace_of_selects (args := #[]) (mvT hZ (hw _ (List.mem_of_getElem? (i := 52) rfl)))) (mvT hZ (hw _ (List.mem_of_getElem? (i := 52) rfl))) (mvT hZ (hw _ (List.mem_of_getElem? (i := 51) rfl))) (by decide) (backOf (W := 0) (rmCO l Z a0 hw [] o0 cs h0 n0 Z0 F_coder_o0 S_COMPACT_STRINGS hcs) hZ (hw _ (List.mem_of_getElem? (i := 53) rfl)) (hw _ (List.mem_of_getElem? (i := 24) rfl)) (by decide) (by decide)) q1a q1c (g := (mkF m 1 #[.val (.ref o0), .val (.ref vb), .val (.int 7), .val (.int 0)] [(.ref o0)])) rfl (by rw [hml]; rfl) (Steps.refl _) (argsL := []) (rest := []) (lenOf pd__28_29B rfl) rfl (by show 2 * 0 + _ ≤ _; exact Nat.le_of_eq rfl) (hb hby d12_1) (fun _ _ => ⟨rfl, e0, (by decide : 0 + 0 ≤ _), (by decide : 0 + 0 ≤ _)⟩)
  dsimp only [Pt.U, Pt.locs, Pt.cells, Pt.slots] at X1 l1 y1 z1 st1 hQ1
  obtain ⟨rfl, N1q, e1⟩ := hQ1
  obtain ⟨lc1, X1, N1⟩ := own_pack X1 l1 y1 z1 N0 N1q (C := 0) (S' := 0) rfl rfl
  refine own_thr (a := T1.setTop (mkF m 4 #[.val (.ref o0), .val (.ref vb), .val (.int 7), .val (.int 0)] [(.int 0)])) (fun t kt => st1.trans kt) ?_
  refine own_thr (a := T1.setTop (mkF m 9 #[.val (.ref o0), .val (.ref vb), .val (.int 7), .val (.int 0)] [(.ref o0)])) (fun t kt => ?_) ?_
  · show Steps p.tables e below (T1.setTop (mkF m 4 #[.val (.ref o0), .val (.ref vb), .val (.int 7), .val (.int 0)] [(.int 0)])) _
    refine XS.iloadN X1.here hx rfl (hb hby d12_4) rfl ?_
    refine XS.icmpNo X1.here hx rfl (hb hby d12_5) rfl (teq rfl).2 ?_
    refine XS.aloadN X1.here hx rfl (hb hby d12_8) rfl rfl ?_
    exact kt
  obtain ⟨T2, X2, e2, st2⟩ := getF X1 hx hZ hown (host := "") (Or.inl (hw _ (List.mem_of_getElem? (i := 47) rfl))) Via.refl e1 F_value_o0 (g := (mkF m 9 #[.val (.ref o0), .val (.ref vb), .val (.int 7), .val (.int 0)] [(.ref o0)])) rfl rfl (hb hby d12_9)
  refine own_thr (a := T2.setTop (mkF m 12 #[.val (.ref o0), .val (.ref vb), .val (.int 7), .val (.int 0)] [(.ref sv)])) (fun t kt => st2 t kt) ?_
  refine own_thr (a := T2.setTop (mkF m 18 #[.val (.ref o0), .val (.ref vb), .val (.int 7), .val (.int 0)] [(.ref o0), (.int 7), (.ref vb), (.int 0), (.ref sv)])) (fun t kt => ?_) ?_
  · show Steps p.tables e below (T2.setTop (mkF m 12 #[.val (.ref o0), .val (.ref vb), .val (.int 7), .val (.int 0)] [(.ref sv)])) _
    refine XS.iconst X2.here hx rfl (hb hby d12_12) ?_
    refine XS.aloadN X2.here hx rfl (hb hby d12_13) rfl rfl ?_
    refine XS.iloadN X2.here hx rfl (hb hby d12_14) rfl ?_
    refine XS.iloadN X2.here hx rfl (hb hby d12_15) rfl ?_
    refine XS.ishl X2.here hx rfl (hb hby d12_16) rfl ?_
    refine XS.aloadN X2.here hx rfl (hb hby d12_17) rfl rfl ?_
    exact kt
  obtain ⟨T3, X3, e3, st3⟩ := getF X2 hx hZ hown (host := "") (Or.inl (hw _ (List.mem_of_getElem? (i := 47) rfl))) Via.refl e2 F_value_o0 (g := (mkF m 18 #[.val (.ref o0), .val (.ref vb), .val (.int 7), .val (.int 0)] [(.ref o0), (.int 7), (.ref vb), (.int 0), (.ref sv)])) rfl rfl (hb hby d12_18)
  refine own_thr (a := T3.setTop (mkF m 21 #[.val (.ref o0), .val (.ref vb), .val (.int 7), .val (.int 0)] [(.ref sv), (.int 7), (.ref vb), (.int 0), (.ref sv)])) (fun t kt => st3 t kt) ?_
  obtain ⟨cl4, Ar4, -, S4, M4, -, -⟩ := id V_sv
  refine own_thr (a := T3.setTop (mkF m 22 #[.val (.ref o0), .val (.ref vb), .val (.int 7), .val (.int 0)] [(.int 1), (.int 7), (.ref vb), (.int 0), (.ref sv)])) (fun t kt => ?_) ?_
  · show Steps p.tables e below (T3.setTop (mkF m 21 #[.val (.ref o0), .val (.ref vb), .val (.int 7), .val (.int 0)] [(.ref sv), (.int 7), (.ref vb), (.int 0), (.ref sv)])) _
    refine X3.arraylength hx (by rw [e3]; exact Ar4.1) (State.isArrayOf_alike hZ.alike Ar4.2.1) (g := (mkF m 21 #[.val (.ref o0), .val (.ref vb), .val (.int 7), .val (.int 0)] [(.ref sv), (.int 7), (.ref vb), (.int 0), (.ref sv)])) rfl rfl (hb hby d12_21) _ ?_
    rw [len_of S4 M4]
    exact kt
  obtain ⟨T5, h5, L5, X5, e5, N5, K5, V5, st5⟩ := cpA X3 hx hZ hown (hw _ (List.mem_of_getElem? (i := 80) rfl)) (hw _ (List.mem_of_getElem? (i := 83) rfl)) (hw _ (List.mem_of_getElem? (i := 81) rfl)) (hw _ (List.mem_of_getElem? (i := 82) rfl)) e3 V_sv V_vb (Or.inl ⟨rfl, rfl⟩) (sp := (0 : Int32)) (dp := (7 : Int32)) (nn := (1 : Int32)) (by decide) (by decide) (by decide) (by decide) (by decide) (us := [(.int 32)]) rfl (by decide) N1 g_vb (g := (mkF m 22 #[.val (.ref o0), .val (.ref vb), .val (.int 7), .val (.int 0)] [(.int 1), (.int 7), (.ref vb), (.int 0), (.ref sv)])) rfl (by rw [hml]; rfl) rfl (hb hby d12_22) (by decide) (W := 0) (by show 2 * 0 + _ ≤ _; exact Nat.le_of_eq rfl) (by decide)
  have Z6 : n0 ≤ h5.size := Nat.le_trans Z0 K5.1
  have Z6h : h0.size ≤ h5.size := Nat.le_trans (Nat.le_refl h0.size) K5.1
  have Vl5 : Arv Z h5 vb kb .byte (16 : Int32) [(.int 45), (.int 45), (.int 113), (.int 117), (.int 101), (.int 117), (.int 101), (.int 32), (.int 0), (.int 0), (.int 0), (.int 0), (.int 0), (.int 0), (.int 0), (.int 0)] (.int 0) := V5
  refine own_thr (a := T5.setTop (mkF m 25 #[.val (.ref o0), .val (.ref vb), .val (.int 7), .val (.int 0)] [])) (fun t kt => st5 t kt) ?_
  refine own_thr (a := T5.setTop (mkF m 43 #[.val (.ref o0), .val (.ref vb), .val (.int 7), .val (.int 0)] [])) (fun t kt => ?_) ?_
  · show Steps p.tables e below (T5.setTop (mkF m 25 #[.val (.ref o0), .val (.ref vb), .val (.int 7), .val (.int 0)] [])) _
    refine XS.goto X5.here hx rfl (pc0 := 25) (pc' := 43) rfl (hb hby d12_25) (by decide) (by decide) ?_
    exact kt
  exact own_end X5 hlk (v := none) (fun _ => rfl) (fun fs hr => X5.returnOut hx Bd.returns (hb hby d12_43) hr) (by rw [e5]; exact ⟨rfl, N5, ((Keep.refl h0 [vb]).trans K5 (allS (Or.inl (List.mem_of_getElem? (i := 0) rfl)) all0)), Vl5⟩) (by decide : 0 ≤ _) (by decide : 0 ≤ _)
theorem ef_rmPSq2 (m : MethodId) (o0 : Addr) (o2 : Addr)  : entryFrame m #[(.ref o0), (.int 7), (.ref o2)] 3 = mkF m 0 #[.val (.ref o0), .val (.int 7), .val (.ref o2)] [] := by first |  (simp [entryFrame, mkF, argsToLocals, Value.category]; done) | rfl
def Q_rmPSq2 (Z : State) (o0 : Addr) (o2 : Addr) (vb : Addr) (kb : ClassId) (sv : Addr) (ks : ClassId) (cs : Int32) (h0 : Heap) (n0 : Nat) (v : Option Value) (h : Heap) (L : List Loc) : Prop := v = none ∧ Fr n0 L ∧ Keep h0 h [vb] ∧ Arv Z h vb kb .byte (16 : Int32) [(.int 45), (.int 45), (.int 113), (.int 117), (.int 101), (.int 117), (.int 101), (.int 32), (.int 0), (.int 0), (.int 0), (.int 0), (.int 0), (.int 0), (.int 0), (.int 0)] (.int 0)
set_option maxRecDepth 65536 in
set_option maxHeartbeats 40000000 in
theorem rmPSq2 (l : Launch) (Z : State) (a0 : Array Value) (hw : ∀ d ∈ tables_1, d.before a0 Z = true) (ws : List Jvm.Cond) (o0 : Addr) (o2 : Addr) (vb : Addr) (kb : ClassId) (sv : Addr) (ks : ClassId) (cs : Int32) (h0 : Heap) (n0 : Nat) (Z0 : n0 ≤ h0.size) (E_o0 : Exa Z h0 o0 "java/lang/StringBuilder") (F_value_o0 : Fld Z h0 o0 "java/lang/AbstractStringBuilder" "value" "[B" (.ref vb)) (F_coder_o0 : Fld Z h0 o0 "java/lang/AbstractStringBuilder" "coder" "B" (.int 0)) (F_count_o0 : Fld Z h0 o0 "java/lang/AbstractStringBuilder" "count" "I" (.int 7)) (E_o2 : Exa Z h0 o2 "java/lang/String") (F_value_o2 : Fld Z h0 o2 "java/lang/String" "value" "[B" (.ref sv)) (F_coder_o2 : Fld Z h0 o2 "java/lang/String" "coder" "B" (.int 0)) (V_vb : Arv Z h0 vb kb .byte (16 : Int32) [(.int 45), (.int 45), (.int 113), (.int 117), (.int 101), (.int 117), (.int 101), (.int 0), (.int 0), (.int 0), (.int 0), (.int 0), (.int 0), (.int 0), (.int 0), (.int 0)] (.int 0)) (V_sv : Arv Z h0 sv ks .byte (1 : Int32) [(.int 32)] (.int 0)) (S_COMPACT_STRINGS : Sta Z h0 "java/lang/String" "COMPACT_STRINGS" "Z" (.int cs)) (g_vb : n0 ≤ vb) (ne_o0_vb : o0 ≠ vb) (ne_sv_vb : sv ≠ vb) (ne_o2_vb : o2 ≠ vb) (ne_o2_o0 : o2 ≠ o0) (ne_sv_o0 : sv ≠ o0) (hcs : ¬ cs = (0 : Int32)) :
    MetFree l (⟨"java/lang/AbstractStringBuilder", "putStringAt", "(ILjava/lang/String;)V"⟩ : MethodName) (head1 (Jvm.Cond.code (⟨"java/lang/AbstractStringBuilder", "putStringAt", "(ILjava/lang/String;)V"⟩ : MethodName) jdk_68_method_73_code 3 none :: ws) ({ frames := 2, cells := 0, slots := 0, locals := 33 } : Room)) (fun a U => a = #[(.ref o0), (.int 7), (.ref o2)] ∧ Z.Warmed39 U.vm ∧ U.heap = h0) (fun _ _ _ _ _ => True) (fun _ U o U' => ∃ v L, o = .returned v ∧ Q_rmPSq2 Z o0 o2 vb kb sv ks cs h0 n0 v U'.heap L ∧ FrameEnd U o U' L ({ frames := 2, cells := 0, slots := 0, locals := 33 } : Room).cells ({ frames := 2, cells := 0, slots := 0, locals := 33 } : Room).slots) := by
  refine MetFree.of_bodySF (plainFor_of_name pn_java_lang_AbstractStringBuilder) hisR ?_
  intro p e s m args below meth c s₁ Bd hml0 hP hK
  obtain ⟨rfl, hZ, hh⟩ := hP
  have hx := Bd.exec
  have hby := Bd.bytes
  have hml : c.maxLocals = 3 := hml0
  have hown : s.vm.findClass "java/lang/AbstractStringBuilder" = some m.cls := findClass_of_methodNamed Bd.named
  have hnm := (name_of_methodNamed Bd.named Bd.method).1
  have hlk := Bd.notSynchronized
  have X0 : Stand p l e ({ frames := 2, cells := 0, slots := 0, locals := 33 } : Room) s m #[(.ref o0), (.int 7), (.ref o2)] below meth c s₁ [] 0 0 := Stand.of_body Bd
  have e0 : s₁.heap = h0 := by rw [← hh, Bd.state]; rfl
  have N0 := Fr.nil n0
  show own_G p.tables e below s (Q_rmPSq2 Z o0 o2 vb kb sv ks cs h0 n0) ({ frames := 2, cells := 0, slots := 0, locals := 33 } : Room).cells ({ frames := 2, cells := 0, slots := 0, locals := 33 } : Room).slots _
  refine own_thr (a := s₁.setTop (mkF m 0 #[.val (.ref o0), .val (.int 7), .val (.ref o2)] [])) (fun t kt => castTop (ef_rmPSq2 m o0 o2) kt) ?_
  refine own_thr (a := s₁.setTop (mkF m 2 #[.val (.ref o0), .val (.int 7), .val (.ref o2)] [(.ref o2), (.ref o0)])) (fun t kt => ?_) ?_
  · show Steps p.tables e below (s₁.setTop (mkF m 0 #[.val (.ref o0), .val (.int 7), .val (.ref o2)] [])) _
    refine XS.aloadN X0.here hx rfl (hb hby d10_0) rfl rfl ?_
    refine XS.aloadN X0.here hx rfl (hb hby d10_1) rfl rfl ?_
    exact kt
  obtain ⟨cq1, q1, q1'⟩ := E_o0.cell
  obtain ⟨_, _, ⟨T1, L1, k1, n1⟩, -, X1, ⟨Lc1, hQ1, l1, y1, z1⟩, st1⟩ := X0.privateBack hx (y := (⟨"java/lang/AbstractStringBuilder", "inflateIfNeededFor", "(Ljava/lang/String;)V"⟩ : MethodName)) hown (mvT hZ (hw _ (List.mem_of_getElem? (i := 69) rfl))) (mvT hZ (hw _ (List.mem_of_getElem? (i := 70) rfl))) (own_selp hZ (hw _ (List.mem_of_getElem? (i := 72) rfl)) (hw _ (List.mem_of_getElem? (i := 71) rfl)) (hw _ (List.mem_of_getElem? (i := 70) rfl)) (by decide)) (Cond.privateMethod_at (mvP hZ (hw _ (List.mem_of_getElem? (i := 71) rfl)) (args := #[]))) (mvT hZ (hw _ (List.mem_of_getElem? (i := 73) rfl))) (by decide) (backOf (W := 0) (rmIN l Z a0 hw [] o0 o2 cs h0 n0 Z0 F_coder_o0 E_o2 F_coder_o2 S_COMPACT_STRINGS hcs) hZ (hw _ (List.mem_of_getElem? (i := 73) rfl)) (hw _ (List.mem_of_getElem? (i := 18) rfl)) (by decide) (by decide)) (g := (mkF m 2 #[.val (.ref o0), .val (.int 7), .val (.ref o2)] [(.ref o2), (.ref o0)])) rfl (by rw [hml]; rfl) (Steps.refl _) (a := o0) (by rw [e0]; exact q1) q1' (argsL := [(.ref o2)]) (rest := []) (lenOf pd__28Ljava_2flang_2fString_3b_29V rfl) rfl (by show 2 * 0 + _ ≤ _; exact Nat.le_of_eq rfl) (hb hby d10_2) (fun _ _ => ⟨rfl, e0, (by decide : 0 + 0 ≤ _), (by decide : 0 + 0 ≤ _)⟩)
  dsimp only [Pt.U, Pt.locs, Pt.cells, Pt.slots] at X1 l1 y1 z1 st1 hQ1
  obtain ⟨rfl, N1q, e1⟩ := hQ1
  obtain ⟨lc1, X1, N1⟩ := own_pack X1 l1 y1 z1 N0 N1q (C := 0) (S' := 0) rfl rfl
  refine own_thr (a := T1.setTop (mkF m 5 #[.val (.ref o0), .val (.int 7), .val (.ref o2)] [])) (fun t kt => st1.trans kt) ?_
  refine own_thr (a := T1.setTop (mkF m 7 #[.val (.ref o0), .val (.int 7), .val (.ref o2)] [(.ref o0), (.ref o2)])) (fun t kt => ?_) ?_
  · show Steps p.tables e below (T1.setTop (mkF m 5 #[.val (.ref o0), .val (.int 7), .val (.ref o2)] [])) _
    refine XS.aloadN X1.here hx rfl (hb hby d10_5) rfl rfl ?_
    refine XS.aloadN X1.here hx rfl (hb hby d10_6) rfl rfl ?_
    exact kt
  obtain ⟨T2, X2, e2, st2⟩ := getF X1 hx hZ hown (host := "") (Or.inl (hw _ (List.mem_of_getElem? (i := 26) rfl))) Via.refl e1 F_value_o0 (g := (mkF m 7 #[.val (.ref o0), .val (.int 7), .val (.ref o2)] [(.ref o0), (.ref o2)])) rfl rfl (hb hby d10_7)
  refine own_thr (a := T2.setTop (mkF m 10 #[.val (.ref o0), .val (.int 7), .val (.ref o2)] [(.ref vb), (.ref o2)])) (fun t kt => st2 t kt) ?_
  refine own_thr (a := T2.setTop (mkF m 12 #[.val (.ref o0), .val (.int 7), .val (.ref o2)] [(.ref o0), (.int 7), (.ref vb), (.ref o2)])) (fun t kt => ?_) ?_
  · show Steps p.tables e below (T2.setTop (mkF m 10 #[.val (.ref o0), .val (.int 7), .val (.ref o2)] [(.ref vb), (.ref o2)])) _
    refine XS.iloadN X2.here hx rfl (hb hby d10_10) rfl ?_
    refine XS.aloadN X2.here hx rfl (hb hby d10_11) rfl rfl ?_
    exact kt
  obtain ⟨T3, X3, e3, st3⟩ := getF X2 hx hZ hown (host := "") (Or.inl (hw _ (List.mem_of_getElem? (i := 28) rfl))) Via.refl e2 F_coder_o0 (g := (mkF m 12 #[.val (.ref o0), .val (.int 7), .val (.ref o2)] [(.ref o0), (.int 7), (.ref vb), (.ref o2)])) rfl rfl (hb hby d10_12)
  refine own_thr (a := T3.setTop (mkF m 15 #[.val (.ref o0), .val (.int 7), .val (.ref o2)] [(.int 0), (.int 7), (.ref vb), (.ref o2)])) (fun t kt => st3 t kt) ?_
  obtain ⟨cq4, kq4, q4a, q4b, q4c⟩ := isOf hZ e3 E_o2
  obtain ⟨_, _, ⟨T4, L4, k4, n4⟩, -, X4, ⟨Lc4, hQ4, l4, y4, z4⟩, st4⟩ := X3.virtualBack hx (y := (⟨"java/lang/String", "getBytes", "([BIB)V"⟩ : MethodName)) (z := (⟨"java/lang/String", "getBytes", "([BIB)V"⟩ : MethodName)) hown (mvT hZ (hw _ (List.mem_of_getElem? (i := 75) rfl))) (mvT hZ (hw _ (List.mem_of_getElem? (i := 76) rfl))) (notFace_of_selects (args := #[]) (mvT hZ (hw _ (List.mem_of_getElem? (i := 78) rfl)))) (mvT hZ (hw _ (List.mem_of_getElem? (i := 78) rfl))) (mvT hZ (hw _ (List.mem_of_getElem? (i := 77) rfl))) (by decide) (backOf (W := 0) (rmGBq2 l Z a0 hw [] o2 vb sv ks kb cs h0 n0 Z0 E_o2 F_value_o2 F_coder_o2 V_sv V_vb S_COMPACT_STRINGS g_vb ne_sv_vb ne_o2_vb hcs) hZ (hw _ (List.mem_of_getElem? (i := 79) rfl)) (hw _ (List.mem_of_getElem? (i := 24) rfl)) (by decide) (by decide)) q4a q4c (g := (mkF m 15 #[.val (.ref o0), .val (.int 7), .val (.ref o2)] [(.int 0), (.int 7), (.ref vb), (.ref o2)])) rfl (by rw [hml]; rfl) (Steps.refl _) (argsL := [(.ref vb), (.int 7), (.int 0)]) (rest := []) (lenOf pd__28_5bBIB_29V rfl) rfl (by show 2 * 0 + _ ≤ _; exact Nat.le_of_eq rfl) (hb hby d10_15) (fun _ _ => ⟨rfl, e3, (by decide : 0 + 0 ≤ _), (by decide : 0 + 0 ≤ _)⟩)
  dsimp only [Pt.U, Pt.locs, Pt.cells, Pt.slots] at X4 l4 y4 z4 st4 hQ4
  obtain ⟨rfl, N4q, K4, o4_0⟩ := hQ4
  have Z5 : n0 ≤ T4.heap.size := Nat.le_trans Z0 K4.1
  have Z5h : h0.size ≤ T4.heap.size := Nat.le_trans (Nat.le_refl h0.size) K4.1
  obtain ⟨lc4, X4, N4⟩ := own_pack X4 l4 y4 z4 N1 N4q (C := 0) (S' := 0) rfl rfl
  refine own_thr (a := T4.setTop (mkF m 18 #[.val (.ref o0), .val (.int 7), .val (.ref o2)] [])) (fun t kt => st4.trans kt) ?_
  exact own_end X4 hlk (v := none) (fun _ => rfl) (fun fs hr => X4.returnOut hx Bd.returns (hb hby d10_18) hr) ⟨rfl, N4, ((Keep.refl h0 [vb]).trans K4 (allS (Or.inl (List.mem_of_getElem? (i := 0) rfl)) all0)), o4_0⟩ (by decide : 0 ≤ _) (by decide : 0 ≤ _)
theorem ef_rmAAq2 (m : MethodId) (o0 : Addr) (o1 : Addr)  : entryFrame m #[(.ref o0), (.ref o1)] 3 = mkF m 0 #[.val (.ref o0), .val (.ref o1), .unset] [] := by first |  (simp [entryFrame, mkF, argsToLocals, Value.category]; done) | rfl
def Q_rmAAq2 (Z : State) (o0 : Addr) (o1 : Addr) (vb : Addr) (kb : ClassId) (sv : Addr) (ks : ClassId) (cs : Int32) (h0 : Heap) (n0 : Nat) (v : Option Value) (h : Heap) (L : List Loc) : Prop := v = some (.ref o0) ∧ Fr n0 L ∧ Keep h0 h [o0, vb] ∧ Exa Z h o0 "java/lang/StringBuilder" ∧ Fld Z h o0 "java/lang/AbstractStringBuilder" "value" "[B" (.ref vb) ∧ Fld Z h o0 "java/lang/AbstractStringBuilder" "coder" "B" (.int 0) ∧ Fld Z h o0 "java/lang/AbstractStringBuilder" "count" "I" (.int 8) ∧ Arv Z h vb kb .byte (16 : Int32) [(.int 45), (.int 45), (.int 113), (.int 117), (.int 101), (.int 117), (.int 101), (.int 32), (.int 0), (.int 0), (.int 0), (.int 0), (.int 0), (.int 0), (.int 0), (.int 0)] (.int 0)
set_option maxRecDepth 65536 in
set_option maxHeartbeats 40000000 in
theorem rmAAq2 (l : Launch) (Z : State) (a0 : Array Value) (hw : ∀ d ∈ tables_1, d.before a0 Z = true) (ws : List Jvm.Cond) (o0 : Addr) (o1 : Addr) (vb : Addr) (kb : ClassId) (sv : Addr) (ks : ClassId) (cs : Int32) (h0 : Heap) (n0 : Nat) (Z0 : n0 ≤ h0.size) (E_o0 : Exa Z h0 o0 "java/lang/StringBuilder") (F_value_o0 : Fld Z h0 o0 "java/lang/AbstractStringBuilder" "value" "[B" (.ref vb)) (F_coder_o0 : Fld Z h0 o0 "java/lang/AbstractStringBuilder" "coder" "B" (.int 0)) (F_count_o0 : Fld Z h0 o0 "java/lang/AbstractStringBuilder" "count" "I" (.int 7)) (E_o1 : Exa Z h0 o1 "java/lang/String") (F_value_o1 : Fld Z h0 o1 "java/lang/String" "value" "[B" (.ref sv)) (F_coder_o1 : Fld Z h0 o1 "java/lang/String" "coder" "B" (.int 0)) (V_vb : Arv Z h0 vb kb .byte (16 : Int32) [(.int 45), (.int 45), (.int 113), (.int 117), (.int 101), (.int 117), (.int 101), (.int 0), (.int 0), (.int 0), (.int 0), (.int 0), (.int 0), (.int 0), (.int 0), (.int 0)] (.int 0)) (V_sv : Arv Z h0 sv ks .byte (1 : Int32) [(.int 32)] (.int 0)) (S_COMPACT_STRINGS : Sta Z h0 "java/lang/String" "COMPACT_STRINGS" "Z" (.int cs)) (g_o0 : n0 ≤ o0) (g_vb : n0 ≤ vb) (ne_o0_vb : o0 ≠ vb) (ne_sv_vb : sv ≠ vb) (ne_o1_vb : o1 ≠ vb) (ne_o1_o0 : o1 ≠ o0) (ne_sv_o0 : sv ≠ o0) (hcs : ¬ cs = (0 : Int32)) :
    MetFree l (⟨"java/lang/AbstractStringBuilder", "append", "(Ljava/lang/String;)Ljava/lang/AbstractStringBuilder;"⟩ : MethodName) (head1 (Jvm.Cond.code (⟨"java/lang/AbstractStringBuilder", "append", "(Ljava/lang/String;)Ljava/lang/AbstractStringBuilder;"⟩ : MethodName) jdk_68_method_22_code 3 (some (.object "java/lang/AbstractStringBuilder")) :: ws) ({ frames := 3, cells := 0, slots := 0, locals := 47 } : Room)) (fun a U => a = #[(.ref o0), (.ref o1)] ∧ Z.Warmed39 U.vm ∧ U.heap = h0) (fun _ _ _ _ _ => True) (fun _ U o U' => ∃ v L, o = .returned v ∧ Q_rmAAq2 Z o0 o1 vb kb sv ks cs h0 n0 v U'.heap L ∧ FrameEnd U o U' L ({ frames := 3, cells := 0, slots := 0, locals := 47 } : Room).cells ({ frames := 3, cells := 0, slots := 0, locals := 47 } : Room).slots) := by
  refine MetFree.of_bodySF (plainFor_of_name pn_java_lang_AbstractStringBuilder) hisR ?_
  intro p e s m args below meth c s₁ Bd hml0 hP hK
  obtain ⟨rfl, hZ, hh⟩ := hP
  have hx := Bd.exec
  have hby := Bd.bytes
  have hml : c.maxLocals = 3 := hml0
  have hown : s.vm.findClass "java/lang/AbstractStringBuilder" = some m.cls := findClass_of_methodNamed Bd.named
  have hnm := (name_of_methodNamed Bd.named Bd.method).1
  have hlk := Bd.notSynchronized
  have X0 : Stand p l e ({ frames := 3, cells := 0, slots := 0, locals := 47 } : Room) s m #[(.ref o0), (.ref o1)] below meth c s₁ [] 0 0 := Stand.of_body Bd
  have e0 : s₁.heap = h0 := by rw [← hh, Bd.state]; rfl
  have N0 := Fr.nil n0
  show own_G p.tables e below s (Q_rmAAq2 Z o0 o1 vb kb sv ks cs h0 n0) ({ frames := 3, cells := 0, slots := 0, locals := 47 } : Room).cells ({ frames := 3, cells := 0, slots := 0, locals := 47 } : Room).slots _
  refine own_thr (a := s₁.setTop (mkF m 0 #[.val (.ref o0), .val (.ref o1), .unset] [])) (fun t kt => castTop (ef_rmAAq2 m o0 o1) kt) ?_
  refine own_thr (a := s₁.setTop (mkF m 10 #[.val (.ref o0), .val (.ref o1), .unset] [(.ref o1)])) (fun t kt => ?_) ?_
  · show Steps p.tables e below (s₁.setTop (mkF m 0 #[.val (.ref o0), .val (.ref o1), .unset] [])) _
    refine XS.aloadN X0.here hx rfl (hb hby d6_0) rfl rfl ?_
    refine XS.ifnonnullYes X0.here hx rfl (pc0 := 1) (pc' := 9) rfl (hb hby d6_1) rfl (by decide) (by decide) ?_
    refine XS.aloadN X0.here hx rfl (hb hby d6_9) rfl rfl ?_
    exact kt
  obtain ⟨cq1, kq1, q1a, q1b, q1c⟩ := isOf hZ e0 E_o1
  obtain ⟨_, _, ⟨T1, L1, k1, n1⟩, -, X1, ⟨Lc1, hQ1, l1, y1, z1⟩, st1⟩ := X0.virtualBack hx (y := (⟨"java/lang/String", "length", "()I"⟩ : MethodName)) (z := (⟨"java/lang/String", "length", "()I"⟩ : MethodName)) hown (mvT hZ (hw _ (List.mem_of_getElem? (i := 42) rfl))) (mvT hZ (hw _ (List.mem_of_getElem? (i := 43) rfl))) (notFace_of_selects (args := #[]) (mvT hZ (hw _ (List.mem_of_getElem? (i := 45) rfl)))) (mvT hZ (hw _ (List.mem_of_getElem? (i := 45) rfl))) (mvT hZ (hw _ (List.mem_of_getElem? (i := 44) rfl))) (by decide) (backOf (W := 0) (rmLNq2 l Z a0 hw [] o1 sv ks cs h0 n0 Z0 E_o1 F_value_o1 F_coder_o1 V_sv S_COMPACT_STRINGS hcs) hZ (hw _ (List.mem_of_getElem? (i := 46) rfl)) (hw _ (List.mem_of_getElem? (i := 24) rfl)) (by decide) (by decide)) q1a q1c (g := (mkF m 10 #[.val (.ref o0), .val (.ref o1), .unset] [(.ref o1)])) rfl (by rw [hml]; rfl) (Steps.refl _) (argsL := []) (rest := []) (lenOf pd__28_29I rfl) rfl (by show 2 * 0 + _ ≤ _; exact Nat.le_of_eq rfl) (hb hby d6_10) (fun _ _ => ⟨rfl, e0, (by decide : 0 + 0 ≤ _), (by decide : 0 + 0 ≤ _)⟩)
  dsimp only [Pt.U, Pt.locs, Pt.cells, Pt.slots] at X1 l1 y1 z1 st1 hQ1
  obtain ⟨rfl, N1q, e1⟩ := hQ1
  obtain ⟨lc1, X1, N1⟩ := own_pack X1 l1 y1 z1 N0 N1q (C := 0) (S' := 0) rfl rfl
  refine own_thr (a := T1.setTop (mkF m 13 #[.val (.ref o0), .val (.ref o1), .unset] [(.int 1)])) (fun t kt => st1.trans kt) ?_
  refine own_thr (a := T1.setTop (mkF m 16 #[.val (.ref o0), .val (.ref o1), .val (.int 1)] [(.ref o0), (.ref o0)])) (fun t kt => ?_) ?_
  · show Steps p.tables e below (T1.setTop (mkF m 13 #[.val (.ref o0), .val (.ref o1), .unset] [(.int 1)])) _
    refine XS.istoreN X1.here hx rfl (hb hby d6_13) rfl (l' := #[.val (.ref o0), .val (.ref o1), .val (.int 1)]) rfl ?_
    refine XS.aloadN X1.here hx rfl (hb hby d6_14) rfl rfl ?_
    refine XS.aloadN X1.here hx rfl (hb hby d6_15) rfl rfl ?_
    exact kt
  obtain ⟨T2, X2, e2, st2⟩ := getF X1 hx hZ hown (host := "") (Or.inl (hw _ (List.mem_of_getElem? (i := 57) rfl))) Via.refl e1 F_count_o0 (g := (mkF m 16 #[.val (.ref o0), .val (.ref o1), .val (.int 1)] [(.ref o0), (.ref o0)])) rfl rfl (hb hby d6_16)
  refine own_thr (a := T2.setTop (mkF m 19 #[.val (.ref o0), .val (.ref o1), .val (.int 1)] [(.int 7), (.ref o0)])) (fun t kt => st2 t kt) ?_
  refine own_thr (a := T2.setTop (mkF m 21 #[.val (.ref o0), .val (.ref o1), .val (.int 1)] [(.int 8), (.ref o0)])) (fun t kt => ?_) ?_
  · show Steps p.tables e below (T2.setTop (mkF m 19 #[.val (.ref o0), .val (.ref o1), .val (.int 1)] [(.int 7), (.ref o0)])) _
    refine XS.iloadN X2.here hx rfl (hb hby d6_19) rfl ?_
    refine XS.iadd X2.here hx rfl (hb hby d6_20) rfl ?_
    exact kt
  obtain ⟨cq3, q3, q3'⟩ := E_o0.cell
  obtain ⟨_, _, ⟨T3, L3, k3, n3⟩, -, X3, ⟨Lc3, hQ3, l3, y3, z3⟩, st3⟩ := X2.privateBack hx (y := (⟨"java/lang/AbstractStringBuilder", "ensureCapacityInternal", "(I)V"⟩ : MethodName)) hown (mvT hZ (hw _ (List.mem_of_getElem? (i := 59) rfl))) (mvT hZ (hw _ (List.mem_of_getElem? (i := 60) rfl))) (own_selp hZ (hw _ (List.mem_of_getElem? (i := 62) rfl)) (hw _ (List.mem_of_getElem? (i := 61) rfl)) (hw _ (List.mem_of_getElem? (i := 60) rfl)) (by decide)) (Cond.privateMethod_at (mvP hZ (hw _ (List.mem_of_getElem? (i := 61) rfl)) (args := #[]))) (mvT hZ (hw _ (List.mem_of_getElem? (i := 63) rfl))) (by decide) (backOf (W := 0) (rmENq2 l Z a0 hw [] o0 vb kb h0 n0 Z0 F_value_o0 F_coder_o0 V_vb) hZ (hw _ (List.mem_of_getElem? (i := 63) rfl)) (hw _ (List.mem_of_getElem? (i := 18) rfl)) (by decide) (by decide)) (g := (mkF m 21 #[.val (.ref o0), .val (.ref o1), .val (.int 1)] [(.int 8), (.ref o0)])) rfl (by rw [hml]; rfl) (Steps.refl _) (a := o0) (by rw [e2]; exact q3) q3' (argsL := [(.int 8)]) (rest := []) (lenOf pd__28I_29V rfl) rfl (by show 2 * 0 + _ ≤ _; exact Nat.le_of_eq rfl) (hb hby d6_21) (fun _ _ => ⟨rfl, e2, (by decide : 0 + 0 ≤ _), (by decide : 0 + 0 ≤ _)⟩)
  dsimp only [Pt.U, Pt.locs, Pt.cells, Pt.slots] at X3 l3 y3 z3 st3 hQ3
  obtain ⟨rfl, N3q, e3⟩ := hQ3
  obtain ⟨lc3, X3, N3⟩ := own_pack X3 l3 y3 z3 N1 N3q (C := 0) (S' := 0) rfl rfl
  refine own_thr (a := T3.setTop (mkF m 24 #[.val (.ref o0), .val (.ref o1), .val (.int 1)] [])) (fun t kt => st3.trans kt) ?_
  refine own_thr (a := T3.setTop (mkF m 26 #[.val (.ref o0), .val (.ref o1), .val (.int 1)] [(.ref o0), (.ref o0)])) (fun t kt => ?_) ?_
  · show Steps p.tables e below (T3.setTop (mkF m 24 #[.val (.ref o0), .val (.ref o1), .val (.int 1)] [])) _
    refine XS.aloadN X3.here hx rfl (hb hby d6_24) rfl rfl ?_
    refine XS.aloadN X3.here hx rfl (hb hby d6_25) rfl rfl ?_
    exact kt
  obtain ⟨T4, X4, e4, st4⟩ := getF X3 hx hZ hown (host := "") (Or.inl (hw _ (List.mem_of_getElem? (i := 57) rfl))) Via.refl e3 F_count_o0 (g := (mkF m 26 #[.val (.ref o0), .val (.ref o1), .val (.int 1)] [(.ref o0), (.ref o0)])) rfl rfl (hb hby d6_26)
  refine own_thr (a := T4.setTop (mkF m 29 #[.val (.ref o0), .val (.ref o1), .val (.int 1)] [(.int 7), (.ref o0)])) (fun t kt => st4 t kt) ?_
  refine own_thr (a := T4.setTop (mkF m 30 #[.val (.ref o0), .val (.ref o1), .val (.int 1)] [(.ref o1), (.int 7), (.ref o0)])) (fun t kt => ?_) ?_
  · show Steps p.tables e below (T4.setTop (mkF m 29 #[.val (.ref o0), .val (.ref o1), .val (.int 1)] [(.int 7), (.ref o0)])) _
    refine XS.aloadN X4.here hx rfl (hb hby d6_29) rfl rfl ?_
    exact kt
  obtain ⟨cq5, q5, q5'⟩ := E_o0.cell
  obtain ⟨_, _, ⟨T5, L5, k5, n5⟩, -, X5, ⟨Lc5, hQ5, l5, y5, z5⟩, st5⟩ := X4.privateBack hx (y := (⟨"java/lang/AbstractStringBuilder", "putStringAt", "(ILjava/lang/String;)V"⟩ : MethodName)) hown (mvT hZ (hw _ (List.mem_of_getElem? (i := 64) rfl))) (mvT hZ (hw _ (List.mem_of_getElem? (i := 65) rfl))) (own_selp hZ (hw _ (List.mem_of_getElem? (i := 67) rfl)) (hw _ (List.mem_of_getElem? (i := 66) rfl)) (hw _ (List.mem_of_getElem? (i := 65) rfl)) (by decide)) (Cond.privateMethod_at (mvP hZ (hw _ (List.mem_of_getElem? (i := 66) rfl)) (args := #[]))) (mvT hZ (hw _ (List.mem_of_getElem? (i := 68) rfl))) (by decide) (backOf (W := 0) (rmPSq2 l Z a0 hw [] o0 o1 vb kb sv ks cs h0 n0 Z0 E_o0 F_value_o0 F_coder_o0 F_count_o0 E_o1 F_value_o1 F_coder_o1 V_vb V_sv S_COMPACT_STRINGS g_vb ne_o0_vb ne_sv_vb ne_o1_vb ne_o1_o0 ne_sv_o0 hcs) hZ (hw _ (List.mem_of_getElem? (i := 68) rfl)) (hw _ (List.mem_of_getElem? (i := 18) rfl)) (by decide) (by decide)) (g := (mkF m 30 #[.val (.ref o0), .val (.ref o1), .val (.int 1)] [(.ref o1), (.int 7), (.ref o0)])) rfl (by rw [hml]; rfl) (Steps.refl _) (a := o0) (by rw [e4]; exact q5) q5' (argsL := [(.int 7), (.ref o1)]) (rest := []) (lenOf pd__28ILjava_2flang_2fString_3b_29V rfl) rfl (by show 2 * 0 + _ ≤ _; exact Nat.le_of_eq rfl) (hb hby d6_30) (fun _ _ => ⟨rfl, e4, (by decide : 0 + 0 ≤ _), (by decide : 0 + 0 ≤ _)⟩)
  dsimp only [Pt.U, Pt.locs, Pt.cells, Pt.slots] at X5 l5 y5 z5 st5 hQ5
  obtain ⟨rfl, N5q, K5, o5_0⟩ := hQ5
  have Z6 : n0 ≤ T5.heap.size := Nat.le_trans Z0 K5.1
  have Z6h : h0.size ≤ T5.heap.size := Nat.le_trans (Nat.le_refl h0.size) K5.1
  obtain ⟨lc5, X5, N5⟩ := own_pack X5 l5 y5 z5 N3 N5q (C := 0) (S' := 0) rfl rfl
  refine own_thr (a := T5.setTop (mkF m 33 #[.val (.ref o0), .val (.ref o1), .val (.int 1)] [])) (fun t kt => st5.trans kt) ?_
  refine own_thr (a := T5.setTop (mkF m 35 #[.val (.ref o0), .val (.ref o1), .val (.int 1)] [(.ref o0), (.ref o0)])) (fun t kt => ?_) ?_
  · show Steps p.tables e below (T5.setTop (mkF m 33 #[.val (.ref o0), .val (.ref o1), .val (.int 1)] [])) _
    refine XS.aloadN X5.here hx rfl (hb hby d6_33) rfl rfl ?_
    refine XS.dup X5.here hx rfl (hb hby d6_34) rfl rfl ?_
    exact kt
  obtain ⟨T7, X7, e7, st7⟩ := getF X5 hx hZ hown (host := "") (Or.inl (hw _ (List.mem_of_getElem? (i := 57) rfl))) Via.refl rfl (F_count_o0.keep K5 (ninS ne_o0_vb nin0)) (g := (mkF m 35 #[.val (.ref o0), .val (.ref o1), .val (.int 1)] [(.ref o0), (.ref o0)])) rfl rfl (hb hby d6_35)
  refine own_thr (a := T7.setTop (mkF m 38 #[.val (.ref o0), .val (.ref o1), .val (.int 1)] [(.int 7), (.ref o0)])) (fun t kt => st7 t kt) ?_
  refine own_thr (a := T7.setTop (mkF m 40 #[.val (.ref o0), .val (.ref o1), .val (.int 1)] [(.int 8), (.ref o0)])) (fun t kt => ?_) ?_
  · show Steps p.tables e below (T7.setTop (mkF m 38 #[.val (.ref o0), .val (.ref o1), .val (.int 1)] [(.int 7), (.ref o0)])) _
    refine XS.iloadN X7.here hx rfl (hb hby d6_38) rfl ?_
    refine XS.iadd X7.here hx rfl (hb hby d6_39) rfl ?_
    exact kt
  obtain ⟨T8, h8, X8, e8, W8, st8⟩ := putF X7 hx hZ hown (host := "") (Or.inl (hw _ (List.mem_of_getElem? (i := 57) rfl))) Via.refl e7 (F_count_o0.keep K5 (ninS ne_o0_vb nin0)) (E_o0.keep K5) (Or.inl (hw _ (List.mem_of_getElem? (i := 58) rfl))) (hw _ (List.mem_of_getElem? (i := 9) rfl)) (ty := .int) (by decide) rfl rfl (g := (mkF m 40 #[.val (.ref o0), .val (.ref o1), .val (.int 1)] [(.int 8), (.ref o0)])) rfl rfl (hb hby d6_40)
  have Fw8 := (F_count_o0.keep K5 (ninS ne_o0_vb nin0)).same W8
  have Z9 : n0 ≤ h8.size := Nat.le_trans Z6 (Nat.le_of_eq W8.size.symm)
  have Z9h : h0.size ≤ h8.size := Nat.le_trans Z6h (Nat.le_of_eq W8.size.symm)
  obtain ⟨lc8, X8, N8⟩ := own_pack1 X8 N5 g_o0
  refine own_thr (a := T8.setTop (mkF m 43 #[.val (.ref o0), .val (.ref o1), .val (.int 1)] [])) (fun t kt => st8 t kt) ?_
  refine own_thr (a := T8.setTop (mkF m 44 #[.val (.ref o0), .val (.ref o1), .val (.int 1)] [(.ref o0)])) (fun t kt => ?_) ?_
  · show Steps p.tables e below (T8.setTop (mkF m 43 #[.val (.ref o0), .val (.ref o1), .val (.int 1)] [])) _
    refine XS.aloadN X8.here hx rfl (hb hby d6_43) rfl rfl ?_
    exact kt
  have c10 := ((F_value_o0.keep K5 (ninS ne_o0_vb nin0)).other W8 (Or.inr (slot_ne (Or.inl (hw _ (List.mem_of_getElem? (i := 27) rfl))) (Or.inl (hw _ (List.mem_of_getElem? (i := 58) rfl))) (by decide) (t := (.array .byte)) (t' := .int) (by decide) (by decide))))
  have c11 := ((F_coder_o0.keep K5 (ninS ne_o0_vb nin0)).other W8 (Or.inr (slot_ne (Or.inl (hw _ (List.mem_of_getElem? (i := 29) rfl))) (Or.inl (hw _ (List.mem_of_getElem? (i := 58) rfl))) (by decide) (t := .byte) (t' := .int) (by decide) (by decide))))
  exact own_end X8 hlk (v := some (.ref o0)) (fun h => by rw [Bd.returns] at h; cases h) (fun fs hr => retA X8 hx Bd.returns rfl rfl (hb hby d6_44) hr) (by rw [e8]; exact ⟨rfl, N8, (((Keep.refl h0 [o0, vb]).trans K5 (allS (Or.inl (List.mem_of_getElem? (i := 1) rfl)) all0)).wr W8 (Or.inl (List.mem_of_getElem? (i := 0) rfl))), ((E_o0.keep K5).wr W8), c10, c11, Fw8, (o5_0.other W8 (Ne.symm ne_o0_vb))⟩) (by decide : 0 ≤ _) (by decide : 0 ≤ _)
theorem ef_rmSAq2 (m : MethodId) (o0 : Addr) (o1 : Addr)  : entryFrame m #[(.ref o0), (.ref o1)] 2 = mkF m 0 #[.val (.ref o0), .val (.ref o1)] [] := by first |  (simp [entryFrame, mkF, argsToLocals, Value.category]; done) | rfl
def Q_rmSAq2 (Z : State) (o0 : Addr) (o1 : Addr) (vb : Addr) (kb : ClassId) (sv : Addr) (ks : ClassId) (cs : Int32) (h0 : Heap) (n0 : Nat) (v : Option Value) (h : Heap) (L : List Loc) : Prop := v = some (.ref o0) ∧ Fr n0 L ∧ Keep h0 h [o0, vb] ∧ Exa Z h o0 "java/lang/StringBuilder" ∧ Fld Z h o0 "java/lang/AbstractStringBuilder" "value" "[B" (.ref vb) ∧ Fld Z h o0 "java/lang/AbstractStringBuilder" "coder" "B" (.int 0) ∧ Fld Z h o0 "java/lang/AbstractStringBuilder" "count" "I" (.int 8) ∧ Arv Z h vb kb .byte (16 : Int32) [(.int 45), (.int 45), (.int 113), (.int 117), (.int 101), (.int 117), (.int 101), (.int 32), (.int 0), (.int 0), (.int 0), (.int 0), (.int 0), (.int 0), (.int 0), (.int 0)] (.int 0)
set_option maxRecDepth 65536 in
set_option maxHeartbeats 40000000 in
theorem rmSAq2 (l : Launch) (Z : State) (a0 : Array Value) (hw : ∀ d ∈ tables_1, d.before a0 Z = true) (ws : List Jvm.Cond) (o0 : Addr) (o1 : Addr) (vb : Addr) (kb : ClassId) (sv : Addr) (ks : ClassId) (cs : Int32) (h0 : Heap) (n0 : Nat) (Z0 : n0 ≤ h0.size) (E_o0 : Exa Z h0 o0 "java/lang/StringBuilder") (F_value_o0 : Fld Z h0 o0 "java/lang/AbstractStringBuilder" "value" "[B" (.ref vb)) (F_coder_o0 : Fld Z h0 o0 "java/lang/AbstractStringBuilder" "coder" "B" (.int 0)) (F_count_o0 : Fld Z h0 o0 "java/lang/AbstractStringBuilder" "count" "I" (.int 7)) (E_o1 : Exa Z h0 o1 "java/lang/String") (F_value_o1 : Fld Z h0 o1 "java/lang/String" "value" "[B" (.ref sv)) (F_coder_o1 : Fld Z h0 o1 "java/lang/String" "coder" "B" (.int 0)) (V_vb : Arv Z h0 vb kb .byte (16 : Int32) [(.int 45), (.int 45), (.int 113), (.int 117), (.int 101), (.int 117), (.int 101), (.int 0), (.int 0), (.int 0), (.int 0), (.int 0), (.int 0), (.int 0), (.int 0), (.int 0)] (.int 0)) (V_sv : Arv Z h0 sv ks .byte (1 : Int32) [(.int 32)] (.int 0)) (S_COMPACT_STRINGS : Sta Z h0 "java/lang/String" "COMPACT_STRINGS" "Z" (.int cs)) (g_o0 : n0 ≤ o0) (g_vb : n0 ≤ vb) (ne_o0_vb : o0 ≠ vb) (ne_sv_vb : sv ≠ vb) (ne_o1_vb : o1 ≠ vb) (ne_o1_o0 : o1 ≠ o0) (ne_sv_o0 : sv ≠ o0) (hcs : ¬ cs = (0 : Int32)) :
    MetFree l (⟨"java/lang/StringBuilder", "append", "(Ljava/lang/String;)Ljava/lang/StringBuilder;"⟩ : MethodName) (head1 (Jvm.Cond.code (⟨"java/lang/StringBuilder", "append", "(Ljava/lang/String;)Ljava/lang/StringBuilder;"⟩ : MethodName) jdk_67_method_7_code 2 (some (.object "java/lang/StringBuilder")) :: ws) ({ frames := 4, cells := 0, slots := 0, locals := 61 } : Room)) (fun a U => a = #[(.ref o0), (.ref o1)] ∧ Z.Warmed39 U.vm ∧ U.heap = h0) (fun _ _ _ _ _ => True) (fun _ U o U' => ∃ v L, o = .returned v ∧ Q_rmSAq2 Z o0 o1 vb kb sv ks cs h0 n0 v U'.heap L ∧ FrameEnd U o U' L ({ frames := 4, cells := 0, slots := 0, locals := 61 } : Room).cells ({ frames := 4, cells := 0, slots := 0, locals := 61 } : Room).slots) := by
  refine MetFree.of_bodySF (plainFor_of_name pn_java_lang_StringBuilder) hisR ?_
  intro p e s m args below meth c s₁ Bd hml0 hP hK
  obtain ⟨rfl, hZ, hh⟩ := hP
  have hx := Bd.exec
  have hby := Bd.bytes
  have hml : c.maxLocals = 2 := hml0
  have hown : s.vm.findClass "java/lang/StringBuilder" = some m.cls := findClass_of_methodNamed Bd.named
  have hnm := (name_of_methodNamed Bd.named Bd.method).1
  have hlk := Bd.notSynchronized
  have X0 : Stand p l e ({ frames := 4, cells := 0, slots := 0, locals := 61 } : Room) s m #[(.ref o0), (.ref o1)] below meth c s₁ [] 0 0 := Stand.of_body Bd
  have e0 : s₁.heap = h0 := by rw [← hh, Bd.state]; rfl
  have N0 := Fr.nil n0
  show own_G p.tables e below s (Q_rmSAq2 Z o0 o1 vb kb sv ks cs h0 n0) ({ frames := 4, cells := 0, slots := 0, locals := 61 } : Room).cells ({ frames := 4, cells := 0, slots := 0, locals := 61 } : Room).slots _
  refine own_thr (a := s₁.setTop (mkF m 0 #[.val (.ref o0), .val (.ref o1)] [])) (fun t kt => castTop (ef_rmSAq2 m o0 o1) kt) ?_
  refine own_thr (a := s₁.setTop (mkF m 2 #[.val (.ref o0), .val (.ref o1)] [(.ref o1), (.ref o0)])) (fun t kt => ?_) ?_
  · show Steps p.tables e below (s₁.setTop (mkF m 0 #[.val (.ref o0), .val (.ref o1)] [])) _
    refine XS.aloadN X0.here hx rfl (hb hby d5_0) rfl rfl ?_
    refine XS.aloadN X0.here hx rfl (hb hby d5_1) rfl rfl ?_
    exact kt
  obtain ⟨_, _, ⟨T1, L1, k1, n1⟩, -, X1, ⟨Lc1, hQ1, l1, y1, z1⟩, st1⟩ := superBack X0 hx hZ (y := (⟨"java/lang/AbstractStringBuilder", "append", "(Ljava/lang/String;)Ljava/lang/AbstractStringBuilder;"⟩ : MethodName)) hown (hw _ (List.mem_of_getElem? (i := 37) rfl)) (own_same (y := (⟨"java/lang/AbstractStringBuilder", "append", "(Ljava/lang/String;)Ljava/lang/AbstractStringBuilder;"⟩ : MethodName)) (hw _ (List.mem_of_getElem? (i := 62) rfl)) rfl (hw _ (List.mem_of_getElem? (i := 38) rfl)) (by decide)) (hw _ (List.mem_of_getElem? (i := 38) rfl)) (hw _ (List.mem_of_getElem? (i := 39) rfl)) (by decide) (backOf (W := 0) (rmAAq2 l Z a0 hw [] o0 o1 vb kb sv ks cs h0 n0 Z0 E_o0 F_value_o0 F_coder_o0 F_count_o0 E_o1 F_value_o1 F_coder_o1 V_vb V_sv S_COMPACT_STRINGS g_o0 g_vb ne_o0_vb ne_sv_vb ne_o1_vb ne_o1_o0 ne_sv_o0 hcs) hZ (hw _ (List.mem_of_getElem? (i := 41) rfl)) (hw _ (List.mem_of_getElem? (i := 18) rfl)) (by decide) (by decide)) e0 (Ins.self E_o0) (g := (mkF m 2 #[.val (.ref o0), .val (.ref o1)] [(.ref o1), (.ref o0)])) rfl (by rw [hml]; rfl) (hw _ (List.mem_of_getElem? (i := 41) rfl)) (argsL := [(.ref o1)]) (rest := []) (lenOf pd__28Ljava_2flang_2fString_3b_29Ljava_2flang_2fAbstractStringBuilder_3b rfl) rfl (by show 2 * 0 + _ ≤ _; exact Nat.le_of_eq rfl) (hb hby d5_2) (fun _ _ => ⟨rfl, e0, (by decide : 0 + 0 ≤ _), (by decide : 0 + 0 ≤ _)⟩)
  dsimp only [Pt.U, Pt.locs, Pt.cells, Pt.slots] at X1 l1 y1 z1 st1 hQ1
  obtain ⟨rfl, N1q, K1, o1_0, o1_1, o1_2, o1_3, o1_4⟩ := hQ1
  have Z2 : n0 ≤ T1.heap.size := Nat.le_trans Z0 K1.1
  have Z2h : h0.size ≤ T1.heap.size := Nat.le_trans (Nat.le_refl h0.size) K1.1
  obtain ⟨lc1, X1, N1⟩ := own_pack X1 l1 y1 z1 N0 N1q (C := 0) (S' := 0) rfl rfl
  refine own_thr (a := T1.setTop (mkF m 5 #[.val (.ref o0), .val (.ref o1)] [(.ref o0)])) (fun t kt => st1.trans kt) ?_
  refine own_thr (a := T1.setTop (mkF m 7 #[.val (.ref o0), .val (.ref o1)] [(.ref o0)])) (fun t kt => ?_) ?_
  · show Steps p.tables e below (T1.setTop (mkF m 5 #[.val (.ref o0), .val (.ref o1)] [(.ref o0)])) _
    refine XS.pop X1.here hx rfl (hb hby d5_5) rfl rfl ?_
    refine XS.aloadN X1.here hx rfl (hb hby d5_6) rfl rfl ?_
    exact kt
  exact own_end X1 hlk (v := some (.ref o0)) (fun h => by rw [Bd.returns] at h; cases h) (fun fs hr => retA X1 hx Bd.returns rfl rfl (hb hby d5_7) hr) ⟨rfl, N1, ((Keep.refl h0 [o0, vb]).trans K1 (allS (Or.inl (List.mem_of_getElem? (i := 0) rfl)) (allS (Or.inl (List.mem_of_getElem? (i := 1) rfl)) all0))), o1_0, o1_1, o1_2, o1_3, o1_4⟩ (by decide : 0 ≤ _) (by decide : 0 ≤ _)
theorem ef_rmLNq3 (m : MethodId) (o0 : Addr)  : entryFrame m #[(.ref o0)] 1 = mkF m 0 #[.val (.ref o0)] [] := by first |  (simp [entryFrame, mkF, argsToLocals, Value.category]; done) | rfl
def Q_rmLNq3 (Z : State) (o0 : Addr) (sv : Addr) (ks : ClassId) (cs : Int32) (h0 : Heap) (n0 : Nat) (v : Option Value) (h : Heap) (L : List Loc) : Prop := v = some (.int 6) ∧ Fr n0 L ∧ h = h0
set_option maxRecDepth 65536 in
set_option maxHeartbeats 40000000 in
theorem rmLNq3 (l : Launch) (Z : State) (a0 : Array Value) (hw : ∀ d ∈ tables_1, d.before a0 Z = true) (ws : List Jvm.Cond) (o0 : Addr) (sv : Addr) (ks : ClassId) (cs : Int32) (h0 : Heap) (n0 : Nat) (Z0 : n0 ≤ h0.size) (E_o0 : Exa Z h0 o0 "java/lang/String") (F_value_o0 : Fld Z h0 o0 "java/lang/String" "value" "[B" (.ref sv)) (F_coder_o0 : Fld Z h0 o0 "java/lang/String" "coder" "B" (.int 0)) (V_sv : Arv Z h0 sv ks .byte (6 : Int32) [(.int 60), (.int 110), (.int 97), (.int 109), (.int 101), (.int 62)] (.int 0)) (S_COMPACT_STRINGS : Sta Z h0 "java/lang/String" "COMPACT_STRINGS" "Z" (.int cs)) (hcs : ¬ cs = (0 : Int32)) :
    MetFree l (⟨"java/lang/String", "length", "()I"⟩ : MethodName) (head1 (Jvm.Cond.code (⟨"java/lang/String", "length", "()I"⟩ : MethodName) jdk_42_method_54_code 1 (some .int) :: ws) ({ frames := 1, cells := 0, slots := 0, locals := 13 } : Room)) (fun a U => a = #[(.ref o0)] ∧ Z.Warmed39 U.vm ∧ U.heap = h0) (fun _ _ _ _ _ => True) (fun _ U o U' => ∃ v L, o = .returned v ∧ Q_rmLNq3 Z o0 sv ks cs h0 n0 v U'.heap L ∧ FrameEnd U o U' L ({ frames := 1, cells := 0, slots := 0, locals := 13 } : Room).cells ({ frames := 1, cells := 0, slots := 0, locals := 13 } : Room).slots) := by
  refine MetFree.of_bodySF (plainFor_of_name pn_java_lang_String) hisR ?_
  intro p e s m args below meth c s₁ Bd hml0 hP hK
  obtain ⟨rfl, hZ, hh⟩ := hP
  have hx := Bd.exec
  have hby := Bd.bytes
  have hml : c.maxLocals = 1 := hml0
  have hown : s.vm.findClass "java/lang/String" = some m.cls := findClass_of_methodNamed Bd.named
  have hnm := (name_of_methodNamed Bd.named Bd.method).1
  have hlk := Bd.notSynchronized
  have X0 : Stand p l e ({ frames := 1, cells := 0, slots := 0, locals := 13 } : Room) s m #[(.ref o0)] below meth c s₁ [] 0 0 := Stand.of_body Bd
  have e0 : s₁.heap = h0 := by rw [← hh, Bd.state]; rfl
  have N0 := Fr.nil n0
  show own_G p.tables e below s (Q_rmLNq3 Z o0 sv ks cs h0 n0) ({ frames := 1, cells := 0, slots := 0, locals := 13 } : Room).cells ({ frames := 1, cells := 0, slots := 0, locals := 13 } : Room).slots _
  refine own_thr (a := s₁.setTop (mkF m 0 #[.val (.ref o0)] [])) (fun t kt => castTop (ef_rmLNq3 m o0) kt) ?_
  refine own_thr (a := s₁.setTop (mkF m 1 #[.val (.ref o0)] [(.ref o0)])) (fun t kt => ?_) ?_
  · show Steps p.tables e below (s₁.setTop (mkF m 0 #[.val (.ref o0)] [])) _
    refine XS.aloadN X0.here hx rfl (hb hby d7_0) rfl rfl ?_
    exact kt
  obtain ⟨T1, X1, e1, st1⟩ := getF X0 hx hZ hown (host := "") (Or.inl (hw _ (List.mem_of_getElem? (i := 47) rfl))) Via.refl e0 F_value_o0 (g := (mkF m 1 #[.val (.ref o0)] [(.ref o0)])) rfl rfl (hb hby d7_1)
  refine own_thr (a := T1.setTop (mkF m 4 #[.val (.ref o0)] [(.ref sv)])) (fun t kt => st1 t kt) ?_
  obtain ⟨cl2, Ar2, -, S2, M2, -, -⟩ := id V_sv
  refine own_thr (a := T1.setTop (mkF m 6 #[.val (.ref o0)] [(.ref o0), (.int 6)])) (fun t kt => ?_) ?_
  · show Steps p.tables e below (T1.setTop (mkF m 4 #[.val (.ref o0)] [(.ref sv)])) _
    refine X1.arraylength hx (by rw [e1]; exact Ar2.1) (State.isArrayOf_alike hZ.alike Ar2.2.1) (g := (mkF m 4 #[.val (.ref o0)] [(.ref sv)])) rfl rfl (hb hby d7_4) _ ?_
    rw [len_of S2 M2]
    refine XS.aloadN X1.here hx rfl (hb hby d7_5) rfl rfl ?_
    exact kt
  obtain ⟨cq3, kq3, q3a, q3b, q3c⟩ := isOf hZ e1 E_o0
  obtain ⟨_, _, ⟨T3, L3, k3, n3⟩, -, X3, ⟨Lc3, hQ3, l3, y3, z3⟩, st3⟩ := X1.virtualBack hx (y := (⟨"java/lang/String", "coder", "()B"⟩ : MethodName)) (z := (⟨"java/lang/String", "coder", "()B"⟩ : MethodName)) hown (mvT hZ (hw _ (List.mem_of_getElem? (i := 49) rfl))) (mvT hZ (hw _ (List.mem_of_getElem? (i := 50) rfl))) (notFace_of_selects (args := #[]) (mvT hZ (hw _ (List.mem_of_getElem? (i := 52) rfl)))) (mvT hZ (hw _ (List.mem_of_getElem? (i := 52) rfl))) (mvT hZ (hw _ (List.mem_of_getElem? (i := 51) rfl))) (by decide) (backOf (W := 1) (rmCO l Z a0 hw [] o0 cs h0 n0 Z0 F_coder_o0 S_COMPACT_STRINGS hcs) hZ (hw _ (List.mem_of_getElem? (i := 53) rfl)) (hw _ (List.mem_of_getElem? (i := 24) rfl)) (by decide) (by decide)) q3a q3c (g := (mkF m 6 #[.val (.ref o0)] [(.ref o0), (.int 6)])) rfl (by rw [hml]; rfl) (Steps.refl _) (argsL := []) (rest := [(.int 6)]) (lenOf pd__28_29B rfl) rfl (by show 2 * 0 + _ ≤ _; exact Nat.le_of_eq rfl) (hb hby d7_6) (fun _ _ => ⟨rfl, e1, (by decide : 0 + 0 ≤ _), (by decide : 0 + 0 ≤ _)⟩)
  dsimp only [Pt.U, Pt.locs, Pt.cells, Pt.slots] at X3 l3 y3 z3 st3 hQ3
  obtain ⟨rfl, N3q, e3⟩ := hQ3
  obtain ⟨lc3, X3, N3⟩ := own_pack X3 l3 y3 z3 N0 N3q (C := 0) (S' := 0) rfl rfl
  refine own_thr (a := T3.setTop (mkF m 9 #[.val (.ref o0)] [(.int 0), (.int 6)])) (fun t kt => st3.trans kt) ?_
  refine own_thr (a := T3.setTop (mkF m 10 #[.val (.ref o0)] [(.int 6)])) (fun t kt => ?_) ?_
  · show Steps p.tables e below (T3.setTop (mkF m 9 #[.val (.ref o0)] [(.int 0), (.int 6)])) _
    refine XS.ishr X3.here hx rfl (hb hby d7_9) rfl ?_
    exact kt
  exact own_end X3 hlk (v := some (.int 6)) (fun h => by rw [Bd.returns] at h; cases h) (fun fs hr => retI X3 hx Bd.returns (hb hby d7_10) hr) (by rw [e3]; exact ⟨rfl, N3, rfl⟩) (by decide : 0 ≤ _) (by decide : 0 ≤ _)
theorem ef_rmENq3 (m : MethodId) (o0 : Addr)  : entryFrame m #[(.ref o0), (.int 14)] 3 = mkF m 0 #[.val (.ref o0), .val (.int 14), .unset] [] := by first |  (simp [entryFrame, mkF, argsToLocals, Value.category]; done) | rfl
def Q_rmENq3 (Z : State) (o0 : Addr) (vb : Addr) (kb : ClassId) (h0 : Heap) (n0 : Nat) (v : Option Value) (h : Heap) (L : List Loc) : Prop := v = none ∧ Fr n0 L ∧ h = h0
set_option maxRecDepth 65536 in
set_option maxHeartbeats 40000000 in
theorem rmENq3 (l : Launch) (Z : State) (a0 : Array Value) (hw : ∀ d ∈ tables_1, d.before a0 Z = true) (ws : List Jvm.Cond) (o0 : Addr) (vb : Addr) (kb : ClassId) (h0 : Heap) (n0 : Nat) (Z0 : n0 ≤ h0.size) (F_value_o0 : Fld Z h0 o0 "java/lang/AbstractStringBuilder" "value" "[B" (.ref vb)) (F_coder_o0 : Fld Z h0 o0 "java/lang/AbstractStringBuilder" "coder" "B" (.int 0)) (V_vb : Arv Z h0 vb kb .byte (16 : Int32) [(.int 45), (.int 45), (.int 113), (.int 117), (.int 101), (.int 117), (.int 101), (.int 32), (.int 0), (.int 0), (.int 0), (.int 0), (.int 0), (.int 0), (.int 0), (.int 0)] (.int 0)) :
    MetFree l (⟨"java/lang/AbstractStringBuilder", "ensureCapacityInternal", "(I)V"⟩ : MethodName) (head1 (Jvm.Cond.code (⟨"java/lang/AbstractStringBuilder", "ensureCapacityInternal", "(I)V"⟩ : MethodName) jdk_68_method_9_code 3 none :: ws) ({ frames := 0, cells := 0, slots := 0, locals := 0 } : Room)) (fun a U => a = #[(.ref o0), (.int 14)] ∧ Z.Warmed39 U.vm ∧ U.heap = h0) (fun _ _ _ _ _ => True) (fun _ U o U' => ∃ v L, o = .returned v ∧ Q_rmENq3 Z o0 vb kb h0 n0 v U'.heap L ∧ FrameEnd U o U' L ({ frames := 0, cells := 0, slots := 0, locals := 0 } : Room).cells ({ frames := 0, cells := 0, slots := 0, locals := 0 } : Room).slots) := by
  refine MetFree.of_bodySF (plainFor_of_name pn_java_lang_AbstractStringBuilder) hisR ?_
  intro p e s m args below meth c s₁ Bd hml0 hP hK
  obtain ⟨rfl, hZ, hh⟩ := hP
  have hx := Bd.exec
  have hby := Bd.bytes
  have hml : c.maxLocals = 3 := hml0
  have hown : s.vm.findClass "java/lang/AbstractStringBuilder" = some m.cls := findClass_of_methodNamed Bd.named
  have hnm := (name_of_methodNamed Bd.named Bd.method).1
  have hlk := Bd.notSynchronized
  have X0 : Stand p l e ({ frames := 0, cells := 0, slots := 0, locals := 0 } : Room) s m #[(.ref o0), (.int 14)] below meth c s₁ [] 0 0 := Stand.of_body Bd
  have e0 : s₁.heap = h0 := by rw [← hh, Bd.state]; rfl
  have N0 := Fr.nil n0
  show own_G p.tables e below s (Q_rmENq3 Z o0 vb kb h0 n0) ({ frames := 0, cells := 0, slots := 0, locals := 0 } : Room).cells ({ frames := 0, cells := 0, slots := 0, locals := 0 } : Room).slots _
  refine own_thr (a := s₁.setTop (mkF m 0 #[.val (.ref o0), .val (.int 14), .unset] [])) (fun t kt => castTop (ef_rmENq3 m o0) kt) ?_
  refine own_thr (a := s₁.setTop (mkF m 1 #[.val (.ref o0), .val (.int 14), .unset] [(.ref o0)])) (fun t kt => ?_) ?_
  · show Steps p.tables e below (s₁.setTop (mkF m 0 #[.val (.ref o0), .val (.int 14), .unset] [])) _
    refine XS.aloadN X0.here hx rfl (hb hby d9_0) rfl rfl ?_
    exact kt
  obtain ⟨T1, X1, e1, st1⟩ := getF X0 hx hZ hown (host := "") (Or.inl (hw _ (List.mem_of_getElem? (i := 26) rfl))) Via.refl e0 F_value_o0 (g := (mkF m 1 #[.val (.ref o0), .val (.int 14), .unset] [(.ref o0)])) rfl rfl (hb hby d9_1)
  refine own_thr (a := T1.setTop (mkF m 4 #[.val (.ref o0), .val (.int 14), .unset] [(.ref vb)])) (fun t kt => st1 t kt) ?_
  obtain ⟨cl2, Ar2, -, S2, M2, -, -⟩ := id V_vb
  refine own_thr (a := T1.setTop (mkF m 6 #[.val (.ref o0), .val (.int 14), .unset] [(.ref o0), (.int 16)])) (fun t kt => ?_) ?_
  · show Steps p.tables e below (T1.setTop (mkF m 4 #[.val (.ref o0), .val (.int 14), .unset] [(.ref vb)])) _
    refine X1.arraylength hx (by rw [e1]; exact Ar2.1) (State.isArrayOf_alike hZ.alike Ar2.2.1) (g := (mkF m 4 #[.val (.ref o0), .val (.int 14), .unset] [(.ref vb)])) rfl rfl (hb hby d9_4) _ ?_
    rw [len_of S2 M2]
    refine XS.aloadN X1.here hx rfl (hb hby d9_5) rfl rfl ?_
    exact kt
  obtain ⟨T3, X3, e3, st3⟩ := getF X1 hx hZ hown (host := "") (Or.inl (hw _ (List.mem_of_getElem? (i := 28) rfl))) Via.refl e1 F_coder_o0 (g := (mkF m 6 #[.val (.ref o0), .val (.int 14), .unset] [(.ref o0), (.int 16)])) rfl rfl (hb hby d9_6)
  refine own_thr (a := T3.setTop (mkF m 9 #[.val (.ref o0), .val (.int 14), .unset] [(.int 0), (.int 16)])) (fun t kt => st3 t kt) ?_
  refine own_thr (a := T3.setTop (mkF m 38 #[.val (.ref o0), .val (.int 14), .val (.int 16)] [])) (fun t kt => ?_) ?_
  · show Steps p.tables e below (T3.setTop (mkF m 9 #[.val (.ref o0), .val (.int 14), .unset] [(.int 0), (.int 16)])) _
    refine XS.ishr X3.here hx rfl (hb hby d9_9) rfl ?_
    refine XS.istoreN X3.here hx rfl (hb hby d9_10) rfl (l' := #[.val (.ref o0), .val (.int 14), .val (.int 16)]) rfl ?_
    refine XS.iloadN X3.here hx rfl (hb hby d9_11) rfl ?_
    refine XS.iloadN X3.here hx rfl (hb hby d9_12) rfl ?_
    refine XS.isub X3.here hx rfl (hb hby d9_13) rfl ?_
    refine XS.ifYes X3.here hx rfl (pc0 := 14) (pc' := 38) rfl (hb hby d9_14) rfl ((if0 _ _).trans (flt (by decide)).2.2.2) (by decide) (by decide) ?_
    exact kt
  exact own_end X3 hlk (v := none) (fun _ => rfl) (fun fs hr => X3.returnOut hx Bd.returns (hb hby d9_38) hr) (by rw [e3]; exact ⟨rfl, N0, rfl⟩) (by decide : 0 ≤ _) (by decide : 0 ≤ _)
theorem ef_rmGBq3 (m : MethodId) (o0 : Addr) (vb : Addr)  : entryFrame m #[(.ref o0), (.ref vb), (.int 8), (.int 0)] 4 = mkF m 0 #[.val (.ref o0), .val (.ref vb), .val (.int 8), .val (.int 0)] [] := by first |  (simp [entryFrame, mkF, argsToLocals, Value.category]; done) | rfl
def Q_rmGBq3 (Z : State) (o0 : Addr) (vb : Addr) (sv : Addr) (ks : ClassId) (kb : ClassId) (cs : Int32) (h0 : Heap) (n0 : Nat) (v : Option Value) (h : Heap) (L : List Loc) : Prop := v = none ∧ Fr n0 L ∧ Keep h0 h [vb] ∧ Arv Z h vb kb .byte (16 : Int32) [(.int 45), (.int 45), (.int 113), (.int 117), (.int 101), (.int 117), (.int 101), (.int 32), (.int 60), (.int 110), (.int 97), (.int 109), (.int 101), (.int 62), (.int 0), (.int 0)] (.int 0)
set_option maxRecDepth 65536 in
set_option maxHeartbeats 40000000 in
theorem rmGBq3 (l : Launch) (Z : State) (a0 : Array Value) (hw : ∀ d ∈ tables_1, d.before a0 Z = true) (ws : List Jvm.Cond) (o0 : Addr) (vb : Addr) (sv : Addr) (ks : ClassId) (kb : ClassId) (cs : Int32) (h0 : Heap) (n0 : Nat) (Z0 : n0 ≤ h0.size) (E_o0 : Exa Z h0 o0 "java/lang/String") (F_value_o0 : Fld Z h0 o0 "java/lang/String" "value" "[B" (.ref sv)) (F_coder_o0 : Fld Z h0 o0 "java/lang/String" "coder" "B" (.int 0)) (V_sv : Arv Z h0 sv ks .byte (6 : Int32) [(.int 60), (.int 110), (.int 97), (.int 109), (.int 101), (.int 62)] (.int 0)) (V_vb : Arv Z h0 vb kb .byte (16 : Int32) [(.int 45), (.int 45), (.int 113), (.int 117), (.int 101), (.int 117), (.int 101), (.int 32), (.int 0), (.int 0), (.int 0), (.int 0), (.int 0), (.int 0), (.int 0), (.int 0)] (.int 0)) (S_COMPACT_STRINGS : Sta Z h0 "java/lang/String" "COMPACT_STRINGS" "Z" (.int cs)) (g_vb : n0 ≤ vb) (ne_sv_vb : sv ≠ vb) (ne_o0_vb : o0 ≠ vb) (hcs : ¬ cs = (0 : Int32)) :
    MetFree l (⟨"java/lang/String", "getBytes", "([BIB)V"⟩ : MethodName) (head1 (Jvm.Cond.code (⟨"java/lang/String", "getBytes", "([BIB)V"⟩ : MethodName) jdk_42_method_147_code 4 none :: ws) ({ frames := 1, cells := 0, slots := 0, locals := 18 } : Room)) (fun a U => a = #[(.ref o0), (.ref vb), (.int 8), (.int 0)] ∧ Z.Warmed39 U.vm ∧ U.heap = h0) (fun _ _ _ _ _ => True) (fun _ U o U' => ∃ v L, o = .returned v ∧ Q_rmGBq3 Z o0 vb sv ks kb cs h0 n0 v U'.heap L ∧ FrameEnd U o U' L ({ frames := 1, cells := 0, slots := 0, locals := 18 } : Room).cells ({ frames := 1, cells := 0, slots := 0, locals := 18 } : Room).slots) := by
  refine MetFree.of_bodySF (plainFor_of_name pn_java_lang_String) hisR ?_
  intro p e s m args below meth c s₁ Bd hml0 hP hK
  obtain ⟨rfl, hZ, hh⟩ := hP
  have hx := Bd.exec
  have hby := Bd.bytes
  have hml : c.maxLocals = 4 := hml0
  have hown : s.vm.findClass "java/lang/String" = some m.cls := findClass_of_methodNamed Bd.named
  have hnm := (name_of_methodNamed Bd.named Bd.method).1
  have hlk := Bd.notSynchronized
  have X0 : Stand p l e ({ frames := 1, cells := 0, slots := 0, locals := 18 } : Room) s m #[(.ref o0), (.ref vb), (.int 8), (.int 0)] below meth c s₁ [] 0 0 := Stand.of_body Bd
  have e0 : s₁.heap = h0 := by rw [← hh, Bd.state]; rfl
  have N0 := Fr.nil n0
  show own_G p.tables e below s (Q_rmGBq3 Z o0 vb sv ks kb cs h0 n0) ({ frames := 1, cells := 0, slots := 0, locals := 18 } : Room).cells ({ frames := 1, cells := 0, slots := 0, locals := 18 } : Room).slots _
  refine own_thr (a := s₁.setTop (mkF m 0 #[.val (.ref o0), .val (.ref vb), .val (.int 8), .val (.int 0)] [])) (fun t kt => castTop (ef_rmGBq3 m o0 vb) kt) ?_
  refine own_thr (a := s₁.setTop (mkF m 1 #[.val (.ref o0), .val (.ref vb), .val (.int 8), .val (.int 0)] [(.ref o0)])) (fun t kt => ?_) ?_
  · show Steps p.tables e below (s₁.setTop (mkF m 0 #[.val (.ref o0), .val (.ref vb), .val (.int 8), .val (.int 0)] [])) _
    refine XS.aloadN X0.here hx rfl (hb hby d12_0) rfl rfl ?_
    exact kt
  obtain ⟨cq1, kq1, q1a, q1b, q1c⟩ := isOf hZ e0 E_o0
  obtain ⟨_, _, ⟨T1, L1, k1, n1⟩, -, X1, ⟨Lc1, hQ1, l1, y1, z1⟩, st1⟩ := X0.virtualBack hx (y := (⟨"java/lang/String", "coder", "()B"⟩ : MethodName)) (z := (⟨"java/lang/String", "coder", "()B"⟩ : MethodName)) hown (mvT hZ (hw _ (List.mem_of_getElem? (i := 49) rfl))) (mvT hZ (hw _ (List.mem_of_getElem? (i := 50) rfl))) (notFace_of_selects (args := #[]) (mvT hZ (hw _ (List.mem_of_getElem? (i := 52) rfl)))) (mvT hZ (hw _ (List.mem_of_getElem? (i := 52) rfl))) (mvT hZ (hw _ (List.mem_of_getElem? (i := 51) rfl))) (by decide) (backOf (W := 0) (rmCO l Z a0 hw [] o0 cs h0 n0 Z0 F_coder_o0 S_COMPACT_STRINGS hcs) hZ (hw _ (List.mem_of_getElem? (i := 53) rfl)) (hw _ (List.mem_of_getElem? (i := 24) rfl)) (by decide) (by decide)) q1a q1c (g := (mkF m 1 #[.val (.ref o0), .val (.ref vb), .val (.int 8), .val (.int 0)] [(.ref o0)])) rfl (by rw [hml]; rfl) (Steps.refl _) (argsL := []) (rest := []) (lenOf pd__28_29B rfl) rfl (by show 2 * 0 + _ ≤ _; exact Nat.le_of_eq rfl) (hb hby d12_1) (fun _ _ => ⟨rfl, e0, (by decide : 0 + 0 ≤ _), (by decide : 0 + 0 ≤ _)⟩)
  dsimp only [Pt.U, Pt.locs, Pt.cells, Pt.slots] at X1 l1 y1 z1 st1 hQ1
  obtain ⟨rfl, N1q, e1⟩ := hQ1
  obtain ⟨lc1, X1, N1⟩ := own_pack X1 l1 y1 z1 N0 N1q (C := 0) (S' := 0) rfl rfl
  refine own_thr (a := T1.setTop (mkF m 4 #[.val (.ref o0), .val (.ref vb), .val (.int 8), .val (.int 0)] [(.int 0)])) (fun t kt => st1.trans kt) ?_
  refine own_thr (a := T1.setTop (mkF m 9 #[.val (.ref o0), .val (.ref vb), .val (.int 8), .val (.int 0)] [(.ref o0)])) (fun t kt => ?_) ?_
  · show Steps p.tables e below (T1.setTop (mkF m 4 #[.val (.ref o0), .val (.ref vb), .val (.int 8), .val (.int 0)] [(.int 0)])) _
    refine XS.iloadN X1.here hx rfl (hb hby d12_4) rfl ?_
    refine XS.icmpNo X1.here hx rfl (hb hby d12_5) rfl (teq rfl).2 ?_
    refine XS.aloadN X1.here hx rfl (hb hby d12_8) rfl rfl ?_
    exact kt
  obtain ⟨T2, X2, e2, st2⟩ := getF X1 hx hZ hown (host := "") (Or.inl (hw _ (List.mem_of_getElem? (i := 47) rfl))) Via.refl e1 F_value_o0 (g := (mkF m 9 #[.val (.ref o0), .val (.ref vb), .val (.int 8), .val (.int 0)] [(.ref o0)])) rfl rfl (hb hby d12_9)
  refine own_thr (a := T2.setTop (mkF m 12 #[.val (.ref o0), .val (.ref vb), .val (.int 8), .val (.int 0)] [(.ref sv)])) (fun t kt => st2 t kt) ?_
  refine own_thr (a := T2.setTop (mkF m 18 #[.val (.ref o0), .val (.ref vb), .val (.int 8), .val (.int 0)] [(.ref o0), (.int 8), (.ref vb), (.int 0), (.ref sv)])) (fun t kt => ?_) ?_
  · show Steps p.tables e below (T2.setTop (mkF m 12 #[.val (.ref o0), .val (.ref vb), .val (.int 8), .val (.int 0)] [(.ref sv)])) _
    refine XS.iconst X2.here hx rfl (hb hby d12_12) ?_
    refine XS.aloadN X2.here hx rfl (hb hby d12_13) rfl rfl ?_
    refine XS.iloadN X2.here hx rfl (hb hby d12_14) rfl ?_
    refine XS.iloadN X2.here hx rfl (hb hby d12_15) rfl ?_
    refine XS.ishl X2.here hx rfl (hb hby d12_16) rfl ?_
    refine XS.aloadN X2.here hx rfl (hb hby d12_17) rfl rfl ?_
    exact kt
  obtain ⟨T3, X3, e3, st3⟩ := getF X2 hx hZ hown (host := "") (Or.inl (hw _ (List.mem_of_getElem? (i := 47) rfl))) Via.refl e2 F_value_o0 (g := (mkF m 18 #[.val (.ref o0), .val (.ref vb), .val (.int 8), .val (.int 0)] [(.ref o0), (.int 8), (.ref vb), (.int 0), (.ref sv)])) rfl rfl (hb hby d12_18)
  refine own_thr (a := T3.setTop (mkF m 21 #[.val (.ref o0), .val (.ref vb), .val (.int 8), .val (.int 0)] [(.ref sv), (.int 8), (.ref vb), (.int 0), (.ref sv)])) (fun t kt => st3 t kt) ?_
  obtain ⟨cl4, Ar4, -, S4, M4, -, -⟩ := id V_sv
  refine own_thr (a := T3.setTop (mkF m 22 #[.val (.ref o0), .val (.ref vb), .val (.int 8), .val (.int 0)] [(.int 6), (.int 8), (.ref vb), (.int 0), (.ref sv)])) (fun t kt => ?_) ?_
  · show Steps p.tables e below (T3.setTop (mkF m 21 #[.val (.ref o0), .val (.ref vb), .val (.int 8), .val (.int 0)] [(.ref sv), (.int 8), (.ref vb), (.int 0), (.ref sv)])) _
    refine X3.arraylength hx (by rw [e3]; exact Ar4.1) (State.isArrayOf_alike hZ.alike Ar4.2.1) (g := (mkF m 21 #[.val (.ref o0), .val (.ref vb), .val (.int 8), .val (.int 0)] [(.ref sv), (.int 8), (.ref vb), (.int 0), (.ref sv)])) rfl rfl (hb hby d12_21) _ ?_
    rw [len_of S4 M4]
    exact kt
  obtain ⟨T5, h5, L5, X5, e5, N5, K5, V5, st5⟩ := cpA X3 hx hZ hown (hw _ (List.mem_of_getElem? (i := 80) rfl)) (hw _ (List.mem_of_getElem? (i := 83) rfl)) (hw _ (List.mem_of_getElem? (i := 81) rfl)) (hw _ (List.mem_of_getElem? (i := 82) rfl)) e3 V_sv V_vb (Or.inl ⟨rfl, rfl⟩) (sp := (0 : Int32)) (dp := (8 : Int32)) (nn := (6 : Int32)) (by decide) (by decide) (by decide) (by decide) (by decide) (us := [(.int 60), (.int 110), (.int 97), (.int 109), (.int 101), (.int 62)]) rfl (by decide) N1 g_vb (g := (mkF m 22 #[.val (.ref o0), .val (.ref vb), .val (.int 8), .val (.int 0)] [(.int 6), (.int 8), (.ref vb), (.int 0), (.ref sv)])) rfl (by rw [hml]; rfl) rfl (hb hby d12_22) (by decide) (W := 0) (by show 2 * 0 + _ ≤ _; exact Nat.le_of_eq rfl) (by decide)
  have Z6 : n0 ≤ h5.size := Nat.le_trans Z0 K5.1
  have Z6h : h0.size ≤ h5.size := Nat.le_trans (Nat.le_refl h0.size) K5.1
  have Vl5 : Arv Z h5 vb kb .byte (16 : Int32) [(.int 45), (.int 45), (.int 113), (.int 117), (.int 101), (.int 117), (.int 101), (.int 32), (.int 60), (.int 110), (.int 97), (.int 109), (.int 101), (.int 62), (.int 0), (.int 0)] (.int 0) := V5
  refine own_thr (a := T5.setTop (mkF m 25 #[.val (.ref o0), .val (.ref vb), .val (.int 8), .val (.int 0)] [])) (fun t kt => st5 t kt) ?_
  refine own_thr (a := T5.setTop (mkF m 43 #[.val (.ref o0), .val (.ref vb), .val (.int 8), .val (.int 0)] [])) (fun t kt => ?_) ?_
  · show Steps p.tables e below (T5.setTop (mkF m 25 #[.val (.ref o0), .val (.ref vb), .val (.int 8), .val (.int 0)] [])) _
    refine XS.goto X5.here hx rfl (pc0 := 25) (pc' := 43) rfl (hb hby d12_25) (by decide) (by decide) ?_
    exact kt
  exact own_end X5 hlk (v := none) (fun _ => rfl) (fun fs hr => X5.returnOut hx Bd.returns (hb hby d12_43) hr) (by rw [e5]; exact ⟨rfl, N5, ((Keep.refl h0 [vb]).trans K5 (allS (Or.inl (List.mem_of_getElem? (i := 0) rfl)) all0)), Vl5⟩) (by decide : 0 ≤ _) (by decide : 0 ≤ _)
theorem ef_rmPSq3 (m : MethodId) (o0 : Addr) (o2 : Addr)  : entryFrame m #[(.ref o0), (.int 8), (.ref o2)] 3 = mkF m 0 #[.val (.ref o0), .val (.int 8), .val (.ref o2)] [] := by first |  (simp [entryFrame, mkF, argsToLocals, Value.category]; done) | rfl
def Q_rmPSq3 (Z : State) (o0 : Addr) (o2 : Addr) (vb : Addr) (kb : ClassId) (sv : Addr) (ks : ClassId) (cs : Int32) (h0 : Heap) (n0 : Nat) (v : Option Value) (h : Heap) (L : List Loc) : Prop := v = none ∧ Fr n0 L ∧ Keep h0 h [vb] ∧ Arv Z h vb kb .byte (16 : Int32) [(.int 45), (.int 45), (.int 113), (.int 117), (.int 101), (.int 117), (.int 101), (.int 32), (.int 60), (.int 110), (.int 97), (.int 109), (.int 101), (.int 62), (.int 0), (.int 0)] (.int 0)
set_option maxRecDepth 65536 in
set_option maxHeartbeats 40000000 in
theorem rmPSq3 (l : Launch) (Z : State) (a0 : Array Value) (hw : ∀ d ∈ tables_1, d.before a0 Z = true) (ws : List Jvm.Cond) (o0 : Addr) (o2 : Addr) (vb : Addr) (kb : ClassId) (sv : Addr) (ks : ClassId) (cs : Int32) (h0 : Heap) (n0 : Nat) (Z0 : n0 ≤ h0.size) (E_o0 : Exa Z h0 o0 "java/lang/StringBuilder") (F_value_o0 : Fld Z h0 o0 "java/lang/AbstractStringBuilder" "value" "[B" (.ref vb)) (F_coder_o0 : Fld Z h0 o0 "java/lang/AbstractStringBuilder" "coder" "B" (.int 0)) (F_count_o0 : Fld Z h0 o0 "java/lang/AbstractStringBuilder" "count" "I" (.int 8)) (E_o2 : Exa Z h0 o2 "java/lang/String") (F_value_o2 : Fld Z h0 o2 "java/lang/String" "value" "[B" (.ref sv)) (F_coder_o2 : Fld Z h0 o2 "java/lang/String" "coder" "B" (.int 0)) (V_vb : Arv Z h0 vb kb .byte (16 : Int32) [(.int 45), (.int 45), (.int 113), (.int 117), (.int 101), (.int 117), (.int 101), (.int 32), (.int 0), (.int 0), (.int 0), (.int 0), (.int 0), (.int 0), (.int 0), (.int 0)] (.int 0)) (V_sv : Arv Z h0 sv ks .byte (6 : Int32) [(.int 60), (.int 110), (.int 97), (.int 109), (.int 101), (.int 62)] (.int 0)) (S_COMPACT_STRINGS : Sta Z h0 "java/lang/String" "COMPACT_STRINGS" "Z" (.int cs)) (g_vb : n0 ≤ vb) (ne_o0_vb : o0 ≠ vb) (ne_sv_vb : sv ≠ vb) (ne_o2_vb : o2 ≠ vb) (ne_o2_o0 : o2 ≠ o0) (ne_sv_o0 : sv ≠ o0) (hcs : ¬ cs = (0 : Int32)) :
    MetFree l (⟨"java/lang/AbstractStringBuilder", "putStringAt", "(ILjava/lang/String;)V"⟩ : MethodName) (head1 (Jvm.Cond.code (⟨"java/lang/AbstractStringBuilder", "putStringAt", "(ILjava/lang/String;)V"⟩ : MethodName) jdk_68_method_73_code 3 none :: ws) ({ frames := 2, cells := 0, slots := 0, locals := 33 } : Room)) (fun a U => a = #[(.ref o0), (.int 8), (.ref o2)] ∧ Z.Warmed39 U.vm ∧ U.heap = h0) (fun _ _ _ _ _ => True) (fun _ U o U' => ∃ v L, o = .returned v ∧ Q_rmPSq3 Z o0 o2 vb kb sv ks cs h0 n0 v U'.heap L ∧ FrameEnd U o U' L ({ frames := 2, cells := 0, slots := 0, locals := 33 } : Room).cells ({ frames := 2, cells := 0, slots := 0, locals := 33 } : Room).slots) := by
  refine MetFree.of_bodySF (plainFor_of_name pn_java_lang_AbstractStringBuilder) hisR ?_
  intro p e s m args below meth c s₁ Bd hml0 hP hK
  obtain ⟨rfl, hZ, hh⟩ := hP
  have hx := Bd.exec
  have hby := Bd.bytes
  have hml : c.maxLocals = 3 := hml0
  have hown : s.vm.findClass "java/lang/AbstractStringBuilder" = some m.cls := findClass_of_methodNamed Bd.named
  have hnm := (name_of_methodNamed Bd.named Bd.method).1
  have hlk := Bd.notSynchronized
  have X0 : Stand p l e ({ frames := 2, cells := 0, slots := 0, locals := 33 } : Room) s m #[(.ref o0), (.int 8), (.ref o2)] below meth c s₁ [] 0 0 := Stand.of_body Bd
  have e0 : s₁.heap = h0 := by rw [← hh, Bd.state]; rfl
  have N0 := Fr.nil n0
  show own_G p.tables e below s (Q_rmPSq3 Z o0 o2 vb kb sv ks cs h0 n0) ({ frames := 2, cells := 0, slots := 0, locals := 33 } : Room).cells ({ frames := 2, cells := 0, slots := 0, locals := 33 } : Room).slots _
  refine own_thr (a := s₁.setTop (mkF m 0 #[.val (.ref o0), .val (.int 8), .val (.ref o2)] [])) (fun t kt => castTop (ef_rmPSq3 m o0 o2) kt) ?_
  refine own_thr (a := s₁.setTop (mkF m 2 #[.val (.ref o0), .val (.int 8), .val (.ref o2)] [(.ref o2), (.ref o0)])) (fun t kt => ?_) ?_
  · show Steps p.tables e below (s₁.setTop (mkF m 0 #[.val (.ref o0), .val (.int 8), .val (.ref o2)] [])) _
    refine XS.aloadN X0.here hx rfl (hb hby d10_0) rfl rfl ?_
    refine XS.aloadN X0.here hx rfl (hb hby d10_1) rfl rfl ?_
    exact kt
  obtain ⟨cq1, q1, q1'⟩ := E_o0.cell
  obtain ⟨_, _, ⟨T1, L1, k1, n1⟩, -, X1, ⟨Lc1, hQ1, l1, y1, z1⟩, st1⟩ := X0.privateBack hx (y := (⟨"java/lang/AbstractStringBuilder", "inflateIfNeededFor", "(Ljava/lang/String;)V"⟩ : MethodName)) hown (mvT hZ (hw _ (List.mem_of_getElem? (i := 69) rfl))) (mvT hZ (hw _ (List.mem_of_getElem? (i := 70) rfl))) (own_selp hZ (hw _ (List.mem_of_getElem? (i := 72) rfl)) (hw _ (List.mem_of_getElem? (i := 71) rfl)) (hw _ (List.mem_of_getElem? (i := 70) rfl)) (by decide)) (Cond.privateMethod_at (mvP hZ (hw _ (List.mem_of_getElem? (i := 71) rfl)) (args := #[]))) (mvT hZ (hw _ (List.mem_of_getElem? (i := 73) rfl))) (by decide) (backOf (W := 0) (rmIN l Z a0 hw [] o0 o2 cs h0 n0 Z0 F_coder_o0 E_o2 F_coder_o2 S_COMPACT_STRINGS hcs) hZ (hw _ (List.mem_of_getElem? (i := 73) rfl)) (hw _ (List.mem_of_getElem? (i := 18) rfl)) (by decide) (by decide)) (g := (mkF m 2 #[.val (.ref o0), .val (.int 8), .val (.ref o2)] [(.ref o2), (.ref o0)])) rfl (by rw [hml]; rfl) (Steps.refl _) (a := o0) (by rw [e0]; exact q1) q1' (argsL := [(.ref o2)]) (rest := []) (lenOf pd__28Ljava_2flang_2fString_3b_29V rfl) rfl (by show 2 * 0 + _ ≤ _; exact Nat.le_of_eq rfl) (hb hby d10_2) (fun _ _ => ⟨rfl, e0, (by decide : 0 + 0 ≤ _), (by decide : 0 + 0 ≤ _)⟩)
  dsimp only [Pt.U, Pt.locs, Pt.cells, Pt.slots] at X1 l1 y1 z1 st1 hQ1
  obtain ⟨rfl, N1q, e1⟩ := hQ1
  obtain ⟨lc1, X1, N1⟩ := own_pack X1 l1 y1 z1 N0 N1q (C := 0) (S' := 0) rfl rfl
  refine own_thr (a := T1.setTop (mkF m 5 #[.val (.ref o0), .val (.int 8), .val (.ref o2)] [])) (fun t kt => st1.trans kt) ?_
  refine own_thr (a := T1.setTop (mkF m 7 #[.val (.ref o0), .val (.int 8), .val (.ref o2)] [(.ref o0), (.ref o2)])) (fun t kt => ?_) ?_
  · show Steps p.tables e below (T1.setTop (mkF m 5 #[.val (.ref o0), .val (.int 8), .val (.ref o2)] [])) _
    refine XS.aloadN X1.here hx rfl (hb hby d10_5) rfl rfl ?_
    refine XS.aloadN X1.here hx rfl (hb hby d10_6) rfl rfl ?_
    exact kt
  obtain ⟨T2, X2, e2, st2⟩ := getF X1 hx hZ hown (host := "") (Or.inl (hw _ (List.mem_of_getElem? (i := 26) rfl))) Via.refl e1 F_value_o0 (g := (mkF m 7 #[.val (.ref o0), .val (.int 8), .val (.ref o2)] [(.ref o0), (.ref o2)])) rfl rfl (hb hby d10_7)
  refine own_thr (a := T2.setTop (mkF m 10 #[.val (.ref o0), .val (.int 8), .val (.ref o2)] [(.ref vb), (.ref o2)])) (fun t kt => st2 t kt) ?_
  refine own_thr (a := T2.setTop (mkF m 12 #[.val (.ref o0), .val (.int 8), .val (.ref o2)] [(.ref o0), (.int 8), (.ref vb), (.ref o2)])) (fun t kt => ?_) ?_
  · show Steps p.tables e below (T2.setTop (mkF m 10 #[.val (.ref o0), .val (.int 8), .val (.ref o2)] [(.ref vb), (.ref o2)])) _
    refine XS.iloadN X2.here hx rfl (hb hby d10_10) rfl ?_
    refine XS.aloadN X2.here hx rfl (hb hby d10_11) rfl rfl ?_
    exact kt
  obtain ⟨T3, X3, e3, st3⟩ := getF X2 hx hZ hown (host := "") (Or.inl (hw _ (List.mem_of_getElem? (i := 28) rfl))) Via.refl e2 F_coder_o0 (g := (mkF m 12 #[.val (.ref o0), .val (.int 8), .val (.ref o2)] [(.ref o0), (.int 8), (.ref vb), (.ref o2)])) rfl rfl (hb hby d10_12)
  refine own_thr (a := T3.setTop (mkF m 15 #[.val (.ref o0), .val (.int 8), .val (.ref o2)] [(.int 0), (.int 8), (.ref vb), (.ref o2)])) (fun t kt => st3 t kt) ?_
  obtain ⟨cq4, kq4, q4a, q4b, q4c⟩ := isOf hZ e3 E_o2
  obtain ⟨_, _, ⟨T4, L4, k4, n4⟩, -, X4, ⟨Lc4, hQ4, l4, y4, z4⟩, st4⟩ := X3.virtualBack hx (y := (⟨"java/lang/String", "getBytes", "([BIB)V"⟩ : MethodName)) (z := (⟨"java/lang/String", "getBytes", "([BIB)V"⟩ : MethodName)) hown (mvT hZ (hw _ (List.mem_of_getElem? (i := 75) rfl))) (mvT hZ (hw _ (List.mem_of_getElem? (i := 76) rfl))) (notFace_of_selects (args := #[]) (mvT hZ (hw _ (List.mem_of_getElem? (i := 78) rfl)))) (mvT hZ (hw _ (List.mem_of_getElem? (i := 78) rfl))) (mvT hZ (hw _ (List.mem_of_getElem? (i := 77) rfl))) (by decide) (backOf (W := 0) (rmGBq3 l Z a0 hw [] o2 vb sv ks kb cs h0 n0 Z0 E_o2 F_value_o2 F_coder_o2 V_sv V_vb S_COMPACT_STRINGS g_vb ne_sv_vb ne_o2_vb hcs) hZ (hw _ (List.mem_of_getElem? (i := 79) rfl)) (hw _ (List.mem_of_getElem? (i := 24) rfl)) (by decide) (by decide)) q4a q4c (g := (mkF m 15 #[.val (.ref o0), .val (.int 8), .val (.ref o2)] [(.int 0), (.int 8), (.ref vb), (.ref o2)])) rfl (by rw [hml]; rfl) (Steps.refl _) (argsL := [(.ref vb), (.int 8), (.int 0)]) (rest := []) (lenOf pd__28_5bBIB_29V rfl) rfl (by show 2 * 0 + _ ≤ _; exact Nat.le_of_eq rfl) (hb hby d10_15) (fun _ _ => ⟨rfl, e3, (by decide : 0 + 0 ≤ _), (by decide : 0 + 0 ≤ _)⟩)
  dsimp only [Pt.U, Pt.locs, Pt.cells, Pt.slots] at X4 l4 y4 z4 st4 hQ4
  obtain ⟨rfl, N4q, K4, o4_0⟩ := hQ4
  have Z5 : n0 ≤ T4.heap.size := Nat.le_trans Z0 K4.1
  have Z5h : h0.size ≤ T4.heap.size := Nat.le_trans (Nat.le_refl h0.size) K4.1
  obtain ⟨lc4, X4, N4⟩ := own_pack X4 l4 y4 z4 N1 N4q (C := 0) (S' := 0) rfl rfl
  refine own_thr (a := T4.setTop (mkF m 18 #[.val (.ref o0), .val (.int 8), .val (.ref o2)] [])) (fun t kt => st4.trans kt) ?_
  exact own_end X4 hlk (v := none) (fun _ => rfl) (fun fs hr => X4.returnOut hx Bd.returns (hb hby d10_18) hr) ⟨rfl, N4, ((Keep.refl h0 [vb]).trans K4 (allS (Or.inl (List.mem_of_getElem? (i := 0) rfl)) all0)), o4_0⟩ (by decide : 0 ≤ _) (by decide : 0 ≤ _)
theorem ef_rmAAq3 (m : MethodId) (o0 : Addr) (o1 : Addr)  : entryFrame m #[(.ref o0), (.ref o1)] 3 = mkF m 0 #[.val (.ref o0), .val (.ref o1), .unset] [] := by first |  (simp [entryFrame, mkF, argsToLocals, Value.category]; done) | rfl
def Q_rmAAq3 (Z : State) (o0 : Addr) (o1 : Addr) (vb : Addr) (kb : ClassId) (sv : Addr) (ks : ClassId) (cs : Int32) (h0 : Heap) (n0 : Nat) (v : Option Value) (h : Heap) (L : List Loc) : Prop := v = some (.ref o0) ∧ Fr n0 L ∧ Keep h0 h [o0, vb] ∧ Exa Z h o0 "java/lang/StringBuilder" ∧ Fld Z h o0 "java/lang/AbstractStringBuilder" "value" "[B" (.ref vb) ∧ Fld Z h o0 "java/lang/AbstractStringBuilder" "coder" "B" (.int 0) ∧ Fld Z h o0 "java/lang/AbstractStringBuilder" "count" "I" (.int 14) ∧ Arv Z h vb kb .byte (16 : Int32) [(.int 45), (.int 45), (.int 113), (.int 117), (.int 101), (.int 117), (.int 101), (.int 32), (.int 60), (.int 110), (.int 97), (.int 109), (.int 101), (.int 62), (.int 0), (.int 0)] (.int 0)
set_option maxRecDepth 65536 in
set_option maxHeartbeats 40000000 in
theorem rmAAq3 (l : Launch) (Z : State) (a0 : Array Value) (hw : ∀ d ∈ tables_1, d.before a0 Z = true) (ws : List Jvm.Cond) (o0 : Addr) (o1 : Addr) (vb : Addr) (kb : ClassId) (sv : Addr) (ks : ClassId) (cs : Int32) (h0 : Heap) (n0 : Nat) (Z0 : n0 ≤ h0.size) (E_o0 : Exa Z h0 o0 "java/lang/StringBuilder") (F_value_o0 : Fld Z h0 o0 "java/lang/AbstractStringBuilder" "value" "[B" (.ref vb)) (F_coder_o0 : Fld Z h0 o0 "java/lang/AbstractStringBuilder" "coder" "B" (.int 0)) (F_count_o0 : Fld Z h0 o0 "java/lang/AbstractStringBuilder" "count" "I" (.int 8)) (E_o1 : Exa Z h0 o1 "java/lang/String") (F_value_o1 : Fld Z h0 o1 "java/lang/String" "value" "[B" (.ref sv)) (F_coder_o1 : Fld Z h0 o1 "java/lang/String" "coder" "B" (.int 0)) (V_vb : Arv Z h0 vb kb .byte (16 : Int32) [(.int 45), (.int 45), (.int 113), (.int 117), (.int 101), (.int 117), (.int 101), (.int 32), (.int 0), (.int 0), (.int 0), (.int 0), (.int 0), (.int 0), (.int 0), (.int 0)] (.int 0)) (V_sv : Arv Z h0 sv ks .byte (6 : Int32) [(.int 60), (.int 110), (.int 97), (.int 109), (.int 101), (.int 62)] (.int 0)) (S_COMPACT_STRINGS : Sta Z h0 "java/lang/String" "COMPACT_STRINGS" "Z" (.int cs)) (g_o0 : n0 ≤ o0) (g_vb : n0 ≤ vb) (ne_o0_vb : o0 ≠ vb) (ne_sv_vb : sv ≠ vb) (ne_o1_vb : o1 ≠ vb) (ne_o1_o0 : o1 ≠ o0) (ne_sv_o0 : sv ≠ o0) (hcs : ¬ cs = (0 : Int32)) :
    MetFree l (⟨"java/lang/AbstractStringBuilder", "append", "(Ljava/lang/String;)Ljava/lang/AbstractStringBuilder;"⟩ : MethodName) (head1 (Jvm.Cond.code (⟨"java/lang/AbstractStringBuilder", "append", "(Ljava/lang/String;)Ljava/lang/AbstractStringBuilder;"⟩ : MethodName) jdk_68_method_22_code 3 (some (.object "java/lang/AbstractStringBuilder")) :: ws) ({ frames := 3, cells := 0, slots := 0, locals := 47 } : Room)) (fun a U => a = #[(.ref o0), (.ref o1)] ∧ Z.Warmed39 U.vm ∧ U.heap = h0) (fun _ _ _ _ _ => True) (fun _ U o U' => ∃ v L, o = .returned v ∧ Q_rmAAq3 Z o0 o1 vb kb sv ks cs h0 n0 v U'.heap L ∧ FrameEnd U o U' L ({ frames := 3, cells := 0, slots := 0, locals := 47 } : Room).cells ({ frames := 3, cells := 0, slots := 0, locals := 47 } : Room).slots) := by
  refine MetFree.of_bodySF (plainFor_of_name pn_java_lang_AbstractStringBuilder) hisR ?_
  intro p e s m args below meth c s₁ Bd hml0 hP hK
  obtain ⟨rfl, hZ, hh⟩ := hP
  have hx := Bd.exec
  have hby := Bd.bytes
  have hml : c.maxLocals = 3 := hml0
  have hown : s.vm.findClass "java/lang/AbstractStringBuilder" = some m.cls := findClass_of_methodNamed Bd.named
  have hnm := (name_of_methodNamed Bd.named Bd.method).1
  have hlk := Bd.notSynchronized
  have X0 : Stand p l e ({ frames := 3, cells := 0, slots := 0, locals := 47 } : Room) s m #[(.ref o0), (.ref o1)] below meth c s₁ [] 0 0 := Stand.of_body Bd
  have e0 : s₁.heap = h0 := by rw [← hh, Bd.state]; rfl
  have N0 := Fr.nil n0
  show own_G p.tables e below s (Q_rmAAq3 Z o0 o1 vb kb sv ks cs h0 n0) ({ frames := 3, cells := 0, slots := 0, locals := 47 } : Room).cells ({ frames := 3, cells := 0, slots := 0, locals := 47 } : Room).slots _
  refine own_thr (a := s₁.setTop (mkF m 0 #[.val (.ref o0), .val (.ref o1), .unset] [])) (fun t kt => castTop (ef_rmAAq3 m o0 o1) kt) ?_
  refine own_thr (a := s₁.setTop (mkF m 10 #[.val (.ref o0), .val (.ref o1), .unset] [(.ref o1)])) (fun t kt => ?_) ?_
  · show Steps p.tables e below (s₁.setTop (mkF m 0 #[.val (.ref o0), .val (.ref o1), .unset] [])) _
    refine XS.aloadN X0.here hx rfl (hb hby d6_0) rfl rfl ?_
    refine XS.ifnonnullYes X0.here hx rfl (pc0 := 1) (pc' := 9) rfl (hb hby d6_1) rfl (by decide) (by decide) ?_
    refine XS.aloadN X0.here hx rfl (hb hby d6_9) rfl rfl ?_
    exact kt
  obtain ⟨cq1, kq1, q1a, q1b, q1c⟩ := isOf hZ e0 E_o1
  obtain ⟨_, _, ⟨T1, L1, k1, n1⟩, -, X1, ⟨Lc1, hQ1, l1, y1, z1⟩, st1⟩ := X0.virtualBack hx (y := (⟨"java/lang/String", "length", "()I"⟩ : MethodName)) (z := (⟨"java/lang/String", "length", "()I"⟩ : MethodName)) hown (mvT hZ (hw _ (List.mem_of_getElem? (i := 42) rfl))) (mvT hZ (hw _ (List.mem_of_getElem? (i := 43) rfl))) (notFace_of_selects (args := #[]) (mvT hZ (hw _ (List.mem_of_getElem? (i := 45) rfl)))) (mvT hZ (hw _ (List.mem_of_getElem? (i := 45) rfl))) (mvT hZ (hw _ (List.mem_of_getElem? (i := 44) rfl))) (by decide) (backOf (W := 0) (rmLNq3 l Z a0 hw [] o1 sv ks cs h0 n0 Z0 E_o1 F_value_o1 F_coder_o1 V_sv S_COMPACT_STRINGS hcs) hZ (hw _ (List.mem_of_getElem? (i := 46) rfl)) (hw _ (List.mem_of_getElem? (i := 24) rfl)) (by decide) (by decide)) q1a q1c (g := (mkF m 10 #[.val (.ref o0), .val (.ref o1), .unset] [(.ref o1)])) rfl (by rw [hml]; rfl) (Steps.refl _) (argsL := []) (rest := []) (lenOf pd__28_29I rfl) rfl (by show 2 * 0 + _ ≤ _; exact Nat.le_of_eq rfl) (hb hby d6_10) (fun _ _ => ⟨rfl, e0, (by decide : 0 + 0 ≤ _), (by decide : 0 + 0 ≤ _)⟩)
  dsimp only [Pt.U, Pt.locs, Pt.cells, Pt.slots] at X1 l1 y1 z1 st1 hQ1
  obtain ⟨rfl, N1q, e1⟩ := hQ1
  obtain ⟨lc1, X1, N1⟩ := own_pack X1 l1 y1 z1 N0 N1q (C := 0) (S' := 0) rfl rfl
  refine own_thr (a := T1.setTop (mkF m 13 #[.val (.ref o0), .val (.ref o1), .unset] [(.int 6)])) (fun t kt => st1.trans kt) ?_
  refine own_thr (a := T1.setTop (mkF m 16 #[.val (.ref o0), .val (.ref o1), .val (.int 6)] [(.ref o0), (.ref o0)])) (fun t kt => ?_) ?_
  · show Steps p.tables e below (T1.setTop (mkF m 13 #[.val (.ref o0), .val (.ref o1), .unset] [(.int 6)])) _
    refine XS.istoreN X1.here hx rfl (hb hby d6_13) rfl (l' := #[.val (.ref o0), .val (.ref o1), .val (.int 6)]) rfl ?_
    refine XS.aloadN X1.here hx rfl (hb hby d6_14) rfl rfl ?_
    refine XS.aloadN X1.here hx rfl (hb hby d6_15) rfl rfl ?_
    exact kt
  obtain ⟨T2, X2, e2, st2⟩ := getF X1 hx hZ hown (host := "") (Or.inl (hw _ (List.mem_of_getElem? (i := 57) rfl))) Via.refl e1 F_count_o0 (g := (mkF m 16 #[.val (.ref o0), .val (.ref o1), .val (.int 6)] [(.ref o0), (.ref o0)])) rfl rfl (hb hby d6_16)
  refine own_thr (a := T2.setTop (mkF m 19 #[.val (.ref o0), .val (.ref o1), .val (.int 6)] [(.int 8), (.ref o0)])) (fun t kt => st2 t kt) ?_
  refine own_thr (a := T2.setTop (mkF m 21 #[.val (.ref o0), .val (.ref o1), .val (.int 6)] [(.int 14), (.ref o0)])) (fun t kt => ?_) ?_
  · show Steps p.tables e below (T2.setTop (mkF m 19 #[.val (.ref o0), .val (.ref o1), .val (.int 6)] [(.int 8), (.ref o0)])) _
    refine XS.iloadN X2.here hx rfl (hb hby d6_19) rfl ?_
    refine XS.iadd X2.here hx rfl (hb hby d6_20) rfl ?_
    exact kt
  obtain ⟨cq3, q3, q3'⟩ := E_o0.cell
  obtain ⟨_, _, ⟨T3, L3, k3, n3⟩, -, X3, ⟨Lc3, hQ3, l3, y3, z3⟩, st3⟩ := X2.privateBack hx (y := (⟨"java/lang/AbstractStringBuilder", "ensureCapacityInternal", "(I)V"⟩ : MethodName)) hown (mvT hZ (hw _ (List.mem_of_getElem? (i := 59) rfl))) (mvT hZ (hw _ (List.mem_of_getElem? (i := 60) rfl))) (own_selp hZ (hw _ (List.mem_of_getElem? (i := 62) rfl)) (hw _ (List.mem_of_getElem? (i := 61) rfl)) (hw _ (List.mem_of_getElem? (i := 60) rfl)) (by decide)) (Cond.privateMethod_at (mvP hZ (hw _ (List.mem_of_getElem? (i := 61) rfl)) (args := #[]))) (mvT hZ (hw _ (List.mem_of_getElem? (i := 63) rfl))) (by decide) (backOf (W := 0) (rmENq3 l Z a0 hw [] o0 vb kb h0 n0 Z0 F_value_o0 F_coder_o0 V_vb) hZ (hw _ (List.mem_of_getElem? (i := 63) rfl)) (hw _ (List.mem_of_getElem? (i := 18) rfl)) (by decide) (by decide)) (g := (mkF m 21 #[.val (.ref o0), .val (.ref o1), .val (.int 6)] [(.int 14), (.ref o0)])) rfl (by rw [hml]; rfl) (Steps.refl _) (a := o0) (by rw [e2]; exact q3) q3' (argsL := [(.int 14)]) (rest := []) (lenOf pd__28I_29V rfl) rfl (by show 2 * 0 + _ ≤ _; exact Nat.le_of_eq rfl) (hb hby d6_21) (fun _ _ => ⟨rfl, e2, (by decide : 0 + 0 ≤ _), (by decide : 0 + 0 ≤ _)⟩)
  dsimp only [Pt.U, Pt.locs, Pt.cells, Pt.slots] at X3 l3 y3 z3 st3 hQ3
  obtain ⟨rfl, N3q, e3⟩ := hQ3
  obtain ⟨lc3, X3, N3⟩ := own_pack X3 l3 y3 z3 N1 N3q (C := 0) (S' := 0) rfl rfl
  refine own_thr (a := T3.setTop (mkF m 24 #[.val (.ref o0), .val (.ref o1), .val (.int 6)] [])) (fun t kt => st3.trans kt) ?_
  refine own_thr (a := T3.setTop (mkF m 26 #[.val (.ref o0), .val (.ref o1), .val (.int 6)] [(.ref o0), (.ref o0)])) (fun t kt => ?_) ?_
  · show Steps p.tables e below (T3.setTop (mkF m 24 #[.val (.ref o0), .val (.ref o1), .val (.int 6)] [])) _
    refine XS.aloadN X3.here hx rfl (hb hby d6_24) rfl rfl ?_
    refine XS.aloadN X3.here hx rfl (hb hby d6_25) rfl rfl ?_
    exact kt
  obtain ⟨T4, X4, e4, st4⟩ := getF X3 hx hZ hown (host := "") (Or.inl (hw _ (List.mem_of_getElem? (i := 57) rfl))) Via.refl e3 F_count_o0 (g := (mkF m 26 #[.val (.ref o0), .val (.ref o1), .val (.int 6)] [(.ref o0), (.ref o0)])) rfl rfl (hb hby d6_26)
  refine own_thr (a := T4.setTop (mkF m 29 #[.val (.ref o0), .val (.ref o1), .val (.int 6)] [(.int 8), (.ref o0)])) (fun t kt => st4 t kt) ?_
  refine own_thr (a := T4.setTop (mkF m 30 #[.val (.ref o0), .val (.ref o1), .val (.int 6)] [(.ref o1), (.int 8), (.ref o0)])) (fun t kt => ?_) ?_
  · show Steps p.tables e below (T4.setTop (mkF m 29 #[.val (.ref o0), .val (.ref o1), .val (.int 6)] [(.int 8), (.ref o0)])) _
    refine XS.aloadN X4.here hx rfl (hb hby d6_29) rfl rfl ?_
    exact kt
  obtain ⟨cq5, q5, q5'⟩ := E_o0.cell
  obtain ⟨_, _, ⟨T5, L5, k5, n5⟩, -, X5, ⟨Lc5, hQ5, l5, y5, z5⟩, st5⟩ := X4.privateBack hx (y := (⟨"java/lang/AbstractStringBuilder", "putStringAt", "(ILjava/lang/String;)V"⟩ : MethodName)) hown (mvT hZ (hw _ (List.mem_of_getElem? (i := 64) rfl))) (mvT hZ (hw _ (List.mem_of_getElem? (i := 65) rfl))) (own_selp hZ (hw _ (List.mem_of_getElem? (i := 67) rfl)) (hw _ (List.mem_of_getElem? (i := 66) rfl)) (hw _ (List.mem_of_getElem? (i := 65) rfl)) (by decide)) (Cond.privateMethod_at (mvP hZ (hw _ (List.mem_of_getElem? (i := 66) rfl)) (args := #[]))) (mvT hZ (hw _ (List.mem_of_getElem? (i := 68) rfl))) (by decide) (backOf (W := 0) (rmPSq3 l Z a0 hw [] o0 o1 vb kb sv ks cs h0 n0 Z0 E_o0 F_value_o0 F_coder_o0 F_count_o0 E_o1 F_value_o1 F_coder_o1 V_vb V_sv S_COMPACT_STRINGS g_vb ne_o0_vb ne_sv_vb ne_o1_vb ne_o1_o0 ne_sv_o0 hcs) hZ (hw _ (List.mem_of_getElem? (i := 68) rfl)) (hw _ (List.mem_of_getElem? (i := 18) rfl)) (by decide) (by decide)) (g := (mkF m 30 #[.val (.ref o0), .val (.ref o1), .val (.int 6)] [(.ref o1), (.int 8), (.ref o0)])) rfl (by rw [hml]; rfl) (Steps.refl _) (a := o0) (by rw [e4]; exact q5) q5' (argsL := [(.int 8), (.ref o1)]) (rest := []) (lenOf pd__28ILjava_2flang_2fString_3b_29V rfl) rfl (by show 2 * 0 + _ ≤ _; exact Nat.le_of_eq rfl) (hb hby d6_30) (fun _ _ => ⟨rfl, e4, (by decide : 0 + 0 ≤ _), (by decide : 0 + 0 ≤ _)⟩)
  dsimp only [Pt.U, Pt.locs, Pt.cells, Pt.slots] at X5 l5 y5 z5 st5 hQ5
  obtain ⟨rfl, N5q, K5, o5_0⟩ := hQ5
  have Z6 : n0 ≤ T5.heap.size := Nat.le_trans Z0 K5.1
  have Z6h : h0.size ≤ T5.heap.size := Nat.le_trans (Nat.le_refl h0.size) K5.1
  obtain ⟨lc5, X5, N5⟩ := own_pack X5 l5 y5 z5 N3 N5q (C := 0) (S' := 0) rfl rfl
  refine own_thr (a := T5.setTop (mkF m 33 #[.val (.ref o0), .val (.ref o1), .val (.int 6)] [])) (fun t kt => st5.trans kt) ?_
  refine own_thr (a := T5.setTop (mkF m 35 #[.val (.ref o0), .val (.ref o1), .val (.int 6)] [(.ref o0), (.ref o0)])) (fun t kt => ?_) ?_
  · show Steps p.tables e below (T5.setTop (mkF m 33 #[.val (.ref o0), .val (.ref o1), .val (.int 6)] [])) _
    refine XS.aloadN X5.here hx rfl (hb hby d6_33) rfl rfl ?_
    refine XS.dup X5.here hx rfl (hb hby d6_34) rfl rfl ?_
    exact kt
  obtain ⟨T7, X7, e7, st7⟩ := getF X5 hx hZ hown (host := "") (Or.inl (hw _ (List.mem_of_getElem? (i := 57) rfl))) Via.refl rfl (F_count_o0.keep K5 (ninS ne_o0_vb nin0)) (g := (mkF m 35 #[.val (.ref o0), .val (.ref o1), .val (.int 6)] [(.ref o0), (.ref o0)])) rfl rfl (hb hby d6_35)
  refine own_thr (a := T7.setTop (mkF m 38 #[.val (.ref o0), .val (.ref o1), .val (.int 6)] [(.int 8), (.ref o0)])) (fun t kt => st7 t kt) ?_
  refine own_thr (a := T7.setTop (mkF m 40 #[.val (.ref o0), .val (.ref o1), .val (.int 6)] [(.int 14), (.ref o0)])) (fun t kt => ?_) ?_
  · show Steps p.tables e below (T7.setTop (mkF m 38 #[.val (.ref o0), .val (.ref o1), .val (.int 6)] [(.int 8), (.ref o0)])) _
    refine XS.iloadN X7.here hx rfl (hb hby d6_38) rfl ?_
    refine XS.iadd X7.here hx rfl (hb hby d6_39) rfl ?_
    exact kt
  obtain ⟨T8, h8, X8, e8, W8, st8⟩ := putF X7 hx hZ hown (host := "") (Or.inl (hw _ (List.mem_of_getElem? (i := 57) rfl))) Via.refl e7 (F_count_o0.keep K5 (ninS ne_o0_vb nin0)) (E_o0.keep K5) (Or.inl (hw _ (List.mem_of_getElem? (i := 58) rfl))) (hw _ (List.mem_of_getElem? (i := 9) rfl)) (ty := .int) (by decide) rfl rfl (g := (mkF m 40 #[.val (.ref o0), .val (.ref o1), .val (.int 6)] [(.int 14), (.ref o0)])) rfl rfl (hb hby d6_40)
  have Fw8 := (F_count_o0.keep K5 (ninS ne_o0_vb nin0)).same W8
  have Z9 : n0 ≤ h8.size := Nat.le_trans Z6 (Nat.le_of_eq W8.size.symm)
  have Z9h : h0.size ≤ h8.size := Nat.le_trans Z6h (Nat.le_of_eq W8.size.symm)
  obtain ⟨lc8, X8, N8⟩ := own_pack1 X8 N5 g_o0
  refine own_thr (a := T8.setTop (mkF m 43 #[.val (.ref o0), .val (.ref o1), .val (.int 6)] [])) (fun t kt => st8 t kt) ?_
  refine own_thr (a := T8.setTop (mkF m 44 #[.val (.ref o0), .val (.ref o1), .val (.int 6)] [(.ref o0)])) (fun t kt => ?_) ?_
  · show Steps p.tables e below (T8.setTop (mkF m 43 #[.val (.ref o0), .val (.ref o1), .val (.int 6)] [])) _
    refine XS.aloadN X8.here hx rfl (hb hby d6_43) rfl rfl ?_
    exact kt
  have c10 := ((F_value_o0.keep K5 (ninS ne_o0_vb nin0)).other W8 (Or.inr (slot_ne (Or.inl (hw _ (List.mem_of_getElem? (i := 27) rfl))) (Or.inl (hw _ (List.mem_of_getElem? (i := 58) rfl))) (by decide) (t := (.array .byte)) (t' := .int) (by decide) (by decide))))
  have c11 := ((F_coder_o0.keep K5 (ninS ne_o0_vb nin0)).other W8 (Or.inr (slot_ne (Or.inl (hw _ (List.mem_of_getElem? (i := 29) rfl))) (Or.inl (hw _ (List.mem_of_getElem? (i := 58) rfl))) (by decide) (t := .byte) (t' := .int) (by decide) (by decide))))
  exact own_end X8 hlk (v := some (.ref o0)) (fun h => by rw [Bd.returns] at h; cases h) (fun fs hr => retA X8 hx Bd.returns rfl rfl (hb hby d6_44) hr) (by rw [e8]; exact ⟨rfl, N8, (((Keep.refl h0 [o0, vb]).trans K5 (allS (Or.inl (List.mem_of_getElem? (i := 1) rfl)) all0)).wr W8 (Or.inl (List.mem_of_getElem? (i := 0) rfl))), ((E_o0.keep K5).wr W8), c10, c11, Fw8, (o5_0.other W8 (Ne.symm ne_o0_vb))⟩) (by decide : 0 ≤ _) (by decide : 0 ≤ _)
theorem ef_rmSAq3 (m : MethodId) (o0 : Addr) (o1 : Addr)  : entryFrame m #[(.ref o0), (.ref o1)] 2 = mkF m 0 #[.val (.ref o0), .val (.ref o1)] [] := by first |  (simp [entryFrame, mkF, argsToLocals, Value.category]; done) | rfl
def Q_rmSAq3 (Z : State) (o0 : Addr) (o1 : Addr) (vb : Addr) (kb : ClassId) (sv : Addr) (ks : ClassId) (cs : Int32) (h0 : Heap) (n0 : Nat) (v : Option Value) (h : Heap) (L : List Loc) : Prop := v = some (.ref o0) ∧ Fr n0 L ∧ Keep h0 h [o0, vb] ∧ Exa Z h o0 "java/lang/StringBuilder" ∧ Fld Z h o0 "java/lang/AbstractStringBuilder" "value" "[B" (.ref vb) ∧ Fld Z h o0 "java/lang/AbstractStringBuilder" "coder" "B" (.int 0) ∧ Fld Z h o0 "java/lang/AbstractStringBuilder" "count" "I" (.int 14) ∧ Arv Z h vb kb .byte (16 : Int32) [(.int 45), (.int 45), (.int 113), (.int 117), (.int 101), (.int 117), (.int 101), (.int 32), (.int 60), (.int 110), (.int 97), (.int 109), (.int 101), (.int 62), (.int 0), (.int 0)] (.int 0)
set_option maxRecDepth 65536 in
set_option maxHeartbeats 40000000 in
theorem rmSAq3 (l : Launch) (Z : State) (a0 : Array Value) (hw : ∀ d ∈ tables_1, d.before a0 Z = true) (ws : List Jvm.Cond) (o0 : Addr) (o1 : Addr) (vb : Addr) (kb : ClassId) (sv : Addr) (ks : ClassId) (cs : Int32) (h0 : Heap) (n0 : Nat) (Z0 : n0 ≤ h0.size) (E_o0 : Exa Z h0 o0 "java/lang/StringBuilder") (F_value_o0 : Fld Z h0 o0 "java/lang/AbstractStringBuilder" "value" "[B" (.ref vb)) (F_coder_o0 : Fld Z h0 o0 "java/lang/AbstractStringBuilder" "coder" "B" (.int 0)) (F_count_o0 : Fld Z h0 o0 "java/lang/AbstractStringBuilder" "count" "I" (.int 8)) (E_o1 : Exa Z h0 o1 "java/lang/String") (F_value_o1 : Fld Z h0 o1 "java/lang/String" "value" "[B" (.ref sv)) (F_coder_o1 : Fld Z h0 o1 "java/lang/String" "coder" "B" (.int 0)) (V_vb : Arv Z h0 vb kb .byte (16 : Int32) [(.int 45), (.int 45), (.int 113), (.int 117), (.int 101), (.int 117), (.int 101), (.int 32), (.int 0), (.int 0), (.int 0), (.int 0), (.int 0), (.int 0), (.int 0), (.int 0)] (.int 0)) (V_sv : Arv Z h0 sv ks .byte (6 : Int32) [(.int 60), (.int 110), (.int 97), (.int 109), (.int 101), (.int 62)] (.int 0)) (S_COMPACT_STRINGS : Sta Z h0 "java/lang/String" "COMPACT_STRINGS" "Z" (.int cs)) (g_o0 : n0 ≤ o0) (g_vb : n0 ≤ vb) (ne_o0_vb : o0 ≠ vb) (ne_sv_vb : sv ≠ vb) (ne_o1_vb : o1 ≠ vb) (ne_o1_o0 : o1 ≠ o0) (ne_sv_o0 : sv ≠ o0) (hcs : ¬ cs = (0 : Int32)) :
    MetFree l (⟨"java/lang/StringBuilder", "append", "(Ljava/lang/String;)Ljava/lang/StringBuilder;"⟩ : MethodName) (head1 (Jvm.Cond.code (⟨"java/lang/StringBuilder", "append", "(Ljava/lang/String;)Ljava/lang/StringBuilder;"⟩ : MethodName) jdk_67_method_7_code 2 (some (.object "java/lang/StringBuilder")) :: ws) ({ frames := 4, cells := 0, slots := 0, locals := 61 } : Room)) (fun a U => a = #[(.ref o0), (.ref o1)] ∧ Z.Warmed39 U.vm ∧ U.heap = h0) (fun _ _ _ _ _ => True) (fun _ U o U' => ∃ v L, o = .returned v ∧ Q_rmSAq3 Z o0 o1 vb kb sv ks cs h0 n0 v U'.heap L ∧ FrameEnd U o U' L ({ frames := 4, cells := 0, slots := 0, locals := 61 } : Room).cells ({ frames := 4, cells := 0, slots := 0, locals := 61 } : Room).slots) := by
  refine MetFree.of_bodySF (plainFor_of_name pn_java_lang_StringBuilder) hisR ?_
  intro p e s m args below meth c s₁ Bd hml0 hP hK
  obtain ⟨rfl, hZ, hh⟩ := hP
  have hx := Bd.exec
  have hby := Bd.bytes
  have hml : c.maxLocals = 2 := hml0
  have hown : s.vm.findClass "java/lang/StringBuilder" = some m.cls := findClass_of_methodNamed Bd.named
  have hnm := (name_of_methodNamed Bd.named Bd.method).1
  have hlk := Bd.notSynchronized
  have X0 : Stand p l e ({ frames := 4, cells := 0, slots := 0, locals := 61 } : Room) s m #[(.ref o0), (.ref o1)] below meth c s₁ [] 0 0 := Stand.of_body Bd
  have e0 : s₁.heap = h0 := by rw [← hh, Bd.state]; rfl
  have N0 := Fr.nil n0
  show own_G p.tables e below s (Q_rmSAq3 Z o0 o1 vb kb sv ks cs h0 n0) ({ frames := 4, cells := 0, slots := 0, locals := 61 } : Room).cells ({ frames := 4, cells := 0, slots := 0, locals := 61 } : Room).slots _
  refine own_thr (a := s₁.setTop (mkF m 0 #[.val (.ref o0), .val (.ref o1)] [])) (fun t kt => castTop (ef_rmSAq3 m o0 o1) kt) ?_
  refine own_thr (a := s₁.setTop (mkF m 2 #[.val (.ref o0), .val (.ref o1)] [(.ref o1), (.ref o0)])) (fun t kt => ?_) ?_
  · show Steps p.tables e below (s₁.setTop (mkF m 0 #[.val (.ref o0), .val (.ref o1)] [])) _
    refine XS.aloadN X0.here hx rfl (hb hby d5_0) rfl rfl ?_
    refine XS.aloadN X0.here hx rfl (hb hby d5_1) rfl rfl ?_
    exact kt
  obtain ⟨_, _, ⟨T1, L1, k1, n1⟩, -, X1, ⟨Lc1, hQ1, l1, y1, z1⟩, st1⟩ := superBack X0 hx hZ (y := (⟨"java/lang/AbstractStringBuilder", "append", "(Ljava/lang/String;)Ljava/lang/AbstractStringBuilder;"⟩ : MethodName)) hown (hw _ (List.mem_of_getElem? (i := 37) rfl)) (own_same (y := (⟨"java/lang/AbstractStringBuilder", "append", "(Ljava/lang/String;)Ljava/lang/AbstractStringBuilder;"⟩ : MethodName)) (hw _ (List.mem_of_getElem? (i := 62) rfl)) rfl (hw _ (List.mem_of_getElem? (i := 38) rfl)) (by decide)) (hw _ (List.mem_of_getElem? (i := 38) rfl)) (hw _ (List.mem_of_getElem? (i := 39) rfl)) (by decide) (backOf (W := 0) (rmAAq3 l Z a0 hw [] o0 o1 vb kb sv ks cs h0 n0 Z0 E_o0 F_value_o0 F_coder_o0 F_count_o0 E_o1 F_value_o1 F_coder_o1 V_vb V_sv S_COMPACT_STRINGS g_o0 g_vb ne_o0_vb ne_sv_vb ne_o1_vb ne_o1_o0 ne_sv_o0 hcs) hZ (hw _ (List.mem_of_getElem? (i := 41) rfl)) (hw _ (List.mem_of_getElem? (i := 18) rfl)) (by decide) (by decide)) e0 (Ins.self E_o0) (g := (mkF m 2 #[.val (.ref o0), .val (.ref o1)] [(.ref o1), (.ref o0)])) rfl (by rw [hml]; rfl) (hw _ (List.mem_of_getElem? (i := 41) rfl)) (argsL := [(.ref o1)]) (rest := []) (lenOf pd__28Ljava_2flang_2fString_3b_29Ljava_2flang_2fAbstractStringBuilder_3b rfl) rfl (by show 2 * 0 + _ ≤ _; exact Nat.le_of_eq rfl) (hb hby d5_2) (fun _ _ => ⟨rfl, e0, (by decide : 0 + 0 ≤ _), (by decide : 0 + 0 ≤ _)⟩)
  dsimp only [Pt.U, Pt.locs, Pt.cells, Pt.slots] at X1 l1 y1 z1 st1 hQ1
  obtain ⟨rfl, N1q, K1, o1_0, o1_1, o1_2, o1_3, o1_4⟩ := hQ1
  have Z2 : n0 ≤ T1.heap.size := Nat.le_trans Z0 K1.1
  have Z2h : h0.size ≤ T1.heap.size := Nat.le_trans (Nat.le_refl h0.size) K1.1
  obtain ⟨lc1, X1, N1⟩ := own_pack X1 l1 y1 z1 N0 N1q (C := 0) (S' := 0) rfl rfl
  refine own_thr (a := T1.setTop (mkF m 5 #[.val (.ref o0), .val (.ref o1)] [(.ref o0)])) (fun t kt => st1.trans kt) ?_
  refine own_thr (a := T1.setTop (mkF m 7 #[.val (.ref o0), .val (.ref o1)] [(.ref o0)])) (fun t kt => ?_) ?_
  · show Steps p.tables e below (T1.setTop (mkF m 5 #[.val (.ref o0), .val (.ref o1)] [(.ref o0)])) _
    refine XS.pop X1.here hx rfl (hb hby d5_5) rfl rfl ?_
    refine XS.aloadN X1.here hx rfl (hb hby d5_6) rfl rfl ?_
    exact kt
  exact own_end X1 hlk (v := some (.ref o0)) (fun h => by rw [Bd.returns] at h; cases h) (fun fs hr => retA X1 hx Bd.returns rfl rfl (hb hby d5_7) hr) ⟨rfl, N1, ((Keep.refl h0 [o0, vb]).trans K1 (allS (Or.inl (List.mem_of_getElem? (i := 0) rfl)) (allS (Or.inl (List.mem_of_getElem? (i := 1) rfl)) all0))), o1_0, o1_1, o1_2, o1_3, o1_4⟩ (by decide : 0 ≤ _) (by decide : 0 ≤ _)
theorem ef_rmALq (m : MethodId) (o0 : Addr)  : entryFrame m #[(.ref o0)] 1 = mkF m 0 #[.val (.ref o0)] [] := by first |  (simp [entryFrame, mkF, argsToLocals, Value.category]; done) | rfl
def Q_rmALq (Z : State) (o0 : Addr) (h0 : Heap) (n0 : Nat) (v : Option Value) (h : Heap) (L : List Loc) : Prop := v = some (.int 14) ∧ Fr n0 L ∧ h = h0
set_option maxRecDepth 65536 in
set_option maxHeartbeats 40000000 in
theorem rmALq (l : Launch) (Z : State) (a0 : Array Value) (hw : ∀ d ∈ tables_1, d.before a0 Z = true) (ws : List Jvm.Cond) (o0 : Addr) (h0 : Heap) (n0 : Nat) (Z0 : n0 ≤ h0.size) (F_count_o0 : Fld Z h0 o0 "java/lang/AbstractStringBuilder" "count" "I" (.int 14)) :
    MetFree l (⟨"java/lang/AbstractStringBuilder", "length", "()I"⟩ : MethodName) (head1 (Jvm.Cond.code (⟨"java/lang/AbstractStringBuilder", "length", "()I"⟩ : MethodName) jdk_68_method_6_code 1 (some .int) :: ws) ({ frames := 0, cells := 0, slots := 0, locals := 0 } : Room)) (fun a U => a = #[(.ref o0)] ∧ Z.Warmed39 U.vm ∧ U.heap = h0) (fun _ _ _ _ _ => True) (fun _ U o U' => ∃ v L, o = .returned v ∧ Q_rmALq Z o0 h0 n0 v U'.heap L ∧ FrameEnd U o U' L ({ frames := 0, cells := 0, slots := 0, locals := 0 } : Room).cells ({ frames := 0, cells := 0, slots := 0, locals := 0 } : Room).slots) := by
  refine MetFree.of_bodySF (plainFor_of_name pn_java_lang_AbstractStringBuilder) hisR ?_
  intro p e s m args below meth c s₁ Bd hml0 hP hK
  obtain ⟨rfl, hZ, hh⟩ := hP
  have hx := Bd.exec
  have hby := Bd.bytes
  have hml : c.maxLocals = 1 := hml0
  have hown : s.vm.findClass "java/lang/AbstractStringBuilder" = some m.cls := findClass_of_methodNamed Bd.named
  have hnm := (name_of_methodNamed Bd.named Bd.method).1
  have hlk := Bd.notSynchronized
  have X0 : Stand p l e ({ frames := 0, cells := 0, slots := 0, locals := 0 } : Room) s m #[(.ref o0)] below meth c s₁ [] 0 0 := Stand.of_body Bd
  have e0 : s₁.heap = h0 := by rw [← hh, Bd.state]; rfl
  have N0 := Fr.nil n0
  show own_G p.tables e below s (Q_rmALq Z o0 h0 n0) ({ frames := 0, cells := 0, slots := 0, locals := 0 } : Room).cells ({ frames := 0, cells := 0, slots := 0, locals := 0 } : Room).slots _
  refine own_thr (a := s₁.setTop (mkF m 0 #[.val (.ref o0)] [])) (fun t kt => castTop (ef_rmALq m o0) kt) ?_
  refine own_thr (a := s₁.setTop (mkF m 1 #[.val (.ref o0)] [(.ref o0)])) (fun t kt => ?_) ?_
  · show Steps p.tables e below (s₁.setTop (mkF m 0 #[.val (.ref o0)] [])) _
    refine XS.aloadN X0.here hx rfl (hb hby d18_0) rfl rfl ?_
    exact kt
  obtain ⟨T1, X1, e1, st1⟩ := getF X0 hx hZ hown (host := "") (Or.inl (hw _ (List.mem_of_getElem? (i := 57) rfl))) Via.refl e0 F_count_o0 (g := (mkF m 1 #[.val (.ref o0)] [(.ref o0)])) rfl rfl (hb hby d18_1)
  refine own_thr (a := T1.setTop (mkF m 4 #[.val (.ref o0)] [(.int 14)])) (fun t kt => st1 t kt) ?_
  exact own_end X1 hlk (v := some (.int 14)) (fun h => by rw [Bd.returns] at h; cases h) (fun fs hr => retI X1 hx Bd.returns (hb hby d18_4) hr) (by rw [e1]; exact ⟨rfl, N0, rfl⟩) (by decide : 0 ≤ _) (by decide : 0 ≤ _)
theorem ef_rmSLq (m : MethodId) (o0 : Addr)  : entryFrame m #[(.ref o0)] 1 = mkF m 0 #[.val (.ref o0)] [] := by first |  (simp [entryFrame, mkF, argsToLocals, Value.category]; done) | rfl
def Q_rmSLq (Z : State) (o0 : Addr) (h0 : Heap) (n0 : Nat) (v : Option Value) (h : Heap) (L : List Loc) : Prop := v = some (.int 14) ∧ Fr n0 L ∧ h = h0
set_option maxRecDepth 65536 in
set_option maxHeartbeats 40000000 in
theorem rmSLq (l : Launch) (Z : State) (a0 : Array Value) (hw : ∀ d ∈ tables_1, d.before a0 Z = true) (ws : List Jvm.Cond) (o0 : Addr) (h0 : Heap) (n0 : Nat) (Z0 : n0 ≤ h0.size) (E_o0 : Exa Z h0 o0 "java/lang/StringBuilder") (F_count_o0 : Fld Z h0 o0 "java/lang/AbstractStringBuilder" "count" "I" (.int 14)) :
    MetFree l (⟨"java/lang/StringBuilder", "length", "()I"⟩ : MethodName) (head1 (Jvm.Cond.code (⟨"java/lang/StringBuilder", "length", "()I"⟩ : MethodName) jdk_67_method_93_code 1 (some .int) :: ws) ({ frames := 1, cells := 0, slots := 0, locals := 12 } : Room)) (fun a U => a = #[(.ref o0)] ∧ Z.Warmed39 U.vm ∧ U.heap = h0) (fun _ _ _ _ _ => True) (fun _ U o U' => ∃ v L, o = .returned v ∧ Q_rmSLq Z o0 h0 n0 v U'.heap L ∧ FrameEnd U o U' L ({ frames := 1, cells := 0, slots := 0, locals := 12 } : Room).cells ({ frames := 1, cells := 0, slots := 0, locals := 12 } : Room).slots) := by
  refine MetFree.of_bodySF (plainFor_of_name pn_java_lang_StringBuilder) hisR ?_
  intro p e s m args below meth c s₁ Bd hml0 hP hK
  obtain ⟨rfl, hZ, hh⟩ := hP
  have hx := Bd.exec
  have hby := Bd.bytes
  have hml : c.maxLocals = 1 := hml0
  have hown : s.vm.findClass "java/lang/StringBuilder" = some m.cls := findClass_of_methodNamed Bd.named
  have hnm := (name_of_methodNamed Bd.named Bd.method).1
  have hlk := Bd.notSynchronized
  have X0 : Stand p l e ({ frames := 1, cells := 0, slots := 0, locals := 12 } : Room) s m #[(.ref o0)] below meth c s₁ [] 0 0 := Stand.of_body Bd
  have e0 : s₁.heap = h0 := by rw [← hh, Bd.state]; rfl
  have N0 := Fr.nil n0
  show own_G p.tables e below s (Q_rmSLq Z o0 h0 n0) ({ frames := 1, cells := 0, slots := 0, locals := 12 } : Room).cells ({ frames := 1, cells := 0, slots := 0, locals := 12 } : Room).slots _
  refine own_thr (a := s₁.setTop (mkF m 0 #[.val (.ref o0)] [])) (fun t kt => castTop (ef_rmSLq m o0) kt) ?_
  refine own_thr (a := s₁.setTop (mkF m 1 #[.val (.ref o0)] [(.ref o0)])) (fun t kt => ?_) ?_
  · show Steps p.tables e below (s₁.setTop (mkF m 0 #[.val (.ref o0)] [])) _
    refine XS.aloadN X0.here hx rfl (hb hby d17_0) rfl rfl ?_
    exact kt
  obtain ⟨_, _, ⟨T1, L1, k1, n1⟩, -, X1, ⟨Lc1, hQ1, l1, y1, z1⟩, st1⟩ := superBack X0 hx hZ (y := (⟨"java/lang/AbstractStringBuilder", "length", "()I"⟩ : MethodName)) hown (hw _ (List.mem_of_getElem? (i := 115) rfl)) (own_same (y := (⟨"java/lang/AbstractStringBuilder", "length", "()I"⟩ : MethodName)) (hw _ (List.mem_of_getElem? (i := 62) rfl)) rfl (hw _ (List.mem_of_getElem? (i := 111) rfl)) (by decide)) (hw _ (List.mem_of_getElem? (i := 111) rfl)) (hw _ (List.mem_of_getElem? (i := 39) rfl)) (by decide) (backOf (W := 0) (rmALq l Z a0 hw [] o0 h0 n0 Z0 F_count_o0) hZ (hw _ (List.mem_of_getElem? (i := 116) rfl)) (hw _ (List.mem_of_getElem? (i := 18) rfl)) (by decide) (by decide)) e0 (Ins.self E_o0) (g := (mkF m 1 #[.val (.ref o0)] [(.ref o0)])) rfl (by rw [hml]; rfl) (hw _ (List.mem_of_getElem? (i := 116) rfl)) (argsL := []) (rest := []) (lenOf pd__28_29I rfl) rfl (by show 2 * 0 + _ ≤ _; exact Nat.le_of_eq rfl) (hb hby d17_1) (fun _ _ => ⟨rfl, e0, (by decide : 0 + 0 ≤ _), (by decide : 0 + 0 ≤ _)⟩)
  dsimp only [Pt.U, Pt.locs, Pt.cells, Pt.slots] at X1 l1 y1 z1 st1 hQ1
  obtain ⟨rfl, N1q, e1⟩ := hQ1
  obtain ⟨lc1, X1, N1⟩ := own_pack X1 l1 y1 z1 N0 N1q (C := 0) (S' := 0) rfl rfl
  refine own_thr (a := T1.setTop (mkF m 4 #[.val (.ref o0)] [(.int 14)])) (fun t kt => st1.trans kt) ?_
  exact own_end X1 hlk (v := some (.int 14)) (fun h => by rw [Bd.returns] at h; cases h) (fun fs hr => retI X1 hx Bd.returns (hb hby d17_4) hr) (by rw [e1]; exact ⟨rfl, N1, rfl⟩) (by decide : 0 ≤ _) (by decide : 0 ≤ _)
theorem d29_0 : decode jdk_65_method_133_code 0 = .ok (.iload_n 1, 1) := by decide +kernel
theorem d29_1 : decode jdk_65_method_133_code 1 = .ok (.iload_n 2, 1) := by decide +kernel
theorem pd__28II_29V : parseMethodDescriptor "(II)V" = some ⟨[.int, .int], none⟩ := by decide +kernel
theorem d29_2 : decode jdk_65_method_133_code 2 = .ok (.invokestatic 343, 3) := by decide +kernel
theorem d29_5 : decode jdk_65_method_133_code 5 = .ok (.iload_n 2, 1) := by decide +kernel
theorem d29_6 : decode jdk_65_method_133_code 6 = .ok (.iload_n 1, 1) := by decide +kernel
theorem d29_7 : decode jdk_65_method_133_code 7 = .ok (.isub, 1) := by decide +kernel
theorem d29_8 : decode jdk_65_method_133_code 8 = .ok (.istore_n 3, 1) := by decide +kernel
theorem d29_9 : decode jdk_65_method_133_code 9 = .ok (.iload_n 3, 1) := by decide +kernel
theorem d29_10 : decode jdk_65_method_133_code 10 = .ok (.newarray .byte, 2) := by decide +kernel
theorem d29_12 : decode jdk_65_method_133_code 12 = .ok (.astore 4, 2) := by decide +kernel
theorem d29_14 : decode jdk_65_method_133_code 14 = .ok (.aload_n 0, 1) := by decide +kernel
theorem d29_15 : decode jdk_65_method_133_code 15 = .ok (.iload_n 1, 1) := by decide +kernel
theorem d29_16 : decode jdk_65_method_133_code 16 = .ok (.aload 4, 2) := by decide +kernel
theorem d29_18 : decode jdk_65_method_133_code 18 = .ok (.iconst 0, 1) := by decide +kernel
theorem d29_19 : decode jdk_65_method_133_code 19 = .ok (.aload_n 0, 1) := by decide +kernel
theorem d29_20 : decode jdk_65_method_133_code 20 = .ok (.arraylength, 1) := by decide +kernel
theorem d29_21 : decode jdk_65_method_133_code 21 = .ok (.iload_n 1, 1) := by decide +kernel
theorem d29_22 : decode jdk_65_method_133_code 22 = .ok (.isub, 1) := by decide +kernel
theorem d29_23 : decode jdk_65_method_133_code 23 = .ok (.iload_n 3, 1) := by decide +kernel
theorem pd__28II_29I : parseMethodDescriptor "(II)I" = some ⟨[.int, .int], some .int⟩ := by decide +kernel
theorem d29_24 : decode jdk_65_method_133_code 24 = .ok (.invokestatic 304, 3) := by decide +kernel
theorem d29_27 : decode jdk_65_method_133_code 27 = .ok (.invokestatic 150, 3) := by decide +kernel
theorem d29_30 : decode jdk_65_method_133_code 30 = .ok (.aload 4, 2) := by decide +kernel
theorem d29_32 : decode jdk_65_method_133_code 32 = .ok (.areturn, 1) := by decide +kernel
theorem ef_rmRBq (m : MethodId) (o0 : Addr)  : entryFrame m #[(.ref o0), (.int 0), (.int 14)] 5 = mkF m 0 #[.val (.ref o0), .val (.int 0), .val (.int 14), .unset, .unset] [] := by first |  (simp [entryFrame, mkF, argsToLocals, Value.category]; done) | rfl
def Q_rmRBq (Z : State) (o0 : Addr) (k0 : ClassId) (h0 : Heap) (n0 : Nat) (v : Option Value) (h : Heap) (L : List Loc) : Prop := ∃ r : Addr, v = some (.ref r) ∧ Fr n0 L ∧ Keep h0 h [] ∧ (∃ k : ClassId, Arv Z h r k .byte (14 : Int32) [(.int 45), (.int 45), (.int 113), (.int 117), (.int 101), (.int 117), (.int 101), (.int 32), (.int 60), (.int 110), (.int 97), (.int 109), (.int 101), (.int 62)] (.int 0)) ∧ h0.size ≤ r
set_option maxRecDepth 65536 in
set_option maxHeartbeats 40000000 in
theorem rmRBq (l : Launch) (Z : State) (a0 : Array Value) (hw : ∀ d ∈ tables_1, d.before a0 Z = true) (ws : List Jvm.Cond) (o0 : Addr) (k0 : ClassId) (h0 : Heap) (n0 : Nat) (Z0 : n0 ≤ h0.size) (V_o0 : Arv Z h0 o0 k0 .byte (16 : Int32) [(.int 45), (.int 45), (.int 113), (.int 117), (.int 101), (.int 117), (.int 101), (.int 32), (.int 60), (.int 110), (.int 97), (.int 109), (.int 101), (.int 62), (.int 0), (.int 0)] (.int 0)) (E_o0 : Exa Z h0 o0 "[B") :
    MetFree l (⟨"java/util/Arrays", "copyOfRangeByte", "([BII)[B"⟩ : MethodName) (head1 (Jvm.Cond.code (⟨"java/util/Arrays", "copyOfRangeByte", "([BII)[B"⟩ : MethodName) jdk_65_method_133_code 5 (some (.array .byte)) :: ws) ({ frames := 1, cells := 1, slots := 14, locals := 18 } : Room)) (fun a U => a = #[(.ref o0), (.int 0), (.int 14)] ∧ Z.Warmed39 U.vm ∧ U.heap = h0) (fun _ _ _ _ _ => True) (fun _ U o U' => ∃ v L, o = .returned v ∧ Q_rmRBq Z o0 k0 h0 n0 v U'.heap L ∧ FrameEnd U o U' L ({ frames := 1, cells := 1, slots := 14, locals := 18 } : Room).cells ({ frames := 1, cells := 1, slots := 14, locals := 18 } : Room).slots) := by
  refine MetFree.of_bodySF (plainFor_of_name pn_java_util_Arrays) hisR ?_
  intro p e s m args below meth c s₁ Bd hml0 hP hK
  obtain ⟨rfl, hZ, hh⟩ := hP
  have hx := Bd.exec
  have hby := Bd.bytes
  have hml : c.maxLocals = 5 := hml0
  have hown : s.vm.findClass "java/util/Arrays" = some m.cls := findClass_of_methodNamed Bd.named
  have hnm := (name_of_methodNamed Bd.named Bd.method).1
  have hlk := Bd.notSynchronized
  have X0 : Stand p l e ({ frames := 1, cells := 1, slots := 14, locals := 18 } : Room) s m #[(.ref o0), (.int 0), (.int 14)] below meth c s₁ [] 0 0 := Stand.of_body Bd
  have e0 : s₁.heap = h0 := by rw [← hh, Bd.state]; rfl
  have N0 := Fr.nil n0
  show own_G p.tables e below s (Q_rmRBq Z o0 k0 h0 n0) ({ frames := 1, cells := 1, slots := 14, locals := 18 } : Room).cells ({ frames := 1, cells := 1, slots := 14, locals := 18 } : Room).slots _
  refine own_thr (a := s₁.setTop (mkF m 0 #[.val (.ref o0), .val (.int 0), .val (.int 14), .unset, .unset] [])) (fun t kt => castTop (ef_rmRBq m o0) kt) ?_
  refine own_thr (a := s₁.setTop (mkF m 2 #[.val (.ref o0), .val (.int 0), .val (.int 14), .unset, .unset] [(.int 14), (.int 0)])) (fun t kt => ?_) ?_
  · show Steps p.tables e below (s₁.setTop (mkF m 0 #[.val (.ref o0), .val (.int 0), .val (.int 14), .unset, .unset] [])) _
    refine XS.iloadN X0.here hx rfl (hb hby d29_0) rfl ?_
    refine XS.iloadN X0.here hx rfl (hb hby d29_1) rfl ?_
    exact kt
  obtain ⟨_, _, ⟨T1, L1, k1, n1⟩, -, X1, ⟨Lc1, hQ1, l1, y1, z1⟩, st1⟩ := Jvm.LawKit.callS X0 hx (y := (⟨"java/util/Arrays", "checkLength", "(II)V"⟩ : MethodName)) hown (mvT hZ (hw _ (List.mem_of_getElem? (i := 179) rfl))) (mvT hZ (hw _ (List.mem_of_getElem? (i := 180) rfl))) (mvT hZ (hw _ (List.mem_of_getElem? (i := 124) rfl))) (mvT hZ (hw _ (List.mem_of_getElem? (i := 181) rfl))) (by decide) (backOf (W := 0) (rmCK l Z a0 hw [] (0 : Int32) (14 : Int32) h0 n0 Z0 (by decide)) hZ (hw _ (List.mem_of_getElem? (i := 181) rfl)) (hw _ (List.mem_of_getElem? (i := 124) rfl)) (by decide) (by decide)) (g := (mkF m 2 #[.val (.ref o0), .val (.int 0), .val (.int 14), .unset, .unset] [(.int 14), (.int 0)])) rfl (by rw [hml]; rfl) (argsL := [(.int 0), (.int 14)]) (rest := []) (lenOf pd__28II_29V rfl) rfl (by show 2 * 0 + _ ≤ _; exact Nat.le_of_eq rfl) (hb hby d29_2) (fun _ _ => ⟨rfl, e0, (by decide : 0 + 0 ≤ _), (by decide : 0 + 0 ≤ _)⟩)
  dsimp only [Pt.U, Pt.locs, Pt.cells, Pt.slots] at X1 l1 y1 z1 st1 hQ1
  obtain ⟨rfl, N1q, e1⟩ := hQ1
  obtain ⟨lc1, X1, N1⟩ := own_pack X1 l1 y1 z1 N0 N1q (C := 0) (S' := 0) rfl rfl
  refine own_thr (a := T1.setTop (mkF m 5 #[.val (.ref o0), .val (.int 0), .val (.int 14), .unset, .unset] [])) (fun t kt => st1 t kt) ?_
  refine own_thr (a := T1.setTop (mkF m 10 #[.val (.ref o0), .val (.int 0), .val (.int 14), .val (.int 14), .unset] [(.int 14)])) (fun t kt => ?_) ?_
  · show Steps p.tables e below (T1.setTop (mkF m 5 #[.val (.ref o0), .val (.int 0), .val (.int 14), .unset, .unset] [])) _
    refine XS.iloadN X1.here hx rfl (hb hby d29_5) rfl ?_
    refine XS.iloadN X1.here hx rfl (hb hby d29_6) rfl ?_
    refine XS.isub X1.here hx rfl (hb hby d29_7) rfl ?_
    refine XS.istoreN X1.here hx rfl (hb hby d29_8) rfl (l' := #[.val (.ref o0), .val (.int 0), .val (.int 14), .val (.int 14), .unset]) rfl ?_
    refine XS.iloadN X1.here hx rfl (hb hby d29_9) rfl ?_
    exact kt
  obtain ⟨T2, h2, k2, X2, e2, E2, A2, AE2, st2⟩ := newPE X1 hx hZ (hw _ (List.mem_of_getElem? (i := 25) rfl)) e1 (g := (mkF m 10 #[.val (.ref o0), .val (.int 0), .val (.int 14), .val (.int 14), .unset] [(.int 14)])) rfl (hb hby d29_10) rfl (by decide) (cap := 14) (by decide) (by decide) (by decide : 0 + 1 ≤ _) (by decide : 0 + 14 ≤ _) rfl
  obtain ⟨b2, g2⟩ : ∃ z, z = h0.size := ⟨_, rfl⟩
  rw [← g2] at A2 st2 AE2
  have g_b2 : n0 ≤ b2 := Nat.le_trans Z0 (Nat.le_of_eq g2.symm)
  have sz_b2 : h0.size ≤ b2 := Nat.le_trans (Nat.le_refl h0.size) (Nat.le_of_eq g2.symm)
  have lt_o0_b2 : o0 < b2 := Nat.lt_of_lt_of_le V_o0.lt (Nat.le_of_eq g2.symm)
  have ne_o0_b2 : o0 ≠ b2 := Nat.ne_of_lt lt_o0_b2
  have V_b2 : Arv Z h2 b2 k2 .byte (14 : Int32) [(.int 0), (.int 0), (.int 0), (.int 0), (.int 0), (.int 0), (.int 0), (.int 0), (.int 0), (.int 0), (.int 0), (.int 0), (.int 0), (.int 0)] (.int 0) := (Arv.new A2 (by decide)).pad (pad_rep [] (.int 0) 14)
  have Z3 : n0 ≤ h2.size := Nat.le_trans Z0 E2.1
  have Z3h : h0.size ≤ h2.size := Nat.le_trans (Nat.le_refl h0.size) E2.1
  refine own_thr (a := T2.setTop (mkF m 12 #[.val (.ref o0), .val (.int 0), .val (.int 14), .val (.int 14), .unset] [(.ref b2)])) (fun t kt => st2 t kt) ?_
  refine own_thr (a := T2.setTop (mkF m 20 #[.val (.ref o0), .val (.int 0), .val (.int 14), .val (.int 14), .val (.ref b2)] [(.ref o0), (.int 0), (.ref b2), (.int 0), (.ref o0)])) (fun t kt => ?_) ?_
  · show Steps p.tables e below (T2.setTop (mkF m 12 #[.val (.ref o0), .val (.int 0), .val (.int 14), .val (.int 14), .unset] [(.ref b2)])) _
    refine XS.astore X2.here hx rfl (hb hby d29_12) rfl rfl (l' := #[.val (.ref o0), .val (.int 0), .val (.int 14), .val (.int 14), .val (.ref b2)]) rfl ?_
    refine XS.aloadN X2.here hx rfl (hb hby d29_14) rfl rfl ?_
    refine XS.iloadN X2.here hx rfl (hb hby d29_15) rfl ?_
    refine XS.aload X2.here hx rfl (hb hby d29_16) rfl rfl ?_
    refine XS.iconst X2.here hx rfl (hb hby d29_18) ?_
    refine XS.aloadN X2.here hx rfl (hb hby d29_19) rfl rfl ?_
    exact kt
  obtain ⟨cl4, Ar4, -, S4, M4, -, -⟩ := id (V_o0.ext E2)
  refine own_thr (a := T2.setTop (mkF m 24 #[.val (.ref o0), .val (.int 0), .val (.int 14), .val (.int 14), .val (.ref b2)] [(.int 14), (.int 16), (.int 0), (.ref b2), (.int 0), (.ref o0)])) (fun t kt => ?_) ?_
  · show Steps p.tables e below (T2.setTop (mkF m 20 #[.val (.ref o0), .val (.int 0), .val (.int 14), .val (.int 14), .val (.ref b2)] [(.ref o0), (.int 0), (.ref b2), (.int 0), (.ref o0)])) _
    refine X2.arraylength hx (by rw [e2]; exact Ar4.1) (State.isArrayOf_alike hZ.alike Ar4.2.1) (g := (mkF m 20 #[.val (.ref o0), .val (.int 0), .val (.int 14), .val (.int 14), .val (.ref b2)] [(.ref o0), (.int 0), (.ref b2), (.int 0), (.ref o0)])) rfl rfl (hb hby d29_20) _ ?_
    rw [len_of S4 M4]
    refine XS.iloadN X2.here hx rfl (hb hby d29_21) rfl ?_
    refine XS.isub X2.here hx rfl (hb hby d29_22) rfl ?_
    refine XS.iloadN X2.here hx rfl (hb hby d29_23) rfl ?_
    exact kt
  obtain ⟨_, _, ⟨T5, L5, k5, n5⟩, -, X5, ⟨Lc5, hQ5, l5, y5, z5⟩, st5⟩ := Jvm.LawKit.callS X2 hx (y := (⟨"java/lang/Math", "min", "(II)I"⟩ : MethodName)) hown (mvT hZ (hw _ (List.mem_of_getElem? (i := 182) rfl))) (mvT hZ (hw _ (List.mem_of_getElem? (i := 183) rfl))) (mvT hZ (hw _ (List.mem_of_getElem? (i := 184) rfl))) (mvT hZ (hw _ (List.mem_of_getElem? (i := 185) rfl))) (by decide) (backOf (W := 4) (rmMN l Z a0 hw [] (16 : Int32) (14 : Int32) h2 n0 Z3) hZ (hw _ (List.mem_of_getElem? (i := 185) rfl)) (hw _ (List.mem_of_getElem? (i := 184) rfl)) (by decide) (by decide)) (g := (mkF m 24 #[.val (.ref o0), .val (.int 0), .val (.int 14), .val (.int 14), .val (.ref b2)] [(.int 14), (.int 16), (.int 0), (.ref b2), (.int 0), (.ref o0)])) rfl (by rw [hml]; rfl) (argsL := [(.int 16), (.int 14)]) (rest := [(.int 0), (.ref b2), (.int 0), (.ref o0)]) (lenOf pd__28II_29I rfl) rfl (by show 2 * 0 + _ ≤ _; exact Nat.le_of_eq rfl) (hb hby d29_24) (fun _ _ => ⟨rfl, e2, (by decide : 1 + 0 ≤ _), (by decide : 14 + 0 ≤ _)⟩)
  dsimp only [Pt.U, Pt.locs, Pt.cells, Pt.slots] at X5 l5 y5 z5 st5 hQ5
  obtain ⟨rfl, N5q, e5⟩ := hQ5
  obtain ⟨lc5, X5, N5⟩ := own_pack X5 l5 y5 z5 N1 N5q (C := 1) (S' := 14) rfl rfl
  refine own_thr (a := T5.setTop (mkF m 27 #[.val (.ref o0), .val (.int 0), .val (.int 14), .val (.int 14), .val (.ref b2)] [(.int (f_rmMN (16 : Int32) (14 : Int32))), (.int 0), (.ref b2), (.int 0), (.ref o0)])) (fun t kt => st5 t kt) ?_
  have emin : (f_rmMN (16 : Int32) (14 : Int32)) = (14 : Int32) := by decide
  rw [emin]
  obtain ⟨T6, h6, L6, X6, e6, N6, K6, V6, st6⟩ := cpA X5 hx hZ hown (hw _ (List.mem_of_getElem? (i := 186) rfl)) (hw _ (List.mem_of_getElem? (i := 83) rfl)) (hw _ (List.mem_of_getElem? (i := 81) rfl)) (hw _ (List.mem_of_getElem? (i := 82) rfl)) e5 (V_o0.ext E2) V_b2 (Or.inl ⟨rfl, rfl⟩) (sp := (0 : Int32)) (dp := (0 : Int32)) (nn := (14 : Int32)) (by decide) (by decide) (by decide) (by decide) (by decide) (us := [(.int 45), (.int 45), (.int 113), (.int 117), (.int 101), (.int 117), (.int 101), (.int 32), (.int 60), (.int 110), (.int 97), (.int 109), (.int 101), (.int 62)]) rfl (by decide) N5 g_b2 (g := (mkF m 27 #[.val (.ref o0), .val (.int 0), .val (.int 14), .val (.int 14), .val (.ref b2)] [(.int 14), (.int 0), (.ref b2), (.int 0), (.ref o0)])) rfl (by rw [hml]; rfl) rfl (hb hby d29_27) (by decide) (W := 0) (by show 2 * 0 + _ ≤ _; exact Nat.le_of_eq rfl) (by decide)
  have Z7 : n0 ≤ h6.size := Nat.le_trans Z3 K6.1
  have Z7h : h0.size ≤ h6.size := Nat.le_trans Z3h K6.1
  have Vl6 : Arv Z h6 b2 k2 .byte (14 : Int32) [(.int 45), (.int 45), (.int 113), (.int 117), (.int 101), (.int 117), (.int 101), (.int 32), (.int 60), (.int 110), (.int 97), (.int 109), (.int 101), (.int 62)] (.int 0) := V6
  refine own_thr (a := T6.setTop (mkF m 30 #[.val (.ref o0), .val (.int 0), .val (.int 14), .val (.int 14), .val (.ref b2)] [])) (fun t kt => st6 t kt) ?_
  refine own_thr (a := T6.setTop (mkF m 32 #[.val (.ref o0), .val (.int 0), .val (.int 14), .val (.int 14), .val (.ref b2)] [(.ref b2)])) (fun t kt => ?_) ?_
  · show Steps p.tables e below (T6.setTop (mkF m 30 #[.val (.ref o0), .val (.int 0), .val (.int 14), .val (.int 14), .val (.ref b2)] [])) _
    refine XS.aload X6.here hx rfl (hb hby d29_30) rfl rfl ?_
    exact kt
  exact own_end X6 hlk (v := some (.ref b2)) (fun h => by rw [Bd.returns] at h; cases h) (fun fs hr => retA X6 hx Bd.returns rfl rfl (hb hby d29_32) hr) (by rw [e6]; exact ⟨b2, rfl, N6, (((Keep.refl h0 []).ext E2).trans K6 (allS (Or.inr sz_b2) all0)), ⟨_, Vl6⟩, sz_b2⟩) (by decide : 1 ≤ _) (by decide : 14 ≤ _)
theorem d20_10 : decode jdk_65_method_132_code 10 = .ok (.aload_n 0, 1) := by decide +kernel
theorem d20_11 : decode jdk_65_method_132_code 11 = .ok (.iload_n 1, 1) := by decide +kernel
theorem d20_12 : decode jdk_65_method_132_code 12 = .ok (.iload_n 2, 1) := by decide +kernel
theorem d20_13 : decode jdk_65_method_132_code 13 = .ok (.invokestatic 339, 3) := by decide +kernel
theorem d20_16 : decode jdk_65_method_132_code 16 = .ok (.areturn, 1) := by decide +kernel
theorem ef_rmCRq (m : MethodId) (o0 : Addr)  : entryFrame m #[(.ref o0), (.int 0), (.int 14)] 3 = mkF m 0 #[.val (.ref o0), .val (.int 0), .val (.int 14)] [] := by first |  (simp [entryFrame, mkF, argsToLocals, Value.category]; done) | rfl
def Q_rmCRq (Z : State) (o0 : Addr) (k0 : ClassId) (h0 : Heap) (n0 : Nat) (v : Option Value) (h : Heap) (L : List Loc) : Prop := ∃ r : Addr, v = some (.ref r) ∧ Fr n0 L ∧ Keep h0 h [] ∧ (∃ k : ClassId, Arv Z h r k .byte (14 : Int32) [(.int 45), (.int 45), (.int 113), (.int 117), (.int 101), (.int 117), (.int 101), (.int 32), (.int 60), (.int 110), (.int 97), (.int 109), (.int 101), (.int 62)] (.int 0)) ∧ h0.size ≤ r
set_option maxRecDepth 65536 in
set_option maxHeartbeats 40000000 in
theorem rmCRq (l : Launch) (Z : State) (a0 : Array Value) (hw : ∀ d ∈ tables_1, d.before a0 Z = true) (ws : List Jvm.Cond) (o0 : Addr) (k0 : ClassId) (h0 : Heap) (n0 : Nat) (Z0 : n0 ≤ h0.size) (V_o0 : Arv Z h0 o0 k0 .byte (16 : Int32) [(.int 45), (.int 45), (.int 113), (.int 117), (.int 101), (.int 117), (.int 101), (.int 32), (.int 60), (.int 110), (.int 97), (.int 109), (.int 101), (.int 62), (.int 0), (.int 0)] (.int 0)) (E_o0 : Exa Z h0 o0 "[B") :
    MetFree l (⟨"java/util/Arrays", "copyOfRange", "([BII)[B"⟩ : MethodName) (head1 (Jvm.Cond.code (⟨"java/util/Arrays", "copyOfRange", "([BII)[B"⟩ : MethodName) jdk_65_method_132_code 3 (some (.array .byte)) :: ws) ({ frames := 2, cells := 1, slots := 14, locals := 34 } : Room)) (fun a U => a = #[(.ref o0), (.int 0), (.int 14)] ∧ Z.Warmed39 U.vm ∧ U.heap = h0) (fun _ _ _ _ _ => True) (fun _ U o U' => ∃ v L, o = .returned v ∧ Q_rmCRq Z o0 k0 h0 n0 v U'.heap L ∧ FrameEnd U o U' L ({ frames := 2, cells := 1, slots := 14, locals := 34 } : Room).cells ({ frames := 2, cells := 1, slots := 14, locals := 34 } : Room).slots) := by
  refine MetFree.of_bodySF (plainFor_of_name pn_java_util_Arrays) hisR ?_
  intro p e s m args below meth c s₁ Bd hml0 hP hK
  obtain ⟨rfl, hZ, hh⟩ := hP
  have hx := Bd.exec
  have hby := Bd.bytes
  have hml : c.maxLocals = 3 := hml0
  have hown : s.vm.findClass "java/util/Arrays" = some m.cls := findClass_of_methodNamed Bd.named
  have hnm := (name_of_methodNamed Bd.named Bd.method).1
  have hlk := Bd.notSynchronized
  have X0 : Stand p l e ({ frames := 2, cells := 1, slots := 14, locals := 34 } : Room) s m #[(.ref o0), (.int 0), (.int 14)] below meth c s₁ [] 0 0 := Stand.of_body Bd
  have e0 : s₁.heap = h0 := by rw [← hh, Bd.state]; rfl
  have N0 := Fr.nil n0
  show own_G p.tables e below s (Q_rmCRq Z o0 k0 h0 n0) ({ frames := 2, cells := 1, slots := 14, locals := 34 } : Room).cells ({ frames := 2, cells := 1, slots := 14, locals := 34 } : Room).slots _
  refine own_thr (a := s₁.setTop (mkF m 0 #[.val (.ref o0), .val (.int 0), .val (.int 14)] [])) (fun t kt => castTop (ef_rmCRq m o0) kt) ?_
  refine own_thr (a := s₁.setTop (mkF m 6 #[.val (.ref o0), .val (.int 0), .val (.int 14)] [(.ref o0), (.int 14)])) (fun t kt => ?_) ?_
  · show Steps p.tables e below (s₁.setTop (mkF m 0 #[.val (.ref o0), .val (.int 0), .val (.int 14)] [])) _
    refine XS.iloadN X0.here hx rfl (hb hby d20_0) rfl ?_
    refine XS.ifNo X0.here hx rfl (hb hby d20_1) rfl ((if0 _ _).trans (teq rfl).2) ?_
    refine XS.iloadN X0.here hx rfl (hb hby d20_4) rfl ?_
    refine XS.aloadN X0.here hx rfl (hb hby d20_5) rfl rfl ?_
    exact kt
  obtain ⟨cl1, Ar1, -, S1, M1, -, -⟩ := id V_o0
  refine own_thr (a := s₁.setTop (mkF m 13 #[.val (.ref o0), .val (.int 0), .val (.int 14)] [(.int 14), (.int 0), (.ref o0)])) (fun t kt => ?_) ?_
  · show Steps p.tables e below (s₁.setTop (mkF m 6 #[.val (.ref o0), .val (.int 0), .val (.int 14)] [(.ref o0), (.int 14)])) _
    refine X0.arraylength hx (by rw [e0]; exact Ar1.1) (State.isArrayOf_alike hZ.alike Ar1.2.1) (g := (mkF m 6 #[.val (.ref o0), .val (.int 0), .val (.int 14)] [(.ref o0), (.int 14)])) rfl rfl (hb hby d20_6) _ ?_
    rw [len_of S1 M1]
    refine XS.icmpNo X0.here hx rfl (hb hby d20_7) rfl (feq (by decide)).1 ?_
    refine XS.aloadN X0.here hx rfl (hb hby d20_10) rfl rfl ?_
    refine XS.iloadN X0.here hx rfl (hb hby d20_11) rfl ?_
    refine XS.iloadN X0.here hx rfl (hb hby d20_12) rfl ?_
    exact kt
  obtain ⟨_, _, ⟨T2, L2, k2, n2⟩, -, X2, ⟨Lc2, hQ2, l2, y2, z2⟩, st2⟩ := Jvm.LawKit.callS X0 hx (y := (⟨"java/util/Arrays", "copyOfRangeByte", "([BII)[B"⟩ : MethodName)) hown (mvT hZ (hw _ (List.mem_of_getElem? (i := 176) rfl))) (mvT hZ (hw _ (List.mem_of_getElem? (i := 177) rfl))) (mvT hZ (hw _ (List.mem_of_getElem? (i := 124) rfl))) (mvT hZ (hw _ (List.mem_of_getElem? (i := 178) rfl))) (by decide) (backOf (W := 0) (rmRBq l Z a0 hw [] o0 k0 h0 n0 Z0 V_o0 E_o0) hZ (hw _ (List.mem_of_getElem? (i := 178) rfl)) (hw _ (List.mem_of_getElem? (i := 124) rfl)) (by decide) (by decide)) (g := (mkF m 13 #[.val (.ref o0), .val (.int 0), .val (.int 14)] [(.int 14), (.int 0), (.ref o0)])) rfl (by rw [hml]; rfl) (argsL := [(.ref o0), (.int 0), (.int 14)]) (rest := []) (lenOf pd__28_5bBII_29_5bB rfl) rfl (by show 2 * 0 + _ ≤ _; exact Nat.le_of_eq rfl) (hb hby d20_13) (fun _ _ => ⟨rfl, e0, (by decide : 0 + 1 ≤ _), (by decide : 0 + 14 ≤ _)⟩)
  dsimp only [Pt.U, Pt.locs, Pt.cells, Pt.slots] at X2 l2 y2 z2 st2 hQ2
  obtain ⟨r2, rfl, N2q, K2, o2_0, o2_1⟩ := hQ2
  have Z3 : n0 ≤ T2.heap.size := Nat.le_trans Z0 K2.1
  have Z3h : h0.size ≤ T2.heap.size := Nat.le_trans (Nat.le_refl h0.size) K2.1
  obtain ⟨lc2, X2, N2⟩ := own_pack X2 l2 y2 z2 N0 N2q (C := 1) (S' := 14) rfl rfl
  refine own_thr (a := T2.setTop (mkF m 16 #[.val (.ref o0), .val (.int 0), .val (.int 14)] [(.ref r2)])) (fun t kt => st2 t kt) ?_
  exact own_end X2 hlk (v := some (.ref r2)) (fun h => by rw [Bd.returns] at h; cases h) (fun fs hr => retA X2 hx Bd.returns rfl rfl (hb hby d20_16) hr) ⟨r2, rfl, N2, ((Keep.refl h0 []).trans K2 all0), o2_0, o2_1⟩ (by decide : 1 ≤ _) (by decide : 14 ≤ _)
theorem ef_rmI2q (m : MethodId) (o0 : Addr) (o1 : Addr)  : entryFrame m #[(.ref o0), (.ref o1), .null] 5 = mkF m 0 #[.val (.ref o0), .val (.ref o1), .val .null, .unset, .unset] [] := by first |  (simp [entryFrame, mkF, argsToLocals, Value.category]; done) | rfl
def Q_rmI2q (Z : State) (o0 : Addr) (o1 : Addr) (vb : Addr) (kb : ClassId) (cs : Int32) (h0 : Heap) (n0 : Nat) (v : Option Value) (h : Heap) (L : List Loc) : Prop := v = none ∧ Fr n0 L ∧ Keep h0 h [o0] ∧ Exa Z h o0 "java/lang/String" ∧ Fld Z h o0 "java/lang/String" "coder" "B" (.int 0) ∧ (∃ (b : Addr) (k : ClassId), Fld Z h o0 "java/lang/String" "value" "[B" (.ref b) ∧ Arv Z h b k .byte (14 : Int32) [(.int 45), (.int 45), (.int 113), (.int 117), (.int 101), (.int 117), (.int 101), (.int 32), (.int 60), (.int 110), (.int 97), (.int 109), (.int 101), (.int 62)] (.int 0))
set_option maxRecDepth 65536 in
set_option maxHeartbeats 40000000 in
theorem rmI2q (l : Launch) (Z : State) (a0 : Array Value) (hw : ∀ d ∈ tables_1, d.before a0 Z = true) (ws : List Jvm.Cond) (o0 : Addr) (o1 : Addr) (vb : Addr) (kb : ClassId) (cs : Int32) (h0 : Heap) (n0 : Nat) (Z0 : n0 ≤ h0.size) (E_o0 : Exa Z h0 o0 "java/lang/String") (F_v : Fld Z h0 o0 "java/lang/String" "value" "[B" .null) (F_c : Fld Z h0 o0 "java/lang/String" "coder" "B" (.int 0)) (E_o1 : Exa Z h0 o1 "java/lang/StringBuilder") (F_v1 : Fld Z h0 o1 "java/lang/AbstractStringBuilder" "value" "[B" (.ref vb)) (F_c1 : Fld Z h0 o1 "java/lang/AbstractStringBuilder" "coder" "B" (.int 0)) (F_n1 : Fld Z h0 o1 "java/lang/AbstractStringBuilder" "count" "I" (.int 14)) (V_vb : Arv Z h0 vb kb .byte (16 : Int32) [(.int 45), (.int 45), (.int 113), (.int 117), (.int 101), (.int 117), (.int 101), (.int 32), (.int 60), (.int 110), (.int 97), (.int 109), (.int 101), (.int 62), (.int 0), (.int 0)] (.int 0)) (E_vb : Exa Z h0 vb "[B") (g_o0 : n0 ≤ o0) (ne_o1_o0 : o1 ≠ o0) (ne_vb_o0 : vb ≠ o0) (S_cs : Sta Z h0 "java/lang/String" "COMPACT_STRINGS" "Z" (.int cs)) (hcs : ¬ cs = (0 : Int32)) :
    MetFree l (⟨"java/lang/String", "<init>", "(Ljava/lang/AbstractStringBuilder;Ljava/lang/Void;)V"⟩ : MethodName) (head1 (Jvm.Cond.code (⟨"java/lang/String", "<init>", "(Ljava/lang/AbstractStringBuilder;Ljava/lang/Void;)V"⟩ : MethodName) jdk_42_method_150_code 5 none :: ws) ({ frames := 3, cells := 1, slots := 14, locals := 49 } : Room)) (fun a U => a = #[(.ref o0), (.ref o1), .null] ∧ Z.Warmed39 U.vm ∧ U.heap = h0) (fun _ _ _ _ _ => True) (fun _ U o U' => ∃ v L, o = .returned v ∧ Q_rmI2q Z o0 o1 vb kb cs h0 n0 v U'.heap L ∧ FrameEnd U o U' L ({ frames := 3, cells := 1, slots := 14, locals := 49 } : Room).cells ({ frames := 3, cells := 1, slots := 14, locals := 49 } : Room).slots) := by
  refine MetFree.of_bodySF (plainFor_of_name pn_java_lang_String) hisR ?_
  intro p e s m args below meth c s₁ Bd hml0 hP hK
  obtain ⟨rfl, hZ, hh⟩ := hP
  have hx := Bd.exec
  have hby := Bd.bytes
  have hml : c.maxLocals = 5 := hml0
  have hown : s.vm.findClass "java/lang/String" = some m.cls := findClass_of_methodNamed Bd.named
  have hnm := (name_of_methodNamed Bd.named Bd.method).1
  have hlk := Bd.notSynchronized
  have X0 : Stand p l e ({ frames := 3, cells := 1, slots := 14, locals := 49 } : Room) s m #[(.ref o0), (.ref o1), .null] below meth c s₁ [] 0 0 := Stand.of_body Bd
  have e0 : s₁.heap = h0 := by rw [← hh, Bd.state]; rfl
  have N0 := Fr.nil n0
  show own_G p.tables e below s (Q_rmI2q Z o0 o1 vb kb cs h0 n0) ({ frames := 3, cells := 1, slots := 14, locals := 49 } : Room).cells ({ frames := 3, cells := 1, slots := 14, locals := 49 } : Room).slots _
  refine own_thr (a := s₁.setTop (mkF m 0 #[.val (.ref o0), .val (.ref o1), .val .null, .unset, .unset] [])) (fun t kt => castTop (ef_rmI2q m o0 o1) kt) ?_
  refine own_thr (a := s₁.setTop (mkF m 1 #[.val (.ref o0), .val (.ref o1), .val .null, .unset, .unset] [(.ref o0)])) (fun t kt => ?_) ?_
  · show Steps p.tables e below (s₁.setTop (mkF m 0 #[.val (.ref o0), .val (.ref o1), .val .null, .unset, .unset] [])) _
    refine XS.aloadN X0.here hx rfl (hb hby d15_0) rfl rfl ?_
    exact kt
  obtain ⟨T1, X1, e1, st1⟩ := initO X0 hx hZ hown (hw _ (List.mem_of_getElem? (i := 103) rfl)) (hw _ (List.mem_of_getElem? (i := 21) rfl)) (hw _ (List.mem_of_getElem? (i := 22) rfl)) e0 (g := (mkF m 1 #[.val (.ref o0), .val (.ref o1), .val .null, .unset, .unset] [(.ref o0)])) rfl (by rw [hml]; rfl) rfl (hb hby d15_1) (by decide) (W := 0) (by show 2 * 0 + _ ≤ _; exact Nat.le_of_eq rfl) (by decide)
  refine own_thr (a := T1.setTop (mkF m 4 #[.val (.ref o0), .val (.ref o1), .val .null, .unset, .unset] [])) (fun t kt => st1 t kt) ?_
  refine own_thr (a := T1.setTop (mkF m 5 #[.val (.ref o0), .val (.ref o1), .val .null, .unset, .unset] [(.ref o1)])) (fun t kt => ?_) ?_
  · show Steps p.tables e below (T1.setTop (mkF m 4 #[.val (.ref o0), .val (.ref o1), .val .null, .unset, .unset] [])) _
    refine XS.aloadN X1.here hx rfl (hb hby d15_4) rfl rfl ?_
    exact kt
  obtain ⟨cq2, kq2, q2a, q2b, q2c⟩ := isOf hZ e1 E_o1
  obtain ⟨_, _, ⟨T2, L2, k2, n2⟩, -, X2, ⟨Lc2, hQ2, l2, y2, z2⟩, st2⟩ := X1.virtualBack hx (y := (⟨"java/lang/AbstractStringBuilder", "getValue", "()[B"⟩ : MethodName)) (z := (⟨"java/lang/AbstractStringBuilder", "getValue", "()[B"⟩ : MethodName)) hown (mvT hZ (hw _ (List.mem_of_getElem? (i := 104) rfl))) (mvT hZ (hw _ (List.mem_of_getElem? (i := 105) rfl))) (notFace_of_selects (args := #[]) (mvT hZ (hw _ (List.mem_of_getElem? (i := 107) rfl)))) (mvT hZ (hw _ (List.mem_of_getElem? (i := 107) rfl))) (mvT hZ (hw _ (List.mem_of_getElem? (i := 106) rfl))) (by decide) (backOf (W := 0) (rmGV l Z a0 hw [] o1 vb h0 n0 Z0 F_v1) hZ (hw _ (List.mem_of_getElem? (i := 108) rfl)) (hw _ (List.mem_of_getElem? (i := 18) rfl)) (by decide) (by decide)) q2a q2c (g := (mkF m 5 #[.val (.ref o0), .val (.ref o1), .val .null, .unset, .unset] [(.ref o1)])) rfl (by rw [hml]; rfl) (Steps.refl _) (argsL := []) (rest := []) (lenOf pd__28_29_5bB rfl) rfl (by show 2 * 0 + _ ≤ _; exact Nat.le_of_eq rfl) (hb hby d15_5) (fun _ _ => ⟨rfl, e1, (by decide : 0 + 0 ≤ _), (by decide : 0 + 0 ≤ _)⟩)
  dsimp only [Pt.U, Pt.locs, Pt.cells, Pt.slots] at X2 l2 y2 z2 st2 hQ2
  obtain ⟨rfl, N2q, e2⟩ := hQ2
  obtain ⟨lc2, X2, N2⟩ := own_pack X2 l2 y2 z2 N0 N2q (C := 0) (S' := 0) rfl rfl
  refine own_thr (a := T2.setTop (mkF m 8 #[.val (.ref o0), .val (.ref o1), .val .null, .unset, .unset] [(.ref vb)])) (fun t kt => st2.trans kt) ?_
  refine own_thr (a := T2.setTop (mkF m 10 #[.val (.ref o0), .val (.ref o1), .val .null, .val (.ref vb), .unset] [(.ref o1)])) (fun t kt => ?_) ?_
  · show Steps p.tables e below (T2.setTop (mkF m 8 #[.val (.ref o0), .val (.ref o1), .val .null, .unset, .unset] [(.ref vb)])) _
    refine XS.astoreN X2.here hx rfl (hb hby d15_8) rfl rfl (l' := #[.val (.ref o0), .val (.ref o1), .val .null, .val (.ref vb), .unset]) rfl ?_
    refine XS.aloadN X2.here hx rfl (hb hby d15_9) rfl rfl ?_
    exact kt
  obtain ⟨cq3, kq3, q3a, q3b, q3c⟩ := isOf hZ e2 E_o1
  obtain ⟨_, _, ⟨T3, L3, k3, n3⟩, -, X3, ⟨Lc3, hQ3, l3, y3, z3⟩, st3⟩ := X2.virtualBack hx (y := (⟨"java/lang/AbstractStringBuilder", "length", "()I"⟩ : MethodName)) (z := (⟨"java/lang/StringBuilder", "length", "()I"⟩ : MethodName)) hown (mvT hZ (hw _ (List.mem_of_getElem? (i := 109) rfl))) (mvT hZ (hw _ (List.mem_of_getElem? (i := 110) rfl))) (own_nf (args := #[]) (mvT hZ (hw _ (List.mem_of_getElem? (i := 62) rfl))) rfl) (mvT hZ (hw _ (List.mem_of_getElem? (i := 112) rfl))) (mvT hZ (hw _ (List.mem_of_getElem? (i := 113) rfl))) (by decide) (backOf (W := 0) (rmSLq l Z a0 hw [] o1 h0 n0 Z0 E_o1 F_n1) hZ (hw _ (List.mem_of_getElem? (i := 114) rfl)) (hw _ (List.mem_of_getElem? (i := 10) rfl)) (by decide) (by decide)) q3a q3c (g := (mkF m 10 #[.val (.ref o0), .val (.ref o1), .val .null, .val (.ref vb), .unset] [(.ref o1)])) rfl (by rw [hml]; rfl) (Steps.refl _) (argsL := []) (rest := []) (lenOf pd__28_29I rfl) rfl (by show 2 * 0 + _ ≤ _; exact Nat.le_of_eq rfl) (hb hby d15_10) (fun _ _ => ⟨rfl, e2, (by decide : 0 + 0 ≤ _), (by decide : 0 + 0 ≤ _)⟩)
  dsimp only [Pt.U, Pt.locs, Pt.cells, Pt.slots] at X3 l3 y3 z3 st3 hQ3
  obtain ⟨rfl, N3q, e3⟩ := hQ3
  obtain ⟨lc3, X3, N3⟩ := own_pack X3 l3 y3 z3 N2 N3q (C := 0) (S' := 0) rfl rfl
  refine own_thr (a := T3.setTop (mkF m 13 #[.val (.ref o0), .val (.ref o1), .val .null, .val (.ref vb), .unset] [(.int 14)])) (fun t kt => st3.trans kt) ?_
  refine own_thr (a := T3.setTop (mkF m 16 #[.val (.ref o0), .val (.ref o1), .val .null, .val (.ref vb), .val (.int 14)] [(.ref o1)])) (fun t kt => ?_) ?_
  · show Steps p.tables e below (T3.setTop (mkF m 13 #[.val (.ref o0), .val (.ref o1), .val .null, .val (.ref vb), .unset] [(.int 14)])) _
    refine XS.istore X3.here hx rfl (hb hby d15_13) rfl (l' := #[.val (.ref o0), .val (.ref o1), .val .null, .val (.ref vb), .val (.int 14)]) rfl ?_
    refine XS.aloadN X3.here hx rfl (hb hby d15_15) rfl rfl ?_
    exact kt
  obtain ⟨cq4, kq4, q4a, q4b, q4c⟩ := isOf hZ e3 E_o1
  obtain ⟨_, _, ⟨T4, L4, k4, n4⟩, -, X4, ⟨Lc4, hQ4, l4, y4, z4⟩, st4⟩ := X3.virtualBack hx (y := (⟨"java/lang/AbstractStringBuilder", "isLatin1", "()Z"⟩ : MethodName)) (z := (⟨"java/lang/AbstractStringBuilder", "isLatin1", "()Z"⟩ : MethodName)) hown (mvT hZ (hw _ (List.mem_of_getElem? (i := 117) rfl))) (mvT hZ (hw _ (List.mem_of_getElem? (i := 118) rfl))) (notFace_of_selects (args := #[]) (mvT hZ (hw _ (List.mem_of_getElem? (i := 120) rfl)))) (mvT hZ (hw _ (List.mem_of_getElem? (i := 120) rfl))) (mvT hZ (hw _ (List.mem_of_getElem? (i := 119) rfl))) (by decide) (backOf (W := 0) (rmIL l Z a0 hw [] o1 cs h0 n0 Z0 F_c1 S_cs hcs) hZ (hw _ (List.mem_of_getElem? (i := 121) rfl)) (hw _ (List.mem_of_getElem? (i := 18) rfl)) (by decide) (by decide)) q4a q4c (g := (mkF m 16 #[.val (.ref o0), .val (.ref o1), .val .null, .val (.ref vb), .val (.int 14)] [(.ref o1)])) rfl (by rw [hml]; rfl) (Steps.refl _) (argsL := []) (rest := []) (lenOf pd__28_29Z rfl) rfl (by show 2 * 0 + _ ≤ _; exact Nat.le_of_eq rfl) (hb hby d15_16) (fun _ _ => ⟨rfl, e3, (by decide : 0 + 0 ≤ _), (by decide : 0 + 0 ≤ _)⟩)
  dsimp only [Pt.U, Pt.locs, Pt.cells, Pt.slots] at X4 l4 y4 z4 st4 hQ4
  obtain ⟨rfl, N4q, e4⟩ := hQ4
  obtain ⟨lc4, X4, N4⟩ := own_pack X4 l4 y4 z4 N3 N4q (C := 0) (S' := 0) rfl rfl
  refine own_thr (a := T4.setTop (mkF m 19 #[.val (.ref o0), .val (.ref o1), .val .null, .val (.ref vb), .val (.int 14)] [(.int 1)])) (fun t kt => st4.trans kt) ?_
  refine own_thr (a := T4.setTop (mkF m 24 #[.val (.ref o0), .val (.ref o1), .val .null, .val (.ref vb), .val (.int 14)] [(.int 0), (.ref o0)])) (fun t kt => ?_) ?_
  · show Steps p.tables e below (T4.setTop (mkF m 19 #[.val (.ref o0), .val (.ref o1), .val .null, .val (.ref vb), .val (.int 14)] [(.int 1)])) _
    refine XS.ifNo X4.here hx rfl (hb hby d15_19) rfl ((if0 _ _).trans (feq (by decide)).1) ?_
    refine XS.aloadN X4.here hx rfl (hb hby d15_22) rfl rfl ?_
    refine XS.iconst X4.here hx rfl (hb hby d15_23) ?_
    exact kt
  obtain ⟨T5, h5, X5, e5, W5, st5⟩ := putFN X4 hx hZ hown (hw _ (List.mem_of_getElem? (i := 55) rfl)) Via.refl e4 F_c E_o0 (Or.inr ⟨(hw _ (List.mem_of_getElem? (i := 56) rfl)), rfl, hnm⟩) (hw _ (List.mem_of_getElem? (i := 85) rfl)) (ty := .byte) (v' := (.int 0)) (by decide) rfl rfl (g := (mkF m 24 #[.val (.ref o0), .val (.ref o1), .val .null, .val (.ref vb), .val (.int 14)] [(.int 0), (.ref o0)])) rfl rfl (hb hby d15_24)
  have Fw5 := F_c.same W5
  have Z6 : n0 ≤ h5.size := Nat.le_trans Z0 (Nat.le_of_eq W5.size.symm)
  have Z6h : h0.size ≤ h5.size := Nat.le_trans (Nat.le_refl h0.size) (Nat.le_of_eq W5.size.symm)
  obtain ⟨lc5, X5, N5⟩ := own_pack1 X5 N4 g_o0
  refine own_thr (a := T5.setTop (mkF m 27 #[.val (.ref o0), .val (.ref o1), .val .null, .val (.ref vb), .val (.int 14)] [])) (fun t kt => st5 t kt) ?_
  refine own_thr (a := T5.setTop (mkF m 32 #[.val (.ref o0), .val (.ref o1), .val .null, .val (.ref vb), .val (.int 14)] [(.int 14), (.int 0), (.ref vb), (.ref o0)])) (fun t kt => ?_) ?_
  · show Steps p.tables e below (T5.setTop (mkF m 27 #[.val (.ref o0), .val (.ref o1), .val .null, .val (.ref vb), .val (.int 14)] [])) _
    refine XS.aloadN X5.here hx rfl (hb hby d15_27) rfl rfl ?_
    refine XS.aloadN X5.here hx rfl (hb hby d15_28) rfl rfl ?_
    refine XS.iconst X5.here hx rfl (hb hby d15_29) ?_
    refine XS.iload X5.here hx rfl (hb hby d15_30) rfl ?_
    exact kt
  obtain ⟨_, _, ⟨T7, L7, k7, n7⟩, -, X7, ⟨Lc7, hQ7, l7, y7, z7⟩, st7⟩ := Jvm.LawKit.callS X5 hx (y := (⟨"java/util/Arrays", "copyOfRange", "([BII)[B"⟩ : MethodName)) hown (mvT hZ (hw _ (List.mem_of_getElem? (i := 122) rfl))) (mvT hZ (hw _ (List.mem_of_getElem? (i := 123) rfl))) (mvT hZ (hw _ (List.mem_of_getElem? (i := 124) rfl))) (mvT hZ (hw _ (List.mem_of_getElem? (i := 125) rfl))) (by decide) (backOf (W := 1) (rmCRq l Z a0 hw [] vb kb h5 n0 Z6 (V_vb.other W5 ne_vb_o0) (E_vb.wr W5)) hZ (hw _ (List.mem_of_getElem? (i := 125) rfl)) (hw _ (List.mem_of_getElem? (i := 124) rfl)) (by decide) (by decide)) (g := (mkF m 32 #[.val (.ref o0), .val (.ref o1), .val .null, .val (.ref vb), .val (.int 14)] [(.int 14), (.int 0), (.ref vb), (.ref o0)])) rfl (by rw [hml]; rfl) (argsL := [(.ref vb), (.int 0), (.int 14)]) (rest := [(.ref o0)]) (lenOf pd__28_5bBII_29_5bB rfl) rfl (by show 2 * 0 + _ ≤ _; exact Nat.le_of_eq rfl) (hb hby d15_32) (fun _ _ => ⟨rfl, e5, (by decide : 0 + 1 ≤ _), (by decide : 0 + 14 ≤ _)⟩)
  dsimp only [Pt.U, Pt.locs, Pt.cells, Pt.slots] at X7 l7 y7 z7 st7 hQ7
  obtain ⟨r7, rfl, N7q, K7, o7_0, o7_1⟩ := hQ7
  have Z8 : n0 ≤ T7.heap.size := Nat.le_trans Z6 K7.1
  have Z8h : h0.size ≤ T7.heap.size := Nat.le_trans Z6h K7.1
  obtain ⟨lc7, X7, N7⟩ := own_pack X7 l7 y7 z7 N5 N7q (C := 1) (S' := 14) rfl rfl
  refine own_thr (a := T7.setTop (mkF m 35 #[.val (.ref o0), .val (.ref o1), .val .null, .val (.ref vb), .val (.int 14)] [(.ref r7), (.ref o0)])) (fun t kt => st7 t kt) ?_
  obtain ⟨kq7, Vq7⟩ := o7_0
  have ne_o0_r7 : o0 ≠ r7 := Nat.ne_of_lt (Nat.lt_of_lt_of_le (E_o0.wr W5).lt o7_1)
  have c9 := ((F_v.other W5 (Or.inr (slot_ne (Or.inr (hw _ (List.mem_of_getElem? (i := 48) rfl))) (Or.inr (hw _ (List.mem_of_getElem? (i := 56) rfl))) (by decide) (t := (.array .byte)) (t' := .byte) (by decide) (by decide)))).keep K7 nin0)
  obtain ⟨T10, h10, X10, e10, W10, st10⟩ := putF X7 hx hZ hown (host := "") (Or.inl (hw _ (List.mem_of_getElem? (i := 47) rfl))) Via.refl rfl c9 ((E_o0.wr W5).keep K7) (Or.inr ⟨(hw _ (List.mem_of_getElem? (i := 48) rfl)), rfl, hnm⟩) (hw _ (List.mem_of_getElem? (i := 85) rfl)) (ty := (.array .byte)) (by decide) rfl rfl (g := (mkF m 35 #[.val (.ref o0), .val (.ref o1), .val .null, .val (.ref vb), .val (.int 14)] [(.ref r7), (.ref o0)])) rfl rfl (hb hby d15_35)
  have Fw10 := c9.same W10
  have Z11 : n0 ≤ h10.size := Nat.le_trans Z8 (Nat.le_of_eq W10.size.symm)
  have Z11h : h0.size ≤ h10.size := Nat.le_trans Z8h (Nat.le_of_eq W10.size.symm)
  obtain ⟨lc10, X10, N10⟩ := own_pack1 X10 N7 g_o0
  refine own_thr (a := T10.setTop (mkF m 38 #[.val (.ref o0), .val (.ref o1), .val .null, .val (.ref vb), .val (.int 14)] [])) (fun t kt => st10 t kt) ?_
  refine own_thr (a := T10.setTop (mkF m 97 #[.val (.ref o0), .val (.ref o1), .val .null, .val (.ref vb), .val (.int 14)] [])) (fun t kt => ?_) ?_
  · show Steps p.tables e below (T10.setTop (mkF m 38 #[.val (.ref o0), .val (.ref o1), .val .null, .val (.ref vb), .val (.int 14)] [])) _
    refine XS.goto X10.here hx rfl (pc0 := 38) (pc' := 97) rfl (hb hby d15_38) (by decide) (by decide) ?_
    exact kt
  have c12 := ((Fw5.keep K7 nin0).other W10 (Or.inr (slot_ne (Or.inr (hw _ (List.mem_of_getElem? (i := 56) rfl))) (Or.inr (hw _ (List.mem_of_getElem? (i := 48) rfl))) (by decide) (t := .byte) (t' := (.array .byte)) (by decide) (by decide))))
  exact own_end X10 hlk (v := none) (fun _ => rfl) (fun fs hr => X10.returnOut hx Bd.returns (hb hby d15_97) hr) (by rw [e10]; exact ⟨rfl, N10, ((((Keep.refl h0 [o0]).wr W5 (Or.inl (List.mem_of_getElem? (i := 0) rfl))).trans K7 all0).wr W10 (Or.inl (List.mem_of_getElem? (i := 0) rfl))), (((E_o0.wr W5).keep K7).wr W10), c12, r7, _, Fw10, (Vq7.other W10 (Ne.symm ne_o0_r7))⟩) (by decide : 1 ≤ _) (by decide : 14 ≤ _)
theorem ef_rmI1q (m : MethodId) (o0 : Addr) (o1 : Addr)  : entryFrame m #[(.ref o0), (.ref o1)] 2 = mkF m 0 #[.val (.ref o0), .val (.ref o1)] [] := by first |  (simp [entryFrame, mkF, argsToLocals, Value.category]; done) | rfl
def Q_rmI1q (Z : State) (o0 : Addr) (o1 : Addr) (vb : Addr) (kb : ClassId) (cs : Int32) (h0 : Heap) (n0 : Nat) (v : Option Value) (h : Heap) (L : List Loc) : Prop := v = none ∧ Fr n0 L ∧ Keep h0 h [o0] ∧ Exa Z h o0 "java/lang/String" ∧ Fld Z h o0 "java/lang/String" "coder" "B" (.int 0) ∧ (∃ (b : Addr) (k : ClassId), Fld Z h o0 "java/lang/String" "value" "[B" (.ref b) ∧ Arv Z h b k .byte (14 : Int32) [(.int 45), (.int 45), (.int 113), (.int 117), (.int 101), (.int 117), (.int 101), (.int 32), (.int 60), (.int 110), (.int 97), (.int 109), (.int 101), (.int 62)] (.int 0))
set_option maxRecDepth 65536 in
set_option maxHeartbeats 40000000 in
theorem rmI1q (l : Launch) (Z : State) (a0 : Array Value) (hw : ∀ d ∈ tables_1, d.before a0 Z = true) (ws : List Jvm.Cond) (o0 : Addr) (o1 : Addr) (vb : Addr) (kb : ClassId) (cs : Int32) (h0 : Heap) (n0 : Nat) (Z0 : n0 ≤ h0.size) (E_o0 : Exa Z h0 o0 "java/lang/String") (F_v : Fld Z h0 o0 "java/lang/String" "value" "[B" .null) (F_c : Fld Z h0 o0 "java/lang/String" "coder" "B" (.int 0)) (E_o1 : Exa Z h0 o1 "java/lang/StringBuilder") (F_v1 : Fld Z h0 o1 "java/lang/AbstractStringBuilder" "value" "[B" (.ref vb)) (F_c1 : Fld Z h0 o1 "java/lang/AbstractStringBuilder" "coder" "B" (.int 0)) (F_n1 : Fld Z h0 o1 "java/lang/AbstractStringBuilder" "count" "I" (.int 14)) (V_vb : Arv Z h0 vb kb .byte (16 : Int32) [(.int 45), (.int 45), (.int 113), (.int 117), (.int 101), (.int 117), (.int 101), (.int 32), (.int 60), (.int 110), (.int 97), (.int 109), (.int 101), (.int 62), (.int 0), (.int 0)] (.int 0)) (E_vb : Exa Z h0 vb "[B") (g_o0 : n0 ≤ o0) (ne_o1_o0 : o1 ≠ o0) (ne_vb_o0 : vb ≠ o0) (S_cs : Sta Z h0 "java/lang/String" "COMPACT_STRINGS" "Z" (.int cs)) (hcs : ¬ cs = (0 : Int32)) :
    MetFree l (⟨"java/lang/String", "<init>", "(Ljava/lang/StringBuilder;)V"⟩ : MethodName) (head1 (Jvm.Cond.code (⟨"java/lang/String", "<init>", "(Ljava/lang/StringBuilder;)V"⟩ : MethodName) jdk_42_method_53_code 2 none :: ws) ({ frames := 4, cells := 1, slots := 14, locals := 65 } : Room)) (fun a U => a = #[(.ref o0), (.ref o1)] ∧ Z.Warmed39 U.vm ∧ U.heap = h0) (fun _ _ _ _ _ => True) (fun _ U o U' => ∃ v L, o = .returned v ∧ Q_rmI1q Z o0 o1 vb kb cs h0 n0 v U'.heap L ∧ FrameEnd U o U' L ({ frames := 4, cells := 1, slots := 14, locals := 65 } : Room).cells ({ frames := 4, cells := 1, slots := 14, locals := 65 } : Room).slots) := by
  refine MetFree.of_bodySF (plainFor_of_name pn_java_lang_String) hisR ?_
  intro p e s m args below meth c s₁ Bd hml0 hP hK
  obtain ⟨rfl, hZ, hh⟩ := hP
  have hx := Bd.exec
  have hby := Bd.bytes
  have hml : c.maxLocals = 2 := hml0
  have hown : s.vm.findClass "java/lang/String" = some m.cls := findClass_of_methodNamed Bd.named
  have hnm := (name_of_methodNamed Bd.named Bd.method).1
  have hlk := Bd.notSynchronized
  have X0 : Stand p l e ({ frames := 4, cells := 1, slots := 14, locals := 65 } : Room) s m #[(.ref o0), (.ref o1)] below meth c s₁ [] 0 0 := Stand.of_body Bd
  have e0 : s₁.heap = h0 := by rw [← hh, Bd.state]; rfl
  have N0 := Fr.nil n0
  show own_G p.tables e below s (Q_rmI1q Z o0 o1 vb kb cs h0 n0) ({ frames := 4, cells := 1, slots := 14, locals := 65 } : Room).cells ({ frames := 4, cells := 1, slots := 14, locals := 65 } : Room).slots _
  refine own_thr (a := s₁.setTop (mkF m 0 #[.val (.ref o0), .val (.ref o1)] [])) (fun t kt => castTop (ef_rmI1q m o0 o1) kt) ?_
  refine own_thr (a := s₁.setTop (mkF m 3 #[.val (.ref o0), .val (.ref o1)] [.null, (.ref o1), (.ref o0)])) (fun t kt => ?_) ?_
  · show Steps p.tables e below (s₁.setTop (mkF m 0 #[.val (.ref o0), .val (.ref o1)] [])) _
    refine XS.aloadN X0.here hx rfl (hb hby d14_0) rfl rfl ?_
    refine XS.aloadN X0.here hx rfl (hb hby d14_1) rfl rfl ?_
    refine XS.aconstNull X0.here hx rfl (hb hby d14_2) ?_
    exact kt
  obtain ⟨_, _, ⟨T1, L1, k1, n1⟩, -, X1, ⟨Lc1, hQ1, l1, y1, z1⟩, st1⟩ := X0.specialBack hx (y := (⟨"java/lang/String", "<init>", "(Ljava/lang/AbstractStringBuilder;Ljava/lang/Void;)V"⟩ : MethodName)) rfl hown (mvT hZ (hw _ (List.mem_of_getElem? (i := 100) rfl))) (mvT hZ (hw _ (List.mem_of_getElem? (i := 101) rfl))) (mvT hZ (hw _ (List.mem_of_getElem? (i := 102) rfl))) (by decide) (backOf (W := 0) (rmI2q l Z a0 hw [] o0 o1 vb kb cs h0 n0 Z0 E_o0 F_v F_c E_o1 F_v1 F_c1 F_n1 V_vb E_vb g_o0 ne_o1_o0 ne_vb_o0 S_cs hcs) hZ (hw _ (List.mem_of_getElem? (i := 102) rfl)) (hw _ (List.mem_of_getElem? (i := 24) rfl)) (by decide) (by decide)) (g := (mkF m 3 #[.val (.ref o0), .val (.ref o1)] [.null, (.ref o1), (.ref o0)])) rfl (by rw [hml]; rfl) (Steps.refl _) (a := o0) (argsL := [(.ref o1), .null]) (rest := []) (lenOf pd__28Ljava_2flang_2fAbstractStringBuilder_3bLjava_2flang_2fVoid_3b_29V rfl) rfl (by show 2 * 0 + _ ≤ _; exact Nat.le_of_eq rfl) (hb hby d14_3) (fun _ _ => ⟨rfl, e0, (by decide : 0 + 1 ≤ _), (by decide : 0 + 14 ≤ _)⟩)
  dsimp only [Pt.U, Pt.locs, Pt.cells, Pt.slots] at X1 l1 y1 z1 st1 hQ1
  obtain ⟨rfl, N1q, K1, o1_e, o1_c, sv1, ks1, o1_v, o1_a⟩ := hQ1
  have Z2 : n0 ≤ T1.heap.size := Nat.le_trans Z0 K1.1
  have Z2h : h0.size ≤ T1.heap.size := Nat.le_trans (Nat.le_refl h0.size) K1.1
  obtain ⟨lc1, X1, N1⟩ := own_pack X1 l1 y1 z1 N0 N1q (C := 1) (S' := 14) rfl rfl
  refine own_thr (a := T1.setTop (mkF m 6 #[.val (.ref o0), .val (.ref o1)] [])) (fun t kt => st1.trans kt) ?_
  exact own_end X1 hlk (v := none) (fun _ => rfl) (fun fs hr => X1.returnOut hx Bd.returns (hb hby d14_6) hr) ⟨rfl, N1, ((Keep.refl h0 [o0]).trans K1 (allS (Or.inl (List.mem_of_getElem? (i := 0) rfl)) all0)), o1_e, o1_c, sv1, _, o1_v, o1_a⟩ (by decide : 1 ≤ _) (by decide : 14 ≤ _)
theorem ef_rmTSq (m : MethodId) (o1 : Addr)  : entryFrame m #[(.ref o1)] 1 = mkF m 0 #[.val (.ref o1)] [] := by first |  (simp [entryFrame, mkF, argsToLocals, Value.category]; done) | rfl
def Q_rmTSq (Z : State) (o1 : Addr) (vb : Addr) (kb : ClassId) (cs : Int32) (h0 : Heap) (n0 : Nat) (v : Option Value) (h : Heap) (L : List Loc) : Prop := ∃ r : Addr, v = some (.ref r) ∧ Fr n0 L ∧ Keep h0 h [] ∧ Exa Z h r "java/lang/String" ∧ Fld Z h r "java/lang/String" "coder" "B" (.int 0) ∧ (∃ (b : Addr) (k : ClassId), Fld Z h r "java/lang/String" "value" "[B" (.ref b) ∧ Arv Z h b k .byte (14 : Int32) [(.int 45), (.int 45), (.int 113), (.int 117), (.int 101), (.int 117), (.int 101), (.int 32), (.int 60), (.int 110), (.int 97), (.int 109), (.int 101), (.int 62)] (.int 0))
set_option maxRecDepth 65536 in
set_option maxHeartbeats 40000000 in
theorem rmTSq (l : Launch) (Z : State) (a0 : Array Value) (hw : ∀ d ∈ tables_1, d.before a0 Z = true) (ws : List Jvm.Cond) (o1 : Addr) (vb : Addr) (kb : ClassId) (cs : Int32) (h0 : Heap) (n0 : Nat) (Z0 : n0 ≤ h0.size) (E_o1 : Exa Z h0 o1 "java/lang/StringBuilder") (F_v1 : Fld Z h0 o1 "java/lang/AbstractStringBuilder" "value" "[B" (.ref vb)) (F_c1 : Fld Z h0 o1 "java/lang/AbstractStringBuilder" "coder" "B" (.int 0)) (F_n1 : Fld Z h0 o1 "java/lang/AbstractStringBuilder" "count" "I" (.int 14)) (V_vb : Arv Z h0 vb kb .byte (16 : Int32) [(.int 45), (.int 45), (.int 113), (.int 117), (.int 101), (.int 117), (.int 101), (.int 32), (.int 60), (.int 110), (.int 97), (.int 109), (.int 101), (.int 62), (.int 0), (.int 0)] (.int 0)) (E_vb : Exa Z h0 vb "[B") (S_cs : Sta Z h0 "java/lang/String" "COMPACT_STRINGS" "Z" (.int cs)) (hcs : ¬ cs = (0 : Int32)) :
    MetFree l (⟨"java/lang/StringBuilder", "toString", "()Ljava/lang/String;"⟩ : MethodName) (head1 (Jvm.Cond.code (⟨"java/lang/StringBuilder", "toString", "()Ljava/lang/String;"⟩ : MethodName) jdk_67_method_42_code 1 (some (.object "java/lang/String")) :: ws) ({ frames := 5, cells := 2, slots := 18, locals := 79 } : Room)) (fun a U => a = #[(.ref o1)] ∧ Z.Warmed39 U.vm ∧ U.heap = h0) (fun _ _ _ _ _ => True) (fun _ U o U' => ∃ v L, o = .returned v ∧ Q_rmTSq Z o1 vb kb cs h0 n0 v U'.heap L ∧ FrameEnd U o U' L ({ frames := 5, cells := 2, slots := 18, locals := 79 } : Room).cells ({ frames := 5, cells := 2, slots := 18, locals := 79 } : Room).slots) := by
  refine MetFree.of_bodySF (plainFor_of_name pn_java_lang_StringBuilder) hisR ?_
  intro p e s m args below meth c s₁ Bd hml0 hP hK
  obtain ⟨rfl, hZ, hh⟩ := hP
  have hx := Bd.exec
  have hby := Bd.bytes
  have hml : c.maxLocals = 1 := hml0
  have hown : s.vm.findClass "java/lang/StringBuilder" = some m.cls := findClass_of_methodNamed Bd.named
  have hnm := (name_of_methodNamed Bd.named Bd.method).1
  have hlk := Bd.notSynchronized
  have X0 : Stand p l e ({ frames := 5, cells := 2, slots := 18, locals := 79 } : Room) s m #[(.ref o1)] below meth c s₁ [] 0 0 := Stand.of_body Bd
  have e0 : s₁.heap = h0 := by rw [← hh, Bd.state]; rfl
  have N0 := Fr.nil n0
  show own_G p.tables e below s (Q_rmTSq Z o1 vb kb cs h0 n0) ({ frames := 5, cells := 2, slots := 18, locals := 79 } : Room).cells ({ frames := 5, cells := 2, slots := 18, locals := 79 } : Room).slots _
  refine own_thr (a := s₁.setTop (mkF m 0 #[.val (.ref o1)] [])) (fun t kt => castTop (ef_rmTSq m o1) kt) ?_
  obtain ⟨T1, h1, X1, e1, E1, A1, D1, U1, st1⟩ := newO X0 hx hZ hown (hw _ (List.mem_of_getElem? (i := 95) rfl)) (hw _ (List.mem_of_getElem? (i := 85) rfl)) (hw _ (List.mem_of_getElem? (i := 24) rfl)) e0 (g := (mkF m 0 #[.val (.ref o1)] [])) rfl (hb hby d13_0) (by decide : 0 + 1 ≤ _) (by decide : 0 + 4 ≤ _)
  obtain ⟨b1, g1⟩ : ∃ z, z = h0.size := ⟨_, rfl⟩
  rw [← g1] at A1 D1 st1 U1
  have g_b1 : n0 ≤ b1 := Nat.le_trans Z0 (Nat.le_of_eq g1.symm)
  have sz_b1 : h0.size ≤ b1 := Nat.le_trans (Nat.le_refl h0.size) (Nat.le_of_eq g1.symm)
  have lt_o1_b1 : o1 < b1 := Nat.lt_of_lt_of_le E_o1.lt (Nat.le_of_eq g1.symm)
  have ne_o1_b1 : o1 ≠ b1 := Nat.ne_of_lt lt_o1_b1
  have lt_vb_b1 : vb < b1 := Nat.lt_of_lt_of_le V_vb.lt (Nat.le_of_eq g1.symm)
  have ne_vb_b1 : vb ≠ b1 := Nat.ne_of_lt lt_vb_b1
  have Z2 : n0 ≤ h1.size := Nat.le_trans Z0 E1.1
  have Z2h : h0.size ≤ h1.size := Nat.le_trans (Nat.le_refl h0.size) E1.1
  have F_value_b1 : Fld Z h1 b1 "java/lang/String" "value" "[B" .null := D1 (Or.inr (hw _ (List.mem_of_getElem? (i := 48) rfl))) (ty := (.array .byte)) (by decide)
  have F_coder_b1 : Fld Z h1 b1 "java/lang/String" "coder" "B" (.int 0) := D1 (Or.inr (hw _ (List.mem_of_getElem? (i := 56) rfl))) (ty := .byte) (by decide)
  refine own_thr (a := T1.setTop (mkF m 3 #[.val (.ref o1)] [(.ref b1)])) (fun t kt => st1 t kt) ?_
  refine own_thr (a := T1.setTop (mkF m 5 #[.val (.ref o1)] [(.ref o1), (.ref b1), (.ref b1)])) (fun t kt => ?_) ?_
  · show Steps p.tables e below (T1.setTop (mkF m 3 #[.val (.ref o1)] [(.ref b1)])) _
    refine XS.dup X1.here hx rfl (hb hby d13_3) rfl rfl ?_
    refine XS.aloadN X1.here hx rfl (hb hby d13_4) rfl rfl ?_
    exact kt
  obtain ⟨_, _, ⟨T3, L3, k3, n3⟩, -, X3, ⟨Lc3, hQ3, l3, y3, z3⟩, st3⟩ := X1.specialBack hx (y := (⟨"java/lang/String", "<init>", "(Ljava/lang/StringBuilder;)V"⟩ : MethodName)) rfl hown (mvT hZ (hw _ (List.mem_of_getElem? (i := 96) rfl))) (mvT hZ (hw _ (List.mem_of_getElem? (i := 97) rfl))) (mvT hZ (hw _ (List.mem_of_getElem? (i := 99) rfl))) (by decide) (backOf (W := 1) (rmI1q l Z a0 hw [] b1 o1 vb kb cs h1 n0 Z2 A1 F_value_b1 F_coder_b1 (E_o1.ext E1) (F_v1.ext E1) (F_c1.ext E1) (F_n1.ext E1) (V_vb.ext E1) (E_vb.ext E1) g_b1 ne_o1_b1 ne_vb_b1 (S_cs.ext E1) hcs) hZ (hw _ (List.mem_of_getElem? (i := 99) rfl)) (hw _ (List.mem_of_getElem? (i := 24) rfl)) (by decide) (by decide)) (g := (mkF m 5 #[.val (.ref o1)] [(.ref o1), (.ref b1), (.ref b1)])) rfl (by rw [hml]; rfl) (Steps.refl _) (a := b1) (argsL := [(.ref o1)]) (rest := [(.ref b1)]) (lenOf pd__28Ljava_2flang_2fStringBuilder_3b_29V rfl) rfl (by show 2 * 0 + _ ≤ _; exact Nat.le_of_eq rfl) (hb hby d13_5) (fun _ _ => ⟨rfl, e1, (by decide : 1 + 1 ≤ _), (by decide : 4 + 14 ≤ _)⟩)
  dsimp only [Pt.U, Pt.locs, Pt.cells, Pt.slots] at X3 l3 y3 z3 st3 hQ3
  obtain ⟨rfl, N3q, K3, o3_e, o3_c, sv3, ks3, o3_v, o3_a⟩ := hQ3
  have Z4 : n0 ≤ T3.heap.size := Nat.le_trans Z2 K3.1
  have Z4h : h0.size ≤ T3.heap.size := Nat.le_trans Z2h K3.1
  obtain ⟨lc3, X3, N3⟩ := own_pack X3 l3 y3 z3 N0 N3q (C := 2) (S' := 18) rfl rfl
  refine own_thr (a := T3.setTop (mkF m 8 #[.val (.ref o1)] [(.ref b1)])) (fun t kt => st3.trans kt) ?_
  exact own_end X3 hlk (v := some (.ref b1)) (fun h => by rw [Bd.returns] at h; cases h) (fun fs hr => retA X3 hx Bd.returns rfl rfl (hb hby d13_8) hr) ⟨b1, rfl, N3, (((Keep.refl h0 []).ext E1).trans K3 (allS (Or.inr sz_b1) all0)), o3_e, o3_c, sv3, _, o3_v, o3_a⟩ (by decide : 2 ≤ _) (by decide : 18 ≤ _)
theorem d1_0 : decode prog_1_method_6_code 0 = .ok (.new 56, 3) := by decide +kernel
theorem d1_3 : decode prog_1_method_6_code 3 = .ok (.dup, 1) := by decide +kernel
theorem pd__28_29V : parseMethodDescriptor "()V" = some ⟨[], none⟩ := by decide +kernel
theorem d1_4 : decode prog_1_method_6_code 4 = .ok (.invokespecial 58, 3) := by decide +kernel
theorem d1_7 : decode prog_1_method_6_code 7 = .ok (.aload_n 0, 1) := by decide +kernel
theorem d1_8 : decode prog_1_method_6_code 8 = .ok (.getfield 29, 3) := by decide +kernel
theorem pd__28Ljava_2flang_2fString_3b_29Ljava_2flang_2fStringBuilder_3b : parseMethodDescriptor "(Ljava/lang/String;)Ljava/lang/StringBuilder;" = some ⟨[(.object "java/lang/String")], some (.object "java/lang/StringBuilder")⟩ := by decide +kernel
theorem d1_11 : decode prog_1_method_6_code 11 = .ok (.invokevirtual 61, 3) := by decide +kernel
theorem d1_14 : decode prog_1_method_6_code 14 = .ok (.ldc 65, 2) := by decide +kernel
theorem d1_16 : decode prog_1_method_6_code 16 = .ok (.invokevirtual 61, 3) := by decide +kernel
theorem d1_19 : decode prog_1_method_6_code 19 = .ok (.aload_n 0, 1) := by decide +kernel
theorem d1_20 : decode prog_1_method_6_code 20 = .ok (.getfield 33, 3) := by decide +kernel
theorem d1_23 : decode prog_1_method_6_code 23 = .ok (.invokevirtual 61, 3) := by decide +kernel
theorem pd__28_29Ljava_2flang_2fString_3b : parseMethodDescriptor "()Ljava/lang/String;" = some ⟨[], some (.object "java/lang/String")⟩ := by decide +kernel
theorem d1_26 : decode prog_1_method_6_code 26 = .ok (.invokevirtual 67, 3) := by decide +kernel
theorem d1_29 : decode prog_1_method_6_code 29 = .ok (.areturn, 1) := by decide +kernel
theorem pn_com_example_durable_dispatch_durabledispatch_cli_Option : plainName "com/example/durable_dispatch/durabledispatch/cli/Option" = true := by first | (simp [plainName, overriddenIn]; done) | decide +kernel
theorem ef_rmSYu (m : MethodId) (o0 : Addr)  : entryFrame m #[(.ref o0)] 1 = mkF m 0 #[.val (.ref o0)] [] := by first |  (simp [entryFrame, mkF, argsToLocals, Value.category]; done) | rfl
def Q_rmSYu (Z : State) (o0 : Addr) (fl : Addr) (fv : Addr) (kf : ClassId) (pl : Addr) (pv : Addr) (kp : ClassId) (cs : Int32) (h0 : Heap) (n0 : Nat) (v : Option Value) (h : Heap) (L : List Loc) : Prop := ∃ r : Addr, v = some (.ref r) ∧ Fr n0 L ∧ Keep h0 h [] ∧ Exa Z h r "java/lang/String" ∧ Fld Z h r "java/lang/String" "coder" "B" (.int 0) ∧ (∃ (b : Addr) (k : ClassId), Fld Z h r "java/lang/String" "value" "[B" (.ref b) ∧ Arv Z h b k .byte (16 : Int32) [(.int 45), (.int 45), (.int 117), (.int 114), (.int 108), (.int 32), (.int 60), (.int 74), (.int 68), (.int 66), (.int 67), (.int 32), (.int 85), (.int 82), (.int 76), (.int 62)] (.int 0))
set_option maxRecDepth 65536 in
set_option maxHeartbeats 40000000 in
theorem rmSYu (l : Launch) (Z : State) (a0 : Array Value) (hw : ∀ d ∈ tables_1, d.before a0 Z = true) (ws : List Jvm.Cond) (o0 : Addr) (fl : Addr) (fv : Addr) (kf : ClassId) (pl : Addr) (pv : Addr) (kp : ClassId) (cs : Int32) (h0 : Heap) (n0 : Nat) (Z0 : n0 ≤ h0.size) (E_o0 : Exa Z h0 o0 "com/example/durable_dispatch/durabledispatch/cli/Option") (F_fl : Fld Z h0 o0 "com/example/durable_dispatch/durabledispatch/cli/Option" "flag" "Ljava/lang/String;" (.ref fl)) (F_pl : Fld Z h0 o0 "com/example/durable_dispatch/durabledispatch/cli/Option" "placeholder" "Ljava/lang/String;" (.ref pl)) (E_fl : Exa Z h0 fl "java/lang/String") (F_fv : Fld Z h0 fl "java/lang/String" "value" "[B" (.ref fv)) (F_flc : Fld Z h0 fl "java/lang/String" "coder" "B" (.int 0)) (V_fv : Arv Z h0 fv kf .byte (5 : Int32) [(.int 45), (.int 45), (.int 117), (.int 114), (.int 108)] (.int 0)) (E_pl : Exa Z h0 pl "java/lang/String") (F_pv : Fld Z h0 pl "java/lang/String" "value" "[B" (.ref pv)) (F_plc : Fld Z h0 pl "java/lang/String" "coder" "B" (.int 0)) (V_pv : Arv Z h0 pv kp .byte (10 : Int32) [(.int 60), (.int 74), (.int 68), (.int 66), (.int 67), (.int 32), (.int 85), (.int 82), (.int 76), (.int 62)] (.int 0)) (S_cs : Sta Z Z.heap "java/lang/String" "COMPACT_STRINGS" "Z" (.int cs)) (hcs : ¬ cs = (0 : Int32)) (hO : Old Z n0 h0) :
    MetFree l (⟨"com/example/durable_dispatch/durabledispatch/cli/Option", "synopsis", "()Ljava/lang/String;"⟩ : MethodName) (head1 (Jvm.Cond.code (⟨"com/example/durable_dispatch/durabledispatch/cli/Option", "synopsis", "()Ljava/lang/String;"⟩ : MethodName) prog_1_method_6_code 1 (some (.object "java/lang/String")) :: ws) ({ frames := 5, cells := 6, slots := 48, locals := 74 } : Room)) (fun a U => a = #[(.ref o0)] ∧ Z.Warmed39 U.vm ∧ U.heap = h0 ∧ CHv Z own_EL U.vm h0) (fun _ _ _ _ _ => True) (fun _ U o U' => ∃ v L, o = .returned v ∧ Q_rmSYu Z o0 fl fv kf pl pv kp cs h0 n0 v U'.heap L ∧ CHr Z own_EL U.vm U.heap U'.vm U'.heap ∧ ReturnedEndW U o U' L ({ frames := 5, cells := 6, slots := 48, locals := 74 } : Room).cells ({ frames := 5, cells := 6, slots := 48, locals := 74 } : Room).slots) := by
  refine MetFree.of_bodySF (plainFor_of_name pn_com_example_durable_dispatch_durabledispatch_cli_Option) hisR ?_
  intro p e s m args below meth c s₁ Bd hml0 hP hK
  obtain ⟨rfl, hZ, hh, hCH0⟩ := hP
  have hx := Bd.exec
  have hby := Bd.bytes
  have hml : c.maxLocals = 1 := hml0
  have hown : s.vm.findClass "com/example/durable_dispatch/durabledispatch/cli/Option" = some m.cls := findClass_of_methodNamed Bd.named
  have hnm := (name_of_methodNamed Bd.named Bd.method).1
  have hlk := Bd.notSynchronized
  have X0 : Stand p l e ({ frames := 5, cells := 6, slots := 48, locals := 74 } : Room) (s.setVm s.vm) m #[(.ref o0)] below meth c s₁ [] 0 0 := Stand.of_body Bd
  have e0 : s₁.heap = h0 := by rw [← hh, Bd.state]; rfl
  have N0 := Fr.nil n0
  show own_GH p.tables e below s Z own_EL (Q_rmSYu Z o0 fl fv kf pl pv kp cs h0 n0) ({ frames := 5, cells := 6, slots := 48, locals := 74 } : Room).cells ({ frames := 5, cells := 6, slots := 48, locals := 74 } : Room).slots _
  have hS0 : s.Since s.vm 0 := (State.WarmedH.refl s).since 0
  have hEL := own_EW hw
  have CH0 : CHr Z own_EL s.vm h0 s.vm h0 := CHr.refl hCH0
  refine own_thrH (a := s₁.setTop (mkF m 0 #[.val (.ref o0)] [])) (fun t kt => castTop (ef_rmSYu m o0) kt) ?_
  obtain ⟨T1, h1, X1, e1, E1, A1, D1, U1, st1⟩ := newO X0 hx hZ hown (hw _ (List.mem_of_getElem? (i := 8) rfl)) (hw _ (List.mem_of_getElem? (i := 9) rfl)) (hw _ (List.mem_of_getElem? (i := 10) rfl)) e0 (g := (mkF m 0 #[.val (.ref o0)] [])) rfl (hb hby d1_0) (by decide : 0 + 1 ≤ _) (by decide : 0 + 4 ≤ _)
  obtain ⟨b1, g1⟩ : ∃ z, z = h0.size := ⟨_, rfl⟩
  rw [← g1] at A1 D1 st1 U1
  have g_b1 : n0 ≤ b1 := Nat.le_trans Z0 (Nat.le_of_eq g1.symm)
  have sz_b1 : h0.size ≤ b1 := Nat.le_trans (Nat.le_refl h0.size) (Nat.le_of_eq g1.symm)
  have lt_o0_b1 : o0 < b1 := Nat.lt_of_lt_of_le E_o0.lt (Nat.le_of_eq g1.symm)
  have ne_o0_b1 : o0 ≠ b1 := Nat.ne_of_lt lt_o0_b1
  have lt_fl_b1 : fl < b1 := Nat.lt_of_lt_of_le E_fl.lt (Nat.le_of_eq g1.symm)
  have ne_fl_b1 : fl ≠ b1 := Nat.ne_of_lt lt_fl_b1
  have lt_fv_b1 : fv < b1 := Nat.lt_of_lt_of_le V_fv.lt (Nat.le_of_eq g1.symm)
  have ne_fv_b1 : fv ≠ b1 := Nat.ne_of_lt lt_fv_b1
  have lt_pl_b1 : pl < b1 := Nat.lt_of_lt_of_le E_pl.lt (Nat.le_of_eq g1.symm)
  have ne_pl_b1 : pl ≠ b1 := Nat.ne_of_lt lt_pl_b1
  have lt_pv_b1 : pv < b1 := Nat.lt_of_lt_of_le V_pv.lt (Nat.le_of_eq g1.symm)
  have ne_pv_b1 : pv ≠ b1 := Nat.ne_of_lt lt_pv_b1
  have CH2 := CH0.trans (CHr.ext E1 CH0.1)
  have Z3 : n0 ≤ h1.size := Nat.le_trans Z0 E1.1
  have Z3h : h0.size ≤ h1.size := Nat.le_trans (Nat.le_refl h0.size) E1.1
  have F_value_b1 : Fld Z h1 b1 "java/lang/AbstractStringBuilder" "value" "[B" .null := D1 (Or.inl (hw _ (List.mem_of_getElem? (i := 27) rfl))) (ty := (.array .byte)) (by decide)
  have F_coder_b1 : Fld Z h1 b1 "java/lang/AbstractStringBuilder" "coder" "B" (.int 0) := D1 (Or.inl (hw _ (List.mem_of_getElem? (i := 29) rfl))) (ty := .byte) (by decide)
  have F_count_b1 : Fld Z h1 b1 "java/lang/AbstractStringBuilder" "count" "I" (.int 0) := D1 (Or.inl (hw _ (List.mem_of_getElem? (i := 58) rfl))) (ty := .int) (by decide)
  refine own_thrH (a := T1.setTop (mkF m 3 #[.val (.ref o0)] [(.ref b1)])) (fun t kt => st1 t kt) ?_
  have S4 := S_cs.ext (hO.ext E1).2
  refine own_thrH (a := T1.setTop (mkF m 4 #[.val (.ref o0)] [(.ref b1), (.ref b1)])) (fun t kt => ?_) ?_
  · show Steps p.tables e below (T1.setTop (mkF m 3 #[.val (.ref o0)] [(.ref b1)])) _
    refine XS.dup X1.here hx rfl (hb hby d1_3) rfl rfl ?_
    exact kt
  obtain ⟨_, _, ⟨T5, L5, k5, n5⟩, -, X5, ⟨Lc5, hQ5, l5, y5, z5⟩, st5⟩ := X1.specialBack hx (y := (⟨"java/lang/StringBuilder", "<init>", "()V"⟩ : MethodName)) rfl hown (mvT hZ (hw _ (List.mem_of_getElem? (i := 11) rfl))) (mvT hZ (hw _ (List.mem_of_getElem? (i := 12) rfl))) (mvT hZ (hw _ (List.mem_of_getElem? (i := 13) rfl))) (by decide) (backOf (W := 1) (rmSI l Z a0 hw [] b1 cs h1 n0 Z3 A1 F_value_b1 F_coder_b1 F_count_b1 g_b1 S4 hcs) hZ (hw _ (List.mem_of_getElem? (i := 13) rfl)) (hw _ (List.mem_of_getElem? (i := 10) rfl)) (by decide) (by decide)) (g := (mkF m 4 #[.val (.ref o0)] [(.ref b1), (.ref b1)])) rfl (by rw [hml]; rfl) (Steps.refl _) (a := b1) (argsL := []) (rest := [(.ref b1)]) (lenOf pd__28_29V rfl) rfl (by show 2 * 0 + _ ≤ _; exact Nat.le_of_eq rfl) (hb hby d1_4) (fun _ _ => ⟨rfl, e1, (by decide : 1 + 1 ≤ _), (by decide : 4 + 16 ≤ _)⟩)
  dsimp only [Pt.U, Pt.locs, Pt.cells, Pt.slots] at X5 l5 y5 z5 st5 hQ5
  obtain ⟨vb5, kb5, rfl, N5q, K5, o5_e, o5_v, o5_c, o5_n, o5_a, hsz5, o5_x⟩ := hQ5
  have ne_o0_vb5 : o0 ≠ vb5 := Nat.ne_of_lt (Nat.lt_of_lt_of_le (E_o0.ext E1).lt hsz5)
  have ne_fl_vb5 : fl ≠ vb5 := Nat.ne_of_lt (Nat.lt_of_lt_of_le (E_fl.ext E1).lt hsz5)
  have ne_fv_vb5 : fv ≠ vb5 := Nat.ne_of_lt (Nat.lt_of_lt_of_le (V_fv.ext E1).lt hsz5)
  have ne_pl_vb5 : pl ≠ vb5 := Nat.ne_of_lt (Nat.lt_of_lt_of_le (E_pl.ext E1).lt hsz5)
  have ne_pv_vb5 : pv ≠ vb5 := Nat.ne_of_lt (Nat.lt_of_lt_of_le (V_pv.ext E1).lt hsz5)
  have ne_b1_vb5 : b1 ≠ vb5 := Nat.ne_of_lt (Nat.lt_of_lt_of_le A1.lt hsz5)
  have g_vb5 : n0 ≤ vb5 := Nat.le_trans Z3 hsz5
  have sz_vb5 : h0.size ≤ vb5 := Nat.le_trans Z3h hsz5
  have sf_vb5 := Safe.new (Z := Z) (EL := own_EL) (vm := s.vm) hsz5
  have sf7 := Safe.keep K5 (allS (Safe.exa hZ.alike A1 (by decide) (by decide)) all0) CH2.1 sf_vb5
  have CH6 := CH2.trans (CHr.keep K5 (allS (Safe.exa hZ.alike A1 (by decide) (by decide)) all0) CH2.1)
  have Z8 : n0 ≤ T5.heap.size := Nat.le_trans Z3 K5.1
  have Z8h : h0.size ≤ T5.heap.size := Nat.le_trans Z3h K5.1
  obtain ⟨lc5, X5, N5⟩ := own_pack X5 l5 y5 z5 N0 N5q (C := 2) (S' := 20) rfl rfl
  refine own_thrH (a := T5.setTop (mkF m 7 #[.val (.ref o0)] [(.ref b1)])) (fun t kt => st5.trans kt) ?_
  refine own_thrH (a := T5.setTop (mkF m 8 #[.val (.ref o0)] [(.ref o0), (.ref b1)])) (fun t kt => ?_) ?_
  · show Steps p.tables e below (T5.setTop (mkF m 7 #[.val (.ref o0)] [(.ref b1)])) _
    refine XS.aloadN X5.here hx rfl (hb hby d1_7) rfl rfl ?_
    exact kt
  obtain ⟨T9, X9, e9, st9⟩ := getF X5 hx hZ hown (host := "") (Or.inl (hw _ (List.mem_of_getElem? (i := 30) rfl))) Via.refl rfl ((F_fl.ext E1).keep K5 (ninS ne_o0_b1 nin0)) (g := (mkF m 8 #[.val (.ref o0)] [(.ref o0), (.ref b1)])) rfl rfl (hb hby d1_8)
  refine own_thrH (a := T9.setTop (mkF m 11 #[.val (.ref o0)] [(.ref fl), (.ref b1)])) (fun t kt => st9 t kt) ?_
  have S10 := S_cs.ext ((hO.ext E1).keep K5 (allS g_b1 all0)).2
  obtain ⟨cq11, kq11, q11a, q11b, q11c⟩ := isOf hZ e9 o5_e
  obtain ⟨_, _, ⟨T11, L11, k11, n11⟩, -, X11, ⟨Lc11, hQ11, l11, y11, z11⟩, st11⟩ := X9.virtualBack hx (y := (⟨"java/lang/StringBuilder", "append", "(Ljava/lang/String;)Ljava/lang/StringBuilder;"⟩ : MethodName)) (z := (⟨"java/lang/StringBuilder", "append", "(Ljava/lang/String;)Ljava/lang/StringBuilder;"⟩ : MethodName)) hown (mvT hZ (hw _ (List.mem_of_getElem? (i := 32) rfl))) (mvT hZ (hw _ (List.mem_of_getElem? (i := 33) rfl))) (notFace_of_selects (args := #[]) (mvT hZ (hw _ (List.mem_of_getElem? (i := 35) rfl)))) (mvT hZ (hw _ (List.mem_of_getElem? (i := 35) rfl))) (mvT hZ (hw _ (List.mem_of_getElem? (i := 34) rfl))) (by decide) (backOf (W := 0) (rmSAu1 l Z a0 hw [] b1 fl vb5 kb5 fv kf cs T5.heap n0 Z8 o5_e o5_v o5_c o5_n ((E_fl.ext E1).keep K5) ((F_fv.ext E1).keep K5 (ninS ne_fl_b1 nin0)) ((F_flc.ext E1).keep K5 (ninS ne_fl_b1 nin0)) o5_a ((V_fv.ext E1).keep K5 (ninS ne_fv_b1 nin0)) S10 g_b1 g_vb5 ne_b1_vb5 ne_fv_vb5 ne_fl_vb5 ne_fl_b1 ne_fv_b1 hcs) hZ (hw _ (List.mem_of_getElem? (i := 36) rfl)) (hw _ (List.mem_of_getElem? (i := 10) rfl)) (by decide) (by decide)) q11a q11c (g := (mkF m 11 #[.val (.ref o0)] [(.ref fl), (.ref b1)])) rfl (by rw [hml]; rfl) (Steps.refl _) (argsL := [(.ref fl)]) (rest := []) (lenOf pd__28Ljava_2flang_2fString_3b_29Ljava_2flang_2fStringBuilder_3b rfl) rfl (by show 2 * 0 + _ ≤ _; exact Nat.le_of_eq rfl) (hb hby d1_11) (fun _ _ => ⟨rfl, e9, (by decide : 2 + 0 ≤ _), (by decide : 20 + 0 ≤ _)⟩)
  dsimp only [Pt.U, Pt.locs, Pt.cells, Pt.slots] at X11 l11 y11 z11 st11 hQ11
  obtain ⟨rfl, N11q, K11, o11_0, o11_1, o11_2, o11_3, o11_4⟩ := hQ11
  have sf13 := Safe.keep K11 (allS (Safe.exa hZ.alike o5_e (by decide) (by decide)) (allS sf7 all0)) CH6.1 sf7
  have CH12 := CH6.trans (CHr.keep K11 (allS (Safe.exa hZ.alike o5_e (by decide) (by decide)) (allS sf7 all0)) CH6.1)
  have Z14 : n0 ≤ T11.heap.size := Nat.le_trans Z8 K11.1
  have Z14h : h0.size ≤ T11.heap.size := Nat.le_trans Z8h K11.1
  obtain ⟨lc11, X11, N11⟩ := own_pack X11 l11 y11 z11 N5 N11q (C := 2) (S' := 20) rfl rfl
  refine own_thrH (a := T11.setTop (mkF m 14 #[.val (.ref o0)] [(.ref b1)])) (fun t kt => st11.trans kt) ?_
  have c16 := (((V_fv.ext E1).keep K5 (ninS ne_fv_b1 nin0)).keep K11 (ninS ne_fv_b1 (ninS ne_fv_vb5 nin0)))
  have c17 := (((V_pv.ext E1).keep K5 (ninS ne_pv_b1 nin0)).keep K11 (ninS ne_pv_b1 (ninS ne_pv_vb5 nin0)))
  obtain ⟨b15, T15, h15, kk15, d15, kc15, X15, e15, E15, hS15, hk15, hZ15, hown15, oE15, oC15, oV15, oA15, -, -, ch15, -, sfq15, st15⟩ := ldcCH X11 hx hZ hown (hw _ (List.mem_of_getElem? (i := 84) rfl)) (fun a ha => hw a (own_sa a ha)) rfl hS0 (Nat.zero_le _) hEL (by decide) CH12.1 (vs := [(.int 32)]) (z := (1 : Int32)) ⟨by decide, rfl⟩ (by decide) rfl (g := (mkF m 14 #[.val (.ref o0)] [(.ref b1)])) rfl (hb hby d1_14) (n := 4) (by decide) (by decide) (by decide : 2 + 2 ≤ _) (by decide : 20 + 8 ≤ _)
  have sf18 := Safe.exa (EL := own_EL) hZ.alike o11_0 (by decide) (by decide)
  have sf19 := CHr.safe ch15 (o5_x.keep K11).lt sf13
  have sf20 := CHr.safe ch15 o11_0.lt sf18
  have Z21 : n0 ≤ h15.size := Nat.le_trans Z14 E15.1
  have Z21h : h0.size ≤ h15.size := Nat.le_trans Z14h E15.1
  have CHl15 := CH12.trans ch15
  have ne_vb5_b15 : vb5 ≠ b15 := (sfq15 _ sf19).1
  have ne_vb5_d15 : vb5 ≠ d15 := (sfq15 _ sf19).2
  have ne_b1_b15 : b1 ≠ b15 := (sfq15 _ sf20).1
  have ne_b1_d15 : b1 ≠ d15 := (sfq15 _ sf20).2
  refine own_thrH (a := T15.setTop (mkF m 16 #[.val (.ref o0)] [(.ref b15), (.ref b1)])) (fun t kt => st15 t kt) ?_
  have c23 := ((((hO.ext E1).keep K5 (allS g_b1 all0)).keep K11 (allS g_b1 (allS g_vb5 all0))).ext E15)
  have S22 := S_cs.ext c23.2
  obtain ⟨cq24, kq24, q24a, q24b, q24c⟩ := isOf hZ15 e15 (o11_0.ext E15)
  obtain ⟨_, _, ⟨T24, L24, k24, n24⟩, -, X24, ⟨Lc24, hQ24, l24, y24, z24⟩, st24⟩ := X15.virtualBack hx (y := (⟨"java/lang/StringBuilder", "append", "(Ljava/lang/String;)Ljava/lang/StringBuilder;"⟩ : MethodName)) (z := (⟨"java/lang/StringBuilder", "append", "(Ljava/lang/String;)Ljava/lang/StringBuilder;"⟩ : MethodName)) hown15 (mvT hZ15 (hw _ (List.mem_of_getElem? (i := 32) rfl))) (mvT hZ15 (hw _ (List.mem_of_getElem? (i := 33) rfl))) (notFace_of_selects (args := #[]) (mvT hZ15 (hw _ (List.mem_of_getElem? (i := 35) rfl)))) (mvT hZ15 (hw _ (List.mem_of_getElem? (i := 35) rfl))) (mvT hZ15 (hw _ (List.mem_of_getElem? (i := 34) rfl))) (by decide) (backOf (W := 0) (rmSAu2 l Z a0 hw [] b1 b15 vb5 kb5 d15 kc15 cs h15 n0 Z21 (o11_0.ext E15) (o11_1.ext E15) (o11_2.ext E15) (o11_3.ext E15) oE15 oV15 oC15 (o11_4.ext E15) oA15 S22 g_b1 g_vb5 ne_b1_vb5 (Ne.symm ne_vb5_d15) (Ne.symm ne_vb5_b15) (Ne.symm ne_b1_b15) (Ne.symm ne_b1_d15) hcs) hZ15 (hw _ (List.mem_of_getElem? (i := 36) rfl)) (hw _ (List.mem_of_getElem? (i := 10) rfl)) (by decide) (by decide)) q24a q24c (g := (mkF m 16 #[.val (.ref o0)] [(.ref b15), (.ref b1)])) rfl (by rw [hml]; rfl) (Steps.refl _) (argsL := [(.ref b15)]) (rest := []) (lenOf pd__28Ljava_2flang_2fString_3b_29Ljava_2flang_2fStringBuilder_3b rfl) rfl (by show 2 * 0 + _ ≤ _; exact Nat.le_of_eq rfl) (hb hby d1_16) (fun _ _ => ⟨rfl, e15, (by decide : 4 + 0 ≤ _), (by decide : 28 + 0 ≤ _)⟩)
  dsimp only [Pt.U, Pt.locs, Pt.cells, Pt.slots] at X24 l24 y24 z24 st24 hQ24
  obtain ⟨rfl, N24q, K24, o24_0, o24_1, o24_2, o24_3, o24_4⟩ := hQ24
  have sf26 := Safe.keep K24 (allS sf20 (allS sf19 all0)) CHl15.1 sf19
  have sf27 := Safe.keep K24 (allS sf20 (allS sf19 all0)) CHl15.1 sf20
  have CH25 := CHl15.trans (CHr.keep K24 (allS sf20 (allS sf19 all0)) CHl15.1)
  have Z28 : n0 ≤ T24.heap.size := Nat.le_trans Z21 K24.1
  have Z28h : h0.size ≤ T24.heap.size := Nat.le_trans Z21h K24.1
  have Z28k := Nat.le_trans hk15 K24.1
  obtain ⟨lc24, X24, N24⟩ := own_pack X24 l24 y24 z24 N11 N24q (C := 4) (S' := 28) rfl rfl
  refine own_thrH (a := T24.setTop (mkF m 19 #[.val (.ref o0)] [(.ref b1)])) (fun t kt => st24.trans kt) ?_
  refine own_thrH (a := T24.setTop (mkF m 20 #[.val (.ref o0)] [(.ref o0), (.ref b1)])) (fun t kt => ?_) ?_
  · show Steps p.tables e below (T24.setTop (mkF m 19 #[.val (.ref o0)] [(.ref b1)])) _
    refine XS.aloadN X24.here hx rfl (hb hby d1_19) rfl rfl ?_
    exact kt
  have c29 := (((((F_pl.ext E1).keep K5 (ninS ne_o0_b1 nin0)).keep K11 (ninS ne_o0_b1 (ninS ne_o0_vb5 nin0))).ext E15).keep K24 (ninS ne_o0_b1 (ninS ne_o0_vb5 nin0)))
  obtain ⟨T30, X30, e30, st30⟩ := getF X24 hx hZ15 hown15 (host := "") (Or.inl (hw _ (List.mem_of_getElem? (i := 88) rfl))) Via.refl rfl c29 (g := (mkF m 20 #[.val (.ref o0)] [(.ref o0), (.ref b1)])) rfl rfl (hb hby d1_20)
  refine own_thrH (a := T30.setTop (mkF m 23 #[.val (.ref o0)] [(.ref pl), (.ref b1)])) (fun t kt => st30 t kt) ?_
  have S31 := S_cs.ext (c23.keep K24 (allS g_b1 (allS g_vb5 all0))).2
  have c33 := (((((F_pv.ext E1).keep K5 (ninS ne_pl_b1 nin0)).keep K11 (ninS ne_pl_b1 (ninS ne_pl_vb5 nin0))).ext E15).keep K24 (ninS ne_pl_b1 (ninS ne_pl_vb5 nin0)))
  have c34 := (((((F_plc.ext E1).keep K5 (ninS ne_pl_b1 nin0)).keep K11 (ninS ne_pl_b1 (ninS ne_pl_vb5 nin0))).ext E15).keep K24 (ninS ne_pl_b1 (ninS ne_pl_vb5 nin0)))
  have c35 := ((c17.ext E15).keep K24 (ninS ne_pv_b1 (ninS ne_pv_vb5 nin0)))
  obtain ⟨cq32, kq32, q32a, q32b, q32c⟩ := isOf hZ15 e30 o24_0
  obtain ⟨_, _, ⟨T32, L32, k32, n32⟩, -, X32, ⟨Lc32, hQ32, l32, y32, z32⟩, st32⟩ := X30.virtualBack hx (y := (⟨"java/lang/StringBuilder", "append", "(Ljava/lang/String;)Ljava/lang/StringBuilder;"⟩ : MethodName)) (z := (⟨"java/lang/StringBuilder", "append", "(Ljava/lang/String;)Ljava/lang/StringBuilder;"⟩ : MethodName)) hown15 (mvT hZ15 (hw _ (List.mem_of_getElem? (i := 32) rfl))) (mvT hZ15 (hw _ (List.mem_of_getElem? (i := 33) rfl))) (notFace_of_selects (args := #[]) (mvT hZ15 (hw _ (List.mem_of_getElem? (i := 35) rfl)))) (mvT hZ15 (hw _ (List.mem_of_getElem? (i := 35) rfl))) (mvT hZ15 (hw _ (List.mem_of_getElem? (i := 34) rfl))) (by decide) (backOf (W := 0) (rmSAu3 l Z a0 hw [] b1 pl vb5 kb5 pv kp cs T24.heap n0 Z28 o24_0 o24_1 o24_2 o24_3 (((((E_pl.ext E1).keep K5).keep K11).ext E15).keep K24) c33 c34 o24_4 c35 S31 g_b1 g_vb5 ne_b1_vb5 ne_pv_vb5 ne_pl_vb5 ne_pl_b1 ne_pv_b1 hcs) hZ15 (hw _ (List.mem_of_getElem? (i := 36) rfl)) (hw _ (List.mem_of_getElem? (i := 10) rfl)) (by decide) (by decide)) q32a q32c (g := (mkF m 23 #[.val (.ref o0)] [(.ref pl), (.ref b1)])) rfl (by rw [hml]; rfl) (Steps.refl _) (argsL := [(.ref pl)]) (rest := []) (lenOf pd__28Ljava_2flang_2fString_3b_29Ljava_2flang_2fStringBuilder_3b rfl) rfl (by show 2 * 0 + _ ≤ _; exact Nat.le_of_eq rfl) (hb hby d1_23) (fun _ _ => ⟨rfl, e30, (by decide : 4 + 0 ≤ _), (by decide : 28 + 0 ≤ _)⟩)
  dsimp only [Pt.U, Pt.locs, Pt.cells, Pt.slots] at X32 l32 y32 z32 st32 hQ32
  obtain ⟨rfl, N32q, K32, o32_0, o32_1, o32_2, o32_3, o32_4⟩ := hQ32
  have sf37 := Safe.keep K32 (allS sf27 (allS sf26 all0)) CH25.1 sf26
  have sf38 := Safe.keep K32 (allS sf27 (allS sf26 all0)) CH25.1 sf27
  have CH36 := CH25.trans (CHr.keep K32 (allS sf27 (allS sf26 all0)) CH25.1)
  have Z39 : n0 ≤ T32.heap.size := Nat.le_trans Z28 K32.1
  have Z39h : h0.size ≤ T32.heap.size := Nat.le_trans Z28h K32.1
  have Z39k := Nat.le_trans Z28k K32.1
  obtain ⟨lc32, X32, N32⟩ := own_pack X32 l32 y32 z32 N24 N32q (C := 4) (S' := 28) rfl rfl
  refine own_thrH (a := T32.setTop (mkF m 26 #[.val (.ref o0)] [(.ref b1)])) (fun t kt => st32.trans kt) ?_
  have c41 := ((c23.keep K24 (allS g_b1 (allS g_vb5 all0))).keep K32 (allS g_b1 (allS g_vb5 all0)))
  have S40 := S_cs.ext c41.2
  obtain ⟨cq42, kq42, q42a, q42b, q42c⟩ := isOf hZ15 rfl o32_0
  obtain ⟨_, _, ⟨T42, L42, k42, n42⟩, -, X42, ⟨Lc42, hQ42, l42, y42, z42⟩, st42⟩ := X32.virtualBack hx (y := (⟨"java/lang/StringBuilder", "toString", "()Ljava/lang/String;"⟩ : MethodName)) (z := (⟨"java/lang/StringBuilder", "toString", "()Ljava/lang/String;"⟩ : MethodName)) hown15 (mvT hZ15 (hw _ (List.mem_of_getElem? (i := 90) rfl))) (mvT hZ15 (hw _ (List.mem_of_getElem? (i := 91) rfl))) (notFace_of_selects (args := #[]) (mvT hZ15 (hw _ (List.mem_of_getElem? (i := 93) rfl)))) (mvT hZ15 (hw _ (List.mem_of_getElem? (i := 93) rfl))) (mvT hZ15 (hw _ (List.mem_of_getElem? (i := 92) rfl))) (by decide) (backOf (W := 0) (rmTSu l Z a0 hw [] b1 vb5 kb5 cs T32.heap n0 Z39 o32_0 o32_1 o32_2 o32_3 o32_4 ((((o5_x.keep K11).ext E15).keep K24).keep K32) S40 hcs) hZ15 (hw _ (List.mem_of_getElem? (i := 94) rfl)) (hw _ (List.mem_of_getElem? (i := 10) rfl)) (by decide) (by decide)) q42a q42c (g := (mkF m 26 #[.val (.ref o0)] [(.ref b1)])) rfl (by rw [hml]; rfl) (Steps.refl _) (argsL := []) (rest := []) (lenOf pd__28_29Ljava_2flang_2fString_3b rfl) rfl (by show 2 * 0 + _ ≤ _; exact Nat.le_of_eq rfl) (hb hby d1_26) (fun _ _ => ⟨rfl, rfl, (by decide : 4 + 2 ≤ _), (by decide : 28 + 20 ≤ _)⟩)
  dsimp only [Pt.U, Pt.locs, Pt.cells, Pt.slots] at X42 l42 y42 z42 st42 hQ42
  obtain ⟨r42, rfl, N42q, K42, o42_e, o42_c, sv42, ks42, o42_v, o42_a⟩ := hQ42
  have sf44 := Safe.keep K42 all0 CH36.1 sf37
  have sf45 := Safe.keep K42 all0 CH36.1 sf38
  have CH43 := CH36.trans (CHr.keep K42 all0 CH36.1)
  have Z46 : n0 ≤ T42.heap.size := Nat.le_trans Z39 K42.1
  have Z46h : h0.size ≤ T42.heap.size := Nat.le_trans Z39h K42.1
  have Z46k := Nat.le_trans Z39k K42.1
  obtain ⟨lc42, X42, N42⟩ := own_pack X42 l42 y42 z42 N32 N42q (C := 6) (S' := 48) rfl rfl
  refine own_thrH (a := T42.setTop (mkF m 29 #[.val (.ref o0)] [(.ref r42)])) (fun t kt => st42.trans kt) ?_
  exact own_endH X42 hS15 Z46k hZ15 hEL CH43 hh rfl hlk (v := some (.ref r42)) (fun h => by rw [Bd.returns] at h; cases h) (fun fs hr => retA X42 hx Bd.returns rfl rfl (hb hby d1_29) hr) ⟨r42, rfl, N42, ((((((((Keep.refl h0 []).ext E1).trans K5 (allS (Or.inr sz_b1) all0)).trans K11 (allS (Or.inr sz_b1) (allS (Or.inr sz_vb5) all0))).ext E15).trans K24 (allS (Or.inr sz_b1) (allS (Or.inr sz_vb5) all0))).trans K32 (allS (Or.inr sz_b1) (allS (Or.inr sz_vb5) all0))).trans K42 all0), o42_e, o42_c, sv42, _, o42_v, o42_a⟩ (by decide : 6 ≤ _) (by decide : 48 ≤ _)
theorem ef_rmSYq (m : MethodId) (o0 : Addr)  : entryFrame m #[(.ref o0)] 1 = mkF m 0 #[.val (.ref o0)] [] := by first |  (simp [entryFrame, mkF, argsToLocals, Value.category]; done) | rfl
def Q_rmSYq (Z : State) (o0 : Addr) (fl : Addr) (fv : Addr) (kf : ClassId) (pl : Addr) (pv : Addr) (kp : ClassId) (cs : Int32) (h0 : Heap) (n0 : Nat) (v : Option Value) (h : Heap) (L : List Loc) : Prop := ∃ r : Addr, v = some (.ref r) ∧ Fr n0 L ∧ Keep h0 h [] ∧ Exa Z h r "java/lang/String" ∧ Fld Z h r "java/lang/String" "coder" "B" (.int 0) ∧ (∃ (b : Addr) (k : ClassId), Fld Z h r "java/lang/String" "value" "[B" (.ref b) ∧ Arv Z h b k .byte (14 : Int32) [(.int 45), (.int 45), (.int 113), (.int 117), (.int 101), (.int 117), (.int 101), (.int 32), (.int 60), (.int 110), (.int 97), (.int 109), (.int 101), (.int 62)] (.int 0))
set_option maxRecDepth 65536 in
set_option maxHeartbeats 40000000 in
theorem rmSYq (l : Launch) (Z : State) (a0 : Array Value) (hw : ∀ d ∈ tables_1, d.before a0 Z = true) (ws : List Jvm.Cond) (o0 : Addr) (fl : Addr) (fv : Addr) (kf : ClassId) (pl : Addr) (pv : Addr) (kp : ClassId) (cs : Int32) (h0 : Heap) (n0 : Nat) (Z0 : n0 ≤ h0.size) (E_o0 : Exa Z h0 o0 "com/example/durable_dispatch/durabledispatch/cli/Option") (F_fl : Fld Z h0 o0 "com/example/durable_dispatch/durabledispatch/cli/Option" "flag" "Ljava/lang/String;" (.ref fl)) (F_pl : Fld Z h0 o0 "com/example/durable_dispatch/durabledispatch/cli/Option" "placeholder" "Ljava/lang/String;" (.ref pl)) (E_fl : Exa Z h0 fl "java/lang/String") (F_fv : Fld Z h0 fl "java/lang/String" "value" "[B" (.ref fv)) (F_flc : Fld Z h0 fl "java/lang/String" "coder" "B" (.int 0)) (V_fv : Arv Z h0 fv kf .byte (7 : Int32) [(.int 45), (.int 45), (.int 113), (.int 117), (.int 101), (.int 117), (.int 101)] (.int 0)) (E_pl : Exa Z h0 pl "java/lang/String") (F_pv : Fld Z h0 pl "java/lang/String" "value" "[B" (.ref pv)) (F_plc : Fld Z h0 pl "java/lang/String" "coder" "B" (.int 0)) (V_pv : Arv Z h0 pv kp .byte (6 : Int32) [(.int 60), (.int 110), (.int 97), (.int 109), (.int 101), (.int 62)] (.int 0)) (S_cs : Sta Z Z.heap "java/lang/String" "COMPACT_STRINGS" "Z" (.int cs)) (hcs : ¬ cs = (0 : Int32)) (hO : Old Z n0 h0) :
    MetFree l (⟨"com/example/durable_dispatch/durabledispatch/cli/Option", "synopsis", "()Ljava/lang/String;"⟩ : MethodName) (head1 (Jvm.Cond.code (⟨"com/example/durable_dispatch/durabledispatch/cli/Option", "synopsis", "()Ljava/lang/String;"⟩ : MethodName) prog_1_method_6_code 1 (some (.object "java/lang/String")) :: ws) ({ frames := 6, cells := 6, slots := 46, locals := 91 } : Room)) (fun a U => a = #[(.ref o0)] ∧ Z.Warmed39 U.vm ∧ U.heap = h0 ∧ CHv Z own_EL U.vm h0) (fun _ _ _ _ _ => True) (fun _ U o U' => ∃ v L, o = .returned v ∧ Q_rmSYq Z o0 fl fv kf pl pv kp cs h0 n0 v U'.heap L ∧ CHr Z own_EL U.vm U.heap U'.vm U'.heap ∧ ReturnedEndW U o U' L ({ frames := 6, cells := 6, slots := 46, locals := 91 } : Room).cells ({ frames := 6, cells := 6, slots := 46, locals := 91 } : Room).slots) := by
  refine MetFree.of_bodySF (plainFor_of_name pn_com_example_durable_dispatch_durabledispatch_cli_Option) hisR ?_
  intro p e s m args below meth c s₁ Bd hml0 hP hK
  obtain ⟨rfl, hZ, hh, hCH0⟩ := hP
  have hx := Bd.exec
  have hby := Bd.bytes
  have hml : c.maxLocals = 1 := hml0
  have hown : s.vm.findClass "com/example/durable_dispatch/durabledispatch/cli/Option" = some m.cls := findClass_of_methodNamed Bd.named
  have hnm := (name_of_methodNamed Bd.named Bd.method).1
  have hlk := Bd.notSynchronized
  have X0 : Stand p l e ({ frames := 6, cells := 6, slots := 46, locals := 91 } : Room) (s.setVm s.vm) m #[(.ref o0)] below meth c s₁ [] 0 0 := Stand.of_body Bd
  have e0 : s₁.heap = h0 := by rw [← hh, Bd.state]; rfl
  have N0 := Fr.nil n0
  show own_GH p.tables e below s Z own_EL (Q_rmSYq Z o0 fl fv kf pl pv kp cs h0 n0) ({ frames := 6, cells := 6, slots := 46, locals := 91 } : Room).cells ({ frames := 6, cells := 6, slots := 46, locals := 91 } : Room).slots _
  have hS0 : s.Since s.vm 0 := (State.WarmedH.refl s).since 0
  have hEL := own_EW hw
  have CH0 : CHr Z own_EL s.vm h0 s.vm h0 := CHr.refl hCH0
  refine own_thrH (a := s₁.setTop (mkF m 0 #[.val (.ref o0)] [])) (fun t kt => castTop (ef_rmSYq m o0) kt) ?_
  obtain ⟨T1, h1, X1, e1, E1, A1, D1, U1, st1⟩ := newO X0 hx hZ hown (hw _ (List.mem_of_getElem? (i := 8) rfl)) (hw _ (List.mem_of_getElem? (i := 9) rfl)) (hw _ (List.mem_of_getElem? (i := 10) rfl)) e0 (g := (mkF m 0 #[.val (.ref o0)] [])) rfl (hb hby d1_0) (by decide : 0 + 1 ≤ _) (by decide : 0 + 4 ≤ _)
  obtain ⟨b1, g1⟩ : ∃ z, z = h0.size := ⟨_, rfl⟩
  rw [← g1] at A1 D1 st1 U1
  have g_b1 : n0 ≤ b1 := Nat.le_trans Z0 (Nat.le_of_eq g1.symm)
  have sz_b1 : h0.size ≤ b1 := Nat.le_trans (Nat.le_refl h0.size) (Nat.le_of_eq g1.symm)
  have lt_o0_b1 : o0 < b1 := Nat.lt_of_lt_of_le E_o0.lt (Nat.le_of_eq g1.symm)
  have ne_o0_b1 : o0 ≠ b1 := Nat.ne_of_lt lt_o0_b1
  have lt_fl_b1 : fl < b1 := Nat.lt_of_lt_of_le E_fl.lt (Nat.le_of_eq g1.symm)
  have ne_fl_b1 : fl ≠ b1 := Nat.ne_of_lt lt_fl_b1
  have lt_fv_b1 : fv < b1 := Nat.lt_of_lt_of_le V_fv.lt (Nat.le_of_eq g1.symm)
  have ne_fv_b1 : fv ≠ b1 := Nat.ne_of_lt lt_fv_b1
  have lt_pl_b1 : pl < b1 := Nat.lt_of_lt_of_le E_pl.lt (Nat.le_of_eq g1.symm)
  have ne_pl_b1 : pl ≠ b1 := Nat.ne_of_lt lt_pl_b1
  have lt_pv_b1 : pv < b1 := Nat.lt_of_lt_of_le V_pv.lt (Nat.le_of_eq g1.symm)
  have ne_pv_b1 : pv ≠ b1 := Nat.ne_of_lt lt_pv_b1
  have CH2 := CH0.trans (CHr.ext E1 CH0.1)
  have Z3 : n0 ≤ h1.size := Nat.le_trans Z0 E1.1
  have Z3h : h0.size ≤ h1.size := Nat.le_trans (Nat.le_refl h0.size) E1.1
  have F_value_b1 : Fld Z h1 b1 "java/lang/AbstractStringBuilder" "value" "[B" .null := D1 (Or.inl (hw _ (List.mem_of_getElem? (i := 27) rfl))) (ty := (.array .byte)) (by decide)
  have F_coder_b1 : Fld Z h1 b1 "java/lang/AbstractStringBuilder" "coder" "B" (.int 0) := D1 (Or.inl (hw _ (List.mem_of_getElem? (i := 29) rfl))) (ty := .byte) (by decide)
  have F_count_b1 : Fld Z h1 b1 "java/lang/AbstractStringBuilder" "count" "I" (.int 0) := D1 (Or.inl (hw _ (List.mem_of_getElem? (i := 58) rfl))) (ty := .int) (by decide)
  refine own_thrH (a := T1.setTop (mkF m 3 #[.val (.ref o0)] [(.ref b1)])) (fun t kt => st1 t kt) ?_
  have S4 := S_cs.ext (hO.ext E1).2
  refine own_thrH (a := T1.setTop (mkF m 4 #[.val (.ref o0)] [(.ref b1), (.ref b1)])) (fun t kt => ?_) ?_
  · show Steps p.tables e below (T1.setTop (mkF m 3 #[.val (.ref o0)] [(.ref b1)])) _
    refine XS.dup X1.here hx rfl (hb hby d1_3) rfl rfl ?_
    exact kt
  obtain ⟨_, _, ⟨T5, L5, k5, n5⟩, -, X5, ⟨Lc5, hQ5, l5, y5, z5⟩, st5⟩ := X1.specialBack hx (y := (⟨"java/lang/StringBuilder", "<init>", "()V"⟩ : MethodName)) rfl hown (mvT hZ (hw _ (List.mem_of_getElem? (i := 11) rfl))) (mvT hZ (hw _ (List.mem_of_getElem? (i := 12) rfl))) (mvT hZ (hw _ (List.mem_of_getElem? (i := 13) rfl))) (by decide) (backOf (W := 1) (rmSI l Z a0 hw [] b1 cs h1 n0 Z3 A1 F_value_b1 F_coder_b1 F_count_b1 g_b1 S4 hcs) hZ (hw _ (List.mem_of_getElem? (i := 13) rfl)) (hw _ (List.mem_of_getElem? (i := 10) rfl)) (by decide) (by decide)) (g := (mkF m 4 #[.val (.ref o0)] [(.ref b1), (.ref b1)])) rfl (by rw [hml]; rfl) (Steps.refl _) (a := b1) (argsL := []) (rest := [(.ref b1)]) (lenOf pd__28_29V rfl) rfl (by show 2 * 0 + _ ≤ _; exact Nat.le_of_eq rfl) (hb hby d1_4) (fun _ _ => ⟨rfl, e1, (by decide : 1 + 1 ≤ _), (by decide : 4 + 16 ≤ _)⟩)
  dsimp only [Pt.U, Pt.locs, Pt.cells, Pt.slots] at X5 l5 y5 z5 st5 hQ5
  obtain ⟨vb5, kb5, rfl, N5q, K5, o5_e, o5_v, o5_c, o5_n, o5_a, hsz5, o5_x⟩ := hQ5
  have ne_o0_vb5 : o0 ≠ vb5 := Nat.ne_of_lt (Nat.lt_of_lt_of_le (E_o0.ext E1).lt hsz5)
  have ne_fl_vb5 : fl ≠ vb5 := Nat.ne_of_lt (Nat.lt_of_lt_of_le (E_fl.ext E1).lt hsz5)
  have ne_fv_vb5 : fv ≠ vb5 := Nat.ne_of_lt (Nat.lt_of_lt_of_le (V_fv.ext E1).lt hsz5)
  have ne_pl_vb5 : pl ≠ vb5 := Nat.ne_of_lt (Nat.lt_of_lt_of_le (E_pl.ext E1).lt hsz5)
  have ne_pv_vb5 : pv ≠ vb5 := Nat.ne_of_lt (Nat.lt_of_lt_of_le (V_pv.ext E1).lt hsz5)
  have ne_b1_vb5 : b1 ≠ vb5 := Nat.ne_of_lt (Nat.lt_of_lt_of_le A1.lt hsz5)
  have g_vb5 : n0 ≤ vb5 := Nat.le_trans Z3 hsz5
  have sz_vb5 : h0.size ≤ vb5 := Nat.le_trans Z3h hsz5
  have sf_vb5 := Safe.new (Z := Z) (EL := own_EL) (vm := s.vm) hsz5
  have sf7 := Safe.keep K5 (allS (Safe.exa hZ.alike A1 (by decide) (by decide)) all0) CH2.1 sf_vb5
  have CH6 := CH2.trans (CHr.keep K5 (allS (Safe.exa hZ.alike A1 (by decide) (by decide)) all0) CH2.1)
  have Z8 : n0 ≤ T5.heap.size := Nat.le_trans Z3 K5.1
  have Z8h : h0.size ≤ T5.heap.size := Nat.le_trans Z3h K5.1
  obtain ⟨lc5, X5, N5⟩ := own_pack X5 l5 y5 z5 N0 N5q (C := 2) (S' := 20) rfl rfl
  refine own_thrH (a := T5.setTop (mkF m 7 #[.val (.ref o0)] [(.ref b1)])) (fun t kt => st5.trans kt) ?_
  refine own_thrH (a := T5.setTop (mkF m 8 #[.val (.ref o0)] [(.ref o0), (.ref b1)])) (fun t kt => ?_) ?_
  · show Steps p.tables e below (T5.setTop (mkF m 7 #[.val (.ref o0)] [(.ref b1)])) _
    refine XS.aloadN X5.here hx rfl (hb hby d1_7) rfl rfl ?_
    exact kt
  obtain ⟨T9, X9, e9, st9⟩ := getF X5 hx hZ hown (host := "") (Or.inl (hw _ (List.mem_of_getElem? (i := 30) rfl))) Via.refl rfl ((F_fl.ext E1).keep K5 (ninS ne_o0_b1 nin0)) (g := (mkF m 8 #[.val (.ref o0)] [(.ref o0), (.ref b1)])) rfl rfl (hb hby d1_8)
  refine own_thrH (a := T9.setTop (mkF m 11 #[.val (.ref o0)] [(.ref fl), (.ref b1)])) (fun t kt => st9 t kt) ?_
  have S10 := S_cs.ext ((hO.ext E1).keep K5 (allS g_b1 all0)).2
  obtain ⟨cq11, kq11, q11a, q11b, q11c⟩ := isOf hZ e9 o5_e
  obtain ⟨_, _, ⟨T11, L11, k11, n11⟩, -, X11, ⟨Lc11, hQ11, l11, y11, z11⟩, st11⟩ := X9.virtualBack hx (y := (⟨"java/lang/StringBuilder", "append", "(Ljava/lang/String;)Ljava/lang/StringBuilder;"⟩ : MethodName)) (z := (⟨"java/lang/StringBuilder", "append", "(Ljava/lang/String;)Ljava/lang/StringBuilder;"⟩ : MethodName)) hown (mvT hZ (hw _ (List.mem_of_getElem? (i := 32) rfl))) (mvT hZ (hw _ (List.mem_of_getElem? (i := 33) rfl))) (notFace_of_selects (args := #[]) (mvT hZ (hw _ (List.mem_of_getElem? (i := 35) rfl)))) (mvT hZ (hw _ (List.mem_of_getElem? (i := 35) rfl))) (mvT hZ (hw _ (List.mem_of_getElem? (i := 34) rfl))) (by decide) (backOf (W := 0) (rmSAq1 l Z a0 hw [] b1 fl vb5 kb5 fv kf cs T5.heap n0 Z8 o5_e o5_v o5_c o5_n ((E_fl.ext E1).keep K5) ((F_fv.ext E1).keep K5 (ninS ne_fl_b1 nin0)) ((F_flc.ext E1).keep K5 (ninS ne_fl_b1 nin0)) o5_a ((V_fv.ext E1).keep K5 (ninS ne_fv_b1 nin0)) S10 g_b1 g_vb5 ne_b1_vb5 ne_fv_vb5 ne_fl_vb5 ne_fl_b1 ne_fv_b1 hcs) hZ (hw _ (List.mem_of_getElem? (i := 36) rfl)) (hw _ (List.mem_of_getElem? (i := 10) rfl)) (by decide) (by decide)) q11a q11c (g := (mkF m 11 #[.val (.ref o0)] [(.ref fl), (.ref b1)])) rfl (by rw [hml]; rfl) (Steps.refl _) (argsL := [(.ref fl)]) (rest := []) (lenOf pd__28Ljava_2flang_2fString_3b_29Ljava_2flang_2fStringBuilder_3b rfl) rfl (by show 2 * 0 + _ ≤ _; exact Nat.le_of_eq rfl) (hb hby d1_11) (fun _ _ => ⟨rfl, e9, (by decide : 2 + 0 ≤ _), (by decide : 20 + 0 ≤ _)⟩)
  dsimp only [Pt.U, Pt.locs, Pt.cells, Pt.slots] at X11 l11 y11 z11 st11 hQ11
  obtain ⟨rfl, N11q, K11, o11_0, o11_1, o11_2, o11_3, o11_4⟩ := hQ11
  have sf13 := Safe.keep K11 (allS (Safe.exa hZ.alike o5_e (by decide) (by decide)) (allS sf7 all0)) CH6.1 sf7
  have CH12 := CH6.trans (CHr.keep K11 (allS (Safe.exa hZ.alike o5_e (by decide) (by decide)) (allS sf7 all0)) CH6.1)
  have Z14 : n0 ≤ T11.heap.size := Nat.le_trans Z8 K11.1
  have Z14h : h0.size ≤ T11.heap.size := Nat.le_trans Z8h K11.1
  obtain ⟨lc11, X11, N11⟩ := own_pack X11 l11 y11 z11 N5 N11q (C := 2) (S' := 20) rfl rfl
  refine own_thrH (a := T11.setTop (mkF m 14 #[.val (.ref o0)] [(.ref b1)])) (fun t kt => st11.trans kt) ?_
  have c16 := (((V_fv.ext E1).keep K5 (ninS ne_fv_b1 nin0)).keep K11 (ninS ne_fv_b1 (ninS ne_fv_vb5 nin0)))
  have c17 := (((V_pv.ext E1).keep K5 (ninS ne_pv_b1 nin0)).keep K11 (ninS ne_pv_b1 (ninS ne_pv_vb5 nin0)))
  obtain ⟨b15, T15, h15, kk15, d15, kc15, X15, e15, E15, hS15, hk15, hZ15, hown15, oE15, oC15, oV15, oA15, -, -, ch15, -, sfq15, st15⟩ := ldcCH X11 hx hZ hown (hw _ (List.mem_of_getElem? (i := 84) rfl)) (fun a ha => hw a (own_sa a ha)) rfl hS0 (Nat.zero_le _) hEL (by decide) CH12.1 (vs := [(.int 32)]) (z := (1 : Int32)) ⟨by decide, rfl⟩ (by decide) rfl (g := (mkF m 14 #[.val (.ref o0)] [(.ref b1)])) rfl (hb hby d1_14) (n := 4) (by decide) (by decide) (by decide : 2 + 2 ≤ _) (by decide : 20 + 8 ≤ _)
  have sf18 := Safe.exa (EL := own_EL) hZ.alike o11_0 (by decide) (by decide)
  have sf19 := CHr.safe ch15 (o5_x.keep K11).lt sf13
  have sf20 := CHr.safe ch15 o11_0.lt sf18
  have Z21 : n0 ≤ h15.size := Nat.le_trans Z14 E15.1
  have Z21h : h0.size ≤ h15.size := Nat.le_trans Z14h E15.1
  have CHl15 := CH12.trans ch15
  have ne_vb5_b15 : vb5 ≠ b15 := (sfq15 _ sf19).1
  have ne_vb5_d15 : vb5 ≠ d15 := (sfq15 _ sf19).2
  have ne_b1_b15 : b1 ≠ b15 := (sfq15 _ sf20).1
  have ne_b1_d15 : b1 ≠ d15 := (sfq15 _ sf20).2
  refine own_thrH (a := T15.setTop (mkF m 16 #[.val (.ref o0)] [(.ref b15), (.ref b1)])) (fun t kt => st15 t kt) ?_
  have c23 := ((((hO.ext E1).keep K5 (allS g_b1 all0)).keep K11 (allS g_b1 (allS g_vb5 all0))).ext E15)
  have S22 := S_cs.ext c23.2
  obtain ⟨cq24, kq24, q24a, q24b, q24c⟩ := isOf hZ15 e15 (o11_0.ext E15)
  obtain ⟨_, _, ⟨T24, L24, k24, n24⟩, -, X24, ⟨Lc24, hQ24, l24, y24, z24⟩, st24⟩ := X15.virtualBack hx (y := (⟨"java/lang/StringBuilder", "append", "(Ljava/lang/String;)Ljava/lang/StringBuilder;"⟩ : MethodName)) (z := (⟨"java/lang/StringBuilder", "append", "(Ljava/lang/String;)Ljava/lang/StringBuilder;"⟩ : MethodName)) hown15 (mvT hZ15 (hw _ (List.mem_of_getElem? (i := 32) rfl))) (mvT hZ15 (hw _ (List.mem_of_getElem? (i := 33) rfl))) (notFace_of_selects (args := #[]) (mvT hZ15 (hw _ (List.mem_of_getElem? (i := 35) rfl)))) (mvT hZ15 (hw _ (List.mem_of_getElem? (i := 35) rfl))) (mvT hZ15 (hw _ (List.mem_of_getElem? (i := 34) rfl))) (by decide) (backOf (W := 0) (rmSAq2 l Z a0 hw [] b1 b15 vb5 kb5 d15 kc15 cs h15 n0 Z21 (o11_0.ext E15) (o11_1.ext E15) (o11_2.ext E15) (o11_3.ext E15) oE15 oV15 oC15 (o11_4.ext E15) oA15 S22 g_b1 g_vb5 ne_b1_vb5 (Ne.symm ne_vb5_d15) (Ne.symm ne_vb5_b15) (Ne.symm ne_b1_b15) (Ne.symm ne_b1_d15) hcs) hZ15 (hw _ (List.mem_of_getElem? (i := 36) rfl)) (hw _ (List.mem_of_getElem? (i := 10) rfl)) (by decide) (by decide)) q24a q24c (g := (mkF m 16 #[.val (.ref o0)] [(.ref b15), (.ref b1)])) rfl (by rw [hml]; rfl) (Steps.refl _) (argsL := [(.ref b15)]) (rest := []) (lenOf pd__28Ljava_2flang_2fString_3b_29Ljava_2flang_2fStringBuilder_3b rfl) rfl (by show 2 * 0 + _ ≤ _; exact Nat.le_of_eq rfl) (hb hby d1_16) (fun _ _ => ⟨rfl, e15, (by decide : 4 + 0 ≤ _), (by decide : 28 + 0 ≤ _)⟩)
  dsimp only [Pt.U, Pt.locs, Pt.cells, Pt.slots] at X24 l24 y24 z24 st24 hQ24
  obtain ⟨rfl, N24q, K24, o24_0, o24_1, o24_2, o24_3, o24_4⟩ := hQ24
  have sf26 := Safe.keep K24 (allS sf20 (allS sf19 all0)) CHl15.1 sf19
  have sf27 := Safe.keep K24 (allS sf20 (allS sf19 all0)) CHl15.1 sf20
  have CH25 := CHl15.trans (CHr.keep K24 (allS sf20 (allS sf19 all0)) CHl15.1)
  have Z28 : n0 ≤ T24.heap.size := Nat.le_trans Z21 K24.1
  have Z28h : h0.size ≤ T24.heap.size := Nat.le_trans Z21h K24.1
  have Z28k := Nat.le_trans hk15 K24.1
  obtain ⟨lc24, X24, N24⟩ := own_pack X24 l24 y24 z24 N11 N24q (C := 4) (S' := 28) rfl rfl
  refine own_thrH (a := T24.setTop (mkF m 19 #[.val (.ref o0)] [(.ref b1)])) (fun t kt => st24.trans kt) ?_
  refine own_thrH (a := T24.setTop (mkF m 20 #[.val (.ref o0)] [(.ref o0), (.ref b1)])) (fun t kt => ?_) ?_
  · show Steps p.tables e below (T24.setTop (mkF m 19 #[.val (.ref o0)] [(.ref b1)])) _
    refine XS.aloadN X24.here hx rfl (hb hby d1_19) rfl rfl ?_
    exact kt
  have c29 := (((((F_pl.ext E1).keep K5 (ninS ne_o0_b1 nin0)).keep K11 (ninS ne_o0_b1 (ninS ne_o0_vb5 nin0))).ext E15).keep K24 (ninS ne_o0_b1 (ninS ne_o0_vb5 nin0)))
  obtain ⟨T30, X30, e30, st30⟩ := getF X24 hx hZ15 hown15 (host := "") (Or.inl (hw _ (List.mem_of_getElem? (i := 88) rfl))) Via.refl rfl c29 (g := (mkF m 20 #[.val (.ref o0)] [(.ref o0), (.ref b1)])) rfl rfl (hb hby d1_20)
  refine own_thrH (a := T30.setTop (mkF m 23 #[.val (.ref o0)] [(.ref pl), (.ref b1)])) (fun t kt => st30 t kt) ?_
  have S31 := S_cs.ext (c23.keep K24 (allS g_b1 (allS g_vb5 all0))).2
  have c33 := (((((F_pv.ext E1).keep K5 (ninS ne_pl_b1 nin0)).keep K11 (ninS ne_pl_b1 (ninS ne_pl_vb5 nin0))).ext E15).keep K24 (ninS ne_pl_b1 (ninS ne_pl_vb5 nin0)))
  have c34 := (((((F_plc.ext E1).keep K5 (ninS ne_pl_b1 nin0)).keep K11 (ninS ne_pl_b1 (ninS ne_pl_vb5 nin0))).ext E15).keep K24 (ninS ne_pl_b1 (ninS ne_pl_vb5 nin0)))
  have c35 := ((c17.ext E15).keep K24 (ninS ne_pv_b1 (ninS ne_pv_vb5 nin0)))
  obtain ⟨cq32, kq32, q32a, q32b, q32c⟩ := isOf hZ15 e30 o24_0
  obtain ⟨_, _, ⟨T32, L32, k32, n32⟩, -, X32, ⟨Lc32, hQ32, l32, y32, z32⟩, st32⟩ := X30.virtualBack hx (y := (⟨"java/lang/StringBuilder", "append", "(Ljava/lang/String;)Ljava/lang/StringBuilder;"⟩ : MethodName)) (z := (⟨"java/lang/StringBuilder", "append", "(Ljava/lang/String;)Ljava/lang/StringBuilder;"⟩ : MethodName)) hown15 (mvT hZ15 (hw _ (List.mem_of_getElem? (i := 32) rfl))) (mvT hZ15 (hw _ (List.mem_of_getElem? (i := 33) rfl))) (notFace_of_selects (args := #[]) (mvT hZ15 (hw _ (List.mem_of_getElem? (i := 35) rfl)))) (mvT hZ15 (hw _ (List.mem_of_getElem? (i := 35) rfl))) (mvT hZ15 (hw _ (List.mem_of_getElem? (i := 34) rfl))) (by decide) (backOf (W := 0) (rmSAq3 l Z a0 hw [] b1 pl vb5 kb5 pv kp cs T24.heap n0 Z28 o24_0 o24_1 o24_2 o24_3 (((((E_pl.ext E1).keep K5).keep K11).ext E15).keep K24) c33 c34 o24_4 c35 S31 g_b1 g_vb5 ne_b1_vb5 ne_pv_vb5 ne_pl_vb5 ne_pl_b1 ne_pv_b1 hcs) hZ15 (hw _ (List.mem_of_getElem? (i := 36) rfl)) (hw _ (List.mem_of_getElem? (i := 10) rfl)) (by decide) (by decide)) q32a q32c (g := (mkF m 23 #[.val (.ref o0)] [(.ref pl), (.ref b1)])) rfl (by rw [hml]; rfl) (Steps.refl _) (argsL := [(.ref pl)]) (rest := []) (lenOf pd__28Ljava_2flang_2fString_3b_29Ljava_2flang_2fStringBuilder_3b rfl) rfl (by show 2 * 0 + _ ≤ _; exact Nat.le_of_eq rfl) (hb hby d1_23) (fun _ _ => ⟨rfl, e30, (by decide : 4 + 0 ≤ _), (by decide : 28 + 0 ≤ _)⟩)
  dsimp only [Pt.U, Pt.locs, Pt.cells, Pt.slots] at X32 l32 y32 z32 st32 hQ32
  obtain ⟨rfl, N32q, K32, o32_0, o32_1, o32_2, o32_3, o32_4⟩ := hQ32
  have sf37 := Safe.keep K32 (allS sf27 (allS sf26 all0)) CH25.1 sf26
  have sf38 := Safe.keep K32 (allS sf27 (allS sf26 all0)) CH25.1 sf27
  have CH36 := CH25.trans (CHr.keep K32 (allS sf27 (allS sf26 all0)) CH25.1)
  have Z39 : n0 ≤ T32.heap.size := Nat.le_trans Z28 K32.1
  have Z39h : h0.size ≤ T32.heap.size := Nat.le_trans Z28h K32.1
  have Z39k := Nat.le_trans Z28k K32.1
  obtain ⟨lc32, X32, N32⟩ := own_pack X32 l32 y32 z32 N24 N32q (C := 4) (S' := 28) rfl rfl
  refine own_thrH (a := T32.setTop (mkF m 26 #[.val (.ref o0)] [(.ref b1)])) (fun t kt => st32.trans kt) ?_
  have c41 := ((c23.keep K24 (allS g_b1 (allS g_vb5 all0))).keep K32 (allS g_b1 (allS g_vb5 all0)))
  have S40 := S_cs.ext c41.2
  obtain ⟨cq42, kq42, q42a, q42b, q42c⟩ := isOf hZ15 rfl o32_0
  obtain ⟨_, _, ⟨T42, L42, k42, n42⟩, -, X42, ⟨Lc42, hQ42, l42, y42, z42⟩, st42⟩ := X32.virtualBack hx (y := (⟨"java/lang/StringBuilder", "toString", "()Ljava/lang/String;"⟩ : MethodName)) (z := (⟨"java/lang/StringBuilder", "toString", "()Ljava/lang/String;"⟩ : MethodName)) hown15 (mvT hZ15 (hw _ (List.mem_of_getElem? (i := 90) rfl))) (mvT hZ15 (hw _ (List.mem_of_getElem? (i := 91) rfl))) (notFace_of_selects (args := #[]) (mvT hZ15 (hw _ (List.mem_of_getElem? (i := 93) rfl)))) (mvT hZ15 (hw _ (List.mem_of_getElem? (i := 93) rfl))) (mvT hZ15 (hw _ (List.mem_of_getElem? (i := 92) rfl))) (by decide) (backOf (W := 0) (rmTSq l Z a0 hw [] b1 vb5 kb5 cs T32.heap n0 Z39 o32_0 o32_1 o32_2 o32_3 o32_4 ((((o5_x.keep K11).ext E15).keep K24).keep K32) S40 hcs) hZ15 (hw _ (List.mem_of_getElem? (i := 94) rfl)) (hw _ (List.mem_of_getElem? (i := 10) rfl)) (by decide) (by decide)) q42a q42c (g := (mkF m 26 #[.val (.ref o0)] [(.ref b1)])) rfl (by rw [hml]; rfl) (Steps.refl _) (argsL := []) (rest := []) (lenOf pd__28_29Ljava_2flang_2fString_3b rfl) rfl (by show 2 * 0 + _ ≤ _; exact Nat.le_of_eq rfl) (hb hby d1_26) (fun _ _ => ⟨rfl, rfl, (by decide : 4 + 2 ≤ _), (by decide : 28 + 18 ≤ _)⟩)
  dsimp only [Pt.U, Pt.locs, Pt.cells, Pt.slots] at X42 l42 y42 z42 st42 hQ42
  obtain ⟨r42, rfl, N42q, K42, o42_e, o42_c, sv42, ks42, o42_v, o42_a⟩ := hQ42
  have sf44 := Safe.keep K42 all0 CH36.1 sf37
  have sf45 := Safe.keep K42 all0 CH36.1 sf38
  have CH43 := CH36.trans (CHr.keep K42 all0 CH36.1)
  have Z46 : n0 ≤ T42.heap.size := Nat.le_trans Z39 K42.1
  have Z46h : h0.size ≤ T42.heap.size := Nat.le_trans Z39h K42.1
  have Z46k := Nat.le_trans Z39k K42.1
  obtain ⟨lc42, X42, N42⟩ := own_pack X42 l42 y42 z42 N32 N42q (C := 6) (S' := 46) rfl rfl
  refine own_thrH (a := T42.setTop (mkF m 29 #[.val (.ref o0)] [(.ref r42)])) (fun t kt => st42.trans kt) ?_
  exact own_endH X42 hS15 Z46k hZ15 hEL CH43 hh rfl hlk (v := some (.ref r42)) (fun h => by rw [Bd.returns] at h; cases h) (fun fs hr => retA X42 hx Bd.returns rfl rfl (hb hby d1_29) hr) ⟨r42, rfl, N42, ((((((((Keep.refl h0 []).ext E1).trans K5 (allS (Or.inr sz_b1) all0)).trans K11 (allS (Or.inr sz_b1) (allS (Or.inr sz_vb5) all0))).ext E15).trans K24 (allS (Or.inr sz_b1) (allS (Or.inr sz_vb5) all0))).trans K32 (allS (Or.inr sz_b1) (allS (Or.inr sz_vb5) all0))).trans K42 all0), o42_e, o42_c, sv42, _, o42_v, o42_a⟩ (by decide : 6 ≤ _) (by decide : 46 ≤ _)
theorem d21_0 : decode prog_1_method_5_code 0 = .ok (.aload_n 0, 1) := by decide +kernel
theorem d21_1 : decode prog_1_method_5_code 1 = .ok (.getfield 29, 3) := by decide +kernel
theorem d21_4 : decode prog_1_method_5_code 4 = .ok (.areturn, 1) := by decide +kernel
theorem ef_rmFL (m : MethodId) (o0 : Addr)  : entryFrame m #[(.ref o0)] 1 = mkF m 0 #[.val (.ref o0)] [] := by first |  (simp [entryFrame, mkF, argsToLocals, Value.category]; done) | rfl
def Q_rmFL (Z : State) (o0 : Addr) (fl : Addr) (h0 : Heap) (n0 : Nat) (v : Option Value) (h : Heap) (L : List Loc) : Prop := v = some (.ref fl) ∧ Fr n0 L ∧ h = h0
set_option maxRecDepth 65536 in
set_option maxHeartbeats 40000000 in
theorem rmFL (l : Launch) (Z : State) (a0 : Array Value) (hw : ∀ d ∈ tables_1, d.before a0 Z = true) (ws : List Jvm.Cond) (o0 : Addr) (fl : Addr) (h0 : Heap) (n0 : Nat) (Z0 : n0 ≤ h0.size) (F_flag_o0 : Fld Z h0 o0 "com/example/durable_dispatch/durabledispatch/cli/Option" "flag" "Ljava/lang/String;" (.ref fl)) :
    MetFree l (⟨"com/example/durable_dispatch/durabledispatch/cli/Option", "flag", "()Ljava/lang/String;"⟩ : MethodName) (head1 (Jvm.Cond.code (⟨"com/example/durable_dispatch/durabledispatch/cli/Option", "flag", "()Ljava/lang/String;"⟩ : MethodName) prog_1_method_5_code 1 (some (.object "java/lang/String")) :: ws) ({ frames := 0, cells := 0, slots := 0, locals := 0 } : Room)) (fun a U => a = #[(.ref o0)] ∧ Z.Warmed39 U.vm ∧ U.heap = h0) (fun _ _ _ _ _ => True) (fun _ U o U' => ∃ v L, o = .returned v ∧ Q_rmFL Z o0 fl h0 n0 v U'.heap L ∧ FrameEnd U o U' L ({ frames := 0, cells := 0, slots := 0, locals := 0 } : Room).cells ({ frames := 0, cells := 0, slots := 0, locals := 0 } : Room).slots) := by
  refine MetFree.of_bodySF (plainFor_of_name pn_com_example_durable_dispatch_durabledispatch_cli_Option) hisR ?_
  intro p e s m args below meth c s₁ Bd hml0 hP hK
  obtain ⟨rfl, hZ, hh⟩ := hP
  have hx := Bd.exec
  have hby := Bd.bytes
  have hml : c.maxLocals = 1 := hml0
  have hown : s.vm.findClass "com/example/durable_dispatch/durabledispatch/cli/Option" = some m.cls := findClass_of_methodNamed Bd.named
  have hnm := (name_of_methodNamed Bd.named Bd.method).1
  have hlk := Bd.notSynchronized
  have X0 : Stand p l e ({ frames := 0, cells := 0, slots := 0, locals := 0 } : Room) s m #[(.ref o0)] below meth c s₁ [] 0 0 := Stand.of_body Bd
  have e0 : s₁.heap = h0 := by rw [← hh, Bd.state]; rfl
  have N0 := Fr.nil n0
  show own_G p.tables e below s (Q_rmFL Z o0 fl h0 n0) ({ frames := 0, cells := 0, slots := 0, locals := 0 } : Room).cells ({ frames := 0, cells := 0, slots := 0, locals := 0 } : Room).slots _
  refine own_thr (a := s₁.setTop (mkF m 0 #[.val (.ref o0)] [])) (fun t kt => castTop (ef_rmFL m o0) kt) ?_
  refine own_thr (a := s₁.setTop (mkF m 1 #[.val (.ref o0)] [(.ref o0)])) (fun t kt => ?_) ?_
  · show Steps p.tables e below (s₁.setTop (mkF m 0 #[.val (.ref o0)] [])) _
    refine XS.aloadN X0.here hx rfl (hb hby d21_0) rfl rfl ?_
    exact kt
  obtain ⟨T1, X1, e1, st1⟩ := getF X0 hx hZ hown (host := "") (Or.inl (hw _ (List.mem_of_getElem? (i := 30) rfl))) Via.refl e0 F_flag_o0 (g := (mkF m 1 #[.val (.ref o0)] [(.ref o0)])) rfl rfl (hb hby d21_1)
  refine own_thr (a := T1.setTop (mkF m 4 #[.val (.ref o0)] [(.ref fl)])) (fun t kt => st1 t kt) ?_
  exact own_end X1 hlk (v := some (.ref fl)) (fun h => by rw [Bd.returns] at h; cases h) (fun fs hr => retA X1 hx Bd.returns rfl rfl (hb hby d21_4) hr) (by rw [e1]; exact ⟨rfl, N0, rfl⟩) (by decide : 0 ≤ _) (by decide : 0 ≤ _)
theorem d25_0 : decode jdk_42_method_154_code 0 = .ok (.getstatic 38, 3) := by decide +kernel
theorem d25_3 : decode jdk_42_method_154_code 3 = .ok (.ifCond .eq 14, 3) := by decide +kernel
theorem d25_6 : decode jdk_42_method_154_code 6 = .ok (.aload_n 0, 1) := by decide +kernel
theorem d25_7 : decode jdk_42_method_154_code 7 = .ok (.getfield 15, 3) := by decide +kernel
theorem d25_10 : decode jdk_42_method_154_code 10 = .ok (.ifCond .ne 7, 3) := by decide +kernel
theorem d25_13 : decode jdk_42_method_154_code 13 = .ok (.iconst 1, 1) := by decide +kernel
theorem d25_14 : decode jdk_42_method_154_code 14 = .ok (.goto 4, 3) := by decide +kernel
theorem d25_18 : decode jdk_42_method_154_code 18 = .ok (.ireturn, 1) := by decide +kernel
theorem ef_rmS1L (m : MethodId) (o0 : Addr)  : entryFrame m #[(.ref o0)] 1 = mkF m 0 #[.val (.ref o0)] [] := by first |  (simp [entryFrame, mkF, argsToLocals, Value.category]; done) | rfl
def Q_rmS1L (Z : State) (o0 : Addr) (cs : Int32) (h0 : Heap) (n0 : Nat) (v : Option Value) (h : Heap) (L : List Loc) : Prop := v = some (.int 1) ∧ Fr n0 L ∧ h = h0
set_option maxRecDepth 65536 in
set_option maxHeartbeats 40000000 in
theorem rmS1L (l : Launch) (Z : State) (a0 : Array Value) (hw : ∀ d ∈ tables_1, d.before a0 Z = true) (ws : List Jvm.Cond) (o0 : Addr) (cs : Int32) (h0 : Heap) (n0 : Nat) (Z0 : n0 ≤ h0.size) (F_coder_o0 : Fld Z h0 o0 "java/lang/String" "coder" "B" (.int 0)) (S_COMPACT_STRINGS : Sta Z h0 "java/lang/String" "COMPACT_STRINGS" "Z" (.int cs)) (hcs : ¬ cs = (0 : Int32)) :
    MetFree l (⟨"java/lang/String", "isLatin1", "()Z"⟩ : MethodName) (head1 (Jvm.Cond.code (⟨"java/lang/String", "isLatin1", "()Z"⟩ : MethodName) jdk_42_method_154_code 1 (some .boolean) :: ws) ({ frames := 0, cells := 0, slots := 0, locals := 0 } : Room)) (fun a U => a = #[(.ref o0)] ∧ Z.Warmed39 U.vm ∧ U.heap = h0) (fun _ _ _ _ _ => True) (fun _ U o U' => ∃ v L, o = .returned v ∧ Q_rmS1L Z o0 cs h0 n0 v U'.heap L ∧ FrameEnd U o U' L ({ frames := 0, cells := 0, slots := 0, locals := 0 } : Room).cells ({ frames := 0, cells := 0, slots := 0, locals := 0 } : Room).slots) := by
  refine MetFree.of_bodySF (plainFor_of_name pn_java_lang_String) hisR ?_
  intro p e s m args below meth c s₁ Bd hml0 hP hK
  obtain ⟨rfl, hZ, hh⟩ := hP
  have hx := Bd.exec
  have hby := Bd.bytes
  have hml : c.maxLocals = 1 := hml0
  have hown : s.vm.findClass "java/lang/String" = some m.cls := findClass_of_methodNamed Bd.named
  have hnm := (name_of_methodNamed Bd.named Bd.method).1
  have hlk := Bd.notSynchronized
  have X0 : Stand p l e ({ frames := 0, cells := 0, slots := 0, locals := 0 } : Room) s m #[(.ref o0)] below meth c s₁ [] 0 0 := Stand.of_body Bd
  have e0 : s₁.heap = h0 := by rw [← hh, Bd.state]; rfl
  have N0 := Fr.nil n0
  show own_G p.tables e below s (Q_rmS1L Z o0 cs h0 n0) ({ frames := 0, cells := 0, slots := 0, locals := 0 } : Room).cells ({ frames := 0, cells := 0, slots := 0, locals := 0 } : Room).slots _
  refine own_thr (a := s₁.setTop (mkF m 0 #[.val (.ref o0)] [])) (fun t kt => castTop (ef_rmS1L m o0) kt) ?_
  obtain ⟨T1, X1, e1, st1⟩ := getS2 X0 hx hZ hown (host := "") (Or.inl (hw _ (List.mem_of_getElem? (i := 54) rfl))) Via.refl e0 S_COMPACT_STRINGS (g := (mkF m 0 #[.val (.ref o0)] [])) rfl (hb hby d25_0)
  refine own_thr (a := T1.setTop (mkF m 3 #[.val (.ref o0)] [(.int cs)])) (fun t kt => st1 t kt) ?_
  refine own_thr (a := T1.setTop (mkF m 7 #[.val (.ref o0)] [(.ref o0)])) (fun t kt => ?_) ?_
  · show Steps p.tables e below (T1.setTop (mkF m 3 #[.val (.ref o0)] [(.int cs)])) _
    refine XS.ifNo X1.here hx rfl (hb hby d25_3) rfl ((if0 _ _).trans (feq hcs).1) ?_
    refine XS.aloadN X1.here hx rfl (hb hby d25_6) rfl rfl ?_
    exact kt
  obtain ⟨T2, X2, e2, st2⟩ := getF X1 hx hZ hown (host := "") (Or.inl (hw _ (List.mem_of_getElem? (i := 55) rfl))) Via.refl e1 F_coder_o0 (g := (mkF m 7 #[.val (.ref o0)] [(.ref o0)])) rfl rfl (hb hby d25_7)
  refine own_thr (a := T2.setTop (mkF m 10 #[.val (.ref o0)] [(.int 0)])) (fun t kt => st2 t kt) ?_
  refine own_thr (a := T2.setTop (mkF m 18 #[.val (.ref o0)] [(.int 1)])) (fun t kt => ?_) ?_
  · show Steps p.tables e below (T2.setTop (mkF m 10 #[.val (.ref o0)] [(.int 0)])) _
    refine XS.ifNo X2.here hx rfl (hb hby d25_10) rfl ((if0 _ _).trans (teq rfl).2) ?_
    refine XS.iconst X2.here hx rfl (hb hby d25_13) ?_
    refine XS.goto X2.here hx rfl (pc0 := 14) (pc' := 18) rfl (hb hby d25_14) (by decide) (by decide) ?_
    exact kt
  exact own_end X2 hlk (v := some (.int 1)) (fun h => by rw [Bd.returns] at h; cases h) (fun fs hr => retN X2 hx (t := .boolean) Bd.returns (by simp) (hb hby d25_18) hr) (by rw [e2]; exact ⟨rfl, N0, rfl⟩) (by decide : 0 ≤ _) (by decide : 0 ≤ _)
theorem d23_0 : decode jdk_43_method_13_code 0 = .ok (.aload_n 0, 1) := by decide +kernel
theorem d23_1 : decode jdk_43_method_13_code 1 = .ok (.arraylength, 1) := by decide +kernel
theorem d23_2 : decode jdk_43_method_13_code 2 = .ok (.aload_n 1, 1) := by decide +kernel
theorem d23_3 : decode jdk_43_method_13_code 3 = .ok (.arraylength, 1) := by decide +kernel
theorem d23_4 : decode jdk_43_method_13_code 4 = .ok (.if_icmp .ne 30, 3) := by decide +kernel
theorem d23_7 : decode jdk_43_method_13_code 7 = .ok (.iconst 0, 1) := by decide +kernel
theorem d23_8 : decode jdk_43_method_13_code 8 = .ok (.istore_n 2, 1) := by decide +kernel
theorem d23_9 : decode jdk_43_method_13_code 9 = .ok (.iload_n 2, 1) := by decide +kernel
theorem d23_10 : decode jdk_43_method_13_code 10 = .ok (.aload_n 0, 1) := by decide +kernel
theorem d23_11 : decode jdk_43_method_13_code 11 = .ok (.arraylength, 1) := by decide +kernel
theorem d23_12 : decode jdk_43_method_13_code 12 = .ok (.if_icmp .ge 20, 3) := by decide +kernel
theorem d23_15 : decode jdk_43_method_13_code 15 = .ok (.aload_n 0, 1) := by decide +kernel
theorem d23_16 : decode jdk_43_method_13_code 16 = .ok (.iload_n 2, 1) := by decide +kernel
theorem d23_17 : decode jdk_43_method_13_code 17 = .ok (.baload, 1) := by decide +kernel
theorem d23_18 : decode jdk_43_method_13_code 18 = .ok (.aload_n 1, 1) := by decide +kernel
theorem d23_19 : decode jdk_43_method_13_code 19 = .ok (.iload_n 2, 1) := by decide +kernel
theorem d23_20 : decode jdk_43_method_13_code 20 = .ok (.baload, 1) := by decide +kernel
theorem d23_21 : decode jdk_43_method_13_code 21 = .ok (.if_icmp .eq 5, 3) := by decide +kernel
theorem d23_26 : decode jdk_43_method_13_code 26 = .ok (.iinc 2 1, 3) := by decide +kernel
theorem d23_29 : decode jdk_43_method_13_code 29 = .ok (.goto (-20), 3) := by decide +kernel
theorem d23_32 : decode jdk_43_method_13_code 32 = .ok (.iconst 1, 1) := by decide +kernel
theorem d23_33 : decode jdk_43_method_13_code 33 = .ok (.ireturn, 1) := by decide +kernel
theorem pn_java_lang_StringLatin1 : plainName "java/lang/StringLatin1" = true := by first | (simp [plainName, overriddenIn]; done) | decide +kernel
theorem ef_rmLEus (m : MethodId) (o0 : Addr) (o1 : Addr)  : entryFrame m #[(.ref o0), (.ref o1)] 3 = mkF m 0 #[.val (.ref o0), .val (.ref o1), .unset] [] := by first |  (simp [entryFrame, mkF, argsToLocals, Value.category]; done) | rfl
def Q_rmLEus (Z : State) (o0 : Addr) (o1 : Addr) (k0 : ClassId) (k1 : ClassId) (h0 : Heap) (n0 : Nat) (v : Option Value) (h : Heap) (L : List Loc) : Prop := v = some (.int 1) ∧ Fr n0 L ∧ h = h0
set_option maxRecDepth 65536 in
set_option maxHeartbeats 40000000 in
theorem rmLEus (l : Launch) (Z : State) (a0 : Array Value) (hw : ∀ d ∈ tables_1, d.before a0 Z = true) (ws : List Jvm.Cond) (o0 : Addr) (o1 : Addr) (k0 : ClassId) (k1 : ClassId) (h0 : Heap) (n0 : Nat) (Z0 : n0 ≤ h0.size) (V_o0 : Arv Z h0 o0 k0 .byte (16 : Int32) [(.int 45), (.int 45), (.int 117), (.int 114), (.int 108), (.int 32), (.int 60), (.int 74), (.int 68), (.int 66), (.int 67), (.int 32), (.int 85), (.int 82), (.int 76), (.int 62)] (.int 0)) (V_o1 : Arv Z h0 o1 k1 .byte (16 : Int32) [(.int 45), (.int 45), (.int 117), (.int 114), (.int 108), (.int 32), (.int 60), (.int 74), (.int 68), (.int 66), (.int 67), (.int 32), (.int 85), (.int 82), (.int 76), (.int 62)] (.int 0)) :
    MetFree l (⟨"java/lang/StringLatin1", "equals", "([B[B)Z"⟩ : MethodName) (head1 (Jvm.Cond.code (⟨"java/lang/StringLatin1", "equals", "([B[B)Z"⟩ : MethodName) jdk_43_method_13_code 3 (some .boolean) :: ws) ({ frames := 0, cells := 0, slots := 0, locals := 0 } : Room)) (fun a U => a = #[(.ref o0), (.ref o1)] ∧ Z.Warmed39 U.vm ∧ U.heap = h0) (fun _ _ _ _ _ => True) (fun _ U o U' => ∃ v L, o = .returned v ∧ Q_rmLEus Z o0 o1 k0 k1 h0 n0 v U'.heap L ∧ FrameEnd U o U' L ({ frames := 0, cells := 0, slots := 0, locals := 0 } : Room).cells ({ frames := 0, cells := 0, slots := 0, locals := 0 } : Room).slots) := by
  refine MetFree.of_bodySF (plainFor_of_name pn_java_lang_StringLatin1) hisR ?_
  intro p e s m args below meth c s₁ Bd hml0 hP hK
  obtain ⟨rfl, hZ, hh⟩ := hP
  have hx := Bd.exec
  have hby := Bd.bytes
  have hml : c.maxLocals = 3 := hml0
  have hown : s.vm.findClass "java/lang/StringLatin1" = some m.cls := findClass_of_methodNamed Bd.named
  have hnm := (name_of_methodNamed Bd.named Bd.method).1
  have hlk := Bd.notSynchronized
  have X0 : Stand p l e ({ frames := 0, cells := 0, slots := 0, locals := 0 } : Room) s m #[(.ref o0), (.ref o1)] below meth c s₁ [] 0 0 := Stand.of_body Bd
  have e0 : s₁.heap = h0 := by rw [← hh, Bd.state]; rfl
  have N0 := Fr.nil n0
  show own_G p.tables e below s (Q_rmLEus Z o0 o1 k0 k1 h0 n0) ({ frames := 0, cells := 0, slots := 0, locals := 0 } : Room).cells ({ frames := 0, cells := 0, slots := 0, locals := 0 } : Room).slots _
  refine own_thr (a := s₁.setTop (mkF m 0 #[.val (.ref o0), .val (.ref o1), .unset] [])) (fun t kt => castTop (ef_rmLEus m o0 o1) kt) ?_
  refine own_thr (a := s₁.setTop (mkF m 1 #[.val (.ref o0), .val (.ref o1), .unset] [(.ref o0)])) (fun t kt => ?_) ?_
  · show Steps p.tables e below (s₁.setTop (mkF m 0 #[.val (.ref o0), .val (.ref o1), .unset] [])) _
    refine XS.aloadN X0.here hx rfl (hb hby d23_0) rfl rfl ?_
    exact kt
  obtain ⟨cl1, Ar1, -, S1, M1, -, -⟩ := id V_o0
  refine own_thr (a := s₁.setTop (mkF m 3 #[.val (.ref o0), .val (.ref o1), .unset] [(.ref o1), (.int 16)])) (fun t kt => ?_) ?_
  · show Steps p.tables e below (s₁.setTop (mkF m 1 #[.val (.ref o0), .val (.ref o1), .unset] [(.ref o0)])) _
    refine X0.arraylength hx (by rw [e0]; exact Ar1.1) (State.isArrayOf_alike hZ.alike Ar1.2.1) (g := (mkF m 1 #[.val (.ref o0), .val (.ref o1), .unset] [(.ref o0)])) rfl rfl (hb hby d23_1) _ ?_
    rw [len_of S1 M1]
    refine XS.aloadN X0.here hx rfl (hb hby d23_2) rfl rfl ?_
    exact kt
  obtain ⟨cl2, Ar2, -, S2, M2, -, -⟩ := id V_o1
  refine own_thr (a := s₁.setTop (mkF m 11 #[.val (.ref o0), .val (.ref o1), .val (.int 0)] [(.ref o0), (.int 0)])) (fun t kt => ?_) ?_
  · show Steps p.tables e below (s₁.setTop (mkF m 3 #[.val (.ref o0), .val (.ref o1), .unset] [(.ref o1), (.int 16)])) _
    refine X0.arraylength hx (by rw [e0]; exact Ar2.1) (State.isArrayOf_alike hZ.alike Ar2.2.1) (g := (mkF m 3 #[.val (.ref o0), .val (.ref o1), .unset] [(.ref o1), (.int 16)])) rfl rfl (hb hby d23_3) _ ?_
    rw [len_of S2 M2]
    refine XS.icmpNo X0.here hx rfl (hb hby d23_4) rfl (teq rfl).2 ?_
    refine XS.iconst X0.here hx rfl (hb hby d23_7) ?_
    refine XS.istoreN X0.here hx rfl (hb hby d23_8) rfl (l' := #[.val (.ref o0), .val (.ref o1), .val (.int 0)]) rfl ?_
    refine XS.iloadN X0.here hx rfl (hb hby d23_9) rfl ?_
    refine XS.aloadN X0.here hx rfl (hb hby d23_10) rfl rfl ?_
    exact kt
  obtain ⟨cl3, Ar3, -, S3, M3, -, -⟩ := id V_o0
  refine own_thr (a := s₁.setTop (mkF m 17 #[.val (.ref o0), .val (.ref o1), .val (.int 0)] [(.int 0), (.ref o0)])) (fun t kt => ?_) ?_
  · show Steps p.tables e below (s₁.setTop (mkF m 11 #[.val (.ref o0), .val (.ref o1), .val (.int 0)] [(.ref o0), (.int 0)])) _
    refine X0.arraylength hx (by rw [e0]; exact Ar3.1) (State.isArrayOf_alike hZ.alike Ar3.2.1) (g := (mkF m 11 #[.val (.ref o0), .val (.ref o1), .val (.int 0)] [(.ref o0), (.int 0)])) rfl rfl (hb hby d23_11) _ ?_
    rw [len_of S3 M3]
    refine XS.icmpNo X0.here hx rfl (hb hby d23_12) rfl (tlt (by decide)).2.1 ?_
    refine XS.aloadN X0.here hx rfl (hb hby d23_15) rfl rfl ?_
    refine XS.iloadN X0.here hx rfl (hb hby d23_16) rfl ?_
    exact kt
  obtain ⟨cl4, Ar4, -, S4, M4, H4, -⟩ := id V_o0
  have hin4 : ¬ ((0 : Int32) < 0 ∨ cl4.slots.size ≤ ((0 : Int32)).toNatClampNeg) := inb_of S4 ⟨by decide, by decide⟩
  have hat4 : cl4.slots[((0 : Int32)).toNatClampNeg]? = some (.int 45) := Has.at H4 hin4 rfl
  refine own_thr (a := s₁.setTop (mkF m 20 #[.val (.ref o0), .val (.ref o1), .val (.int 0)] [(.int 0), (.ref o1), (.int 45)])) (fun t kt => ?_) ?_
  · show Steps p.tables e below (s₁.setTop (mkF m 17 #[.val (.ref o0), .val (.ref o1), .val (.int 0)] [(.int 0), (.ref o0)])) _
    refine X0.baloadBytes hx (j := (0 : Int32)) (v := (.int 45)) (by rw [e0]; exact Ar4.1) (State.isArrayOf_alike hZ.alike Ar4.2.1) Ar4.2.2 hin4 hat4 (g := (mkF m 17 #[.val (.ref o0), .val (.ref o1), .val (.int 0)] [(.int 0), (.ref o0)])) rfl rfl (hb hby d23_17) _ ?_
    refine XS.aloadN X0.here hx rfl (hb hby d23_18) rfl rfl ?_
    refine XS.iloadN X0.here hx rfl (hb hby d23_19) rfl ?_
    exact kt
  obtain ⟨cl5, Ar5, -, S5, M5, H5, -⟩ := id V_o1
  have hin5 : ¬ ((0 : Int32) < 0 ∨ cl5.slots.size ≤ ((0 : Int32)).toNatClampNeg) := inb_of S5 ⟨by decide, by decide⟩
  have hat5 : cl5.slots[((0 : Int32)).toNatClampNeg]? = some (.int 45) := Has.at H5 hin5 rfl
  refine own_thr (a := s₁.setTop (mkF m 11 #[.val (.ref o0), .val (.ref o1), .val (.int 1)] [(.ref o0), (.int 1)])) (fun t kt => ?_) ?_
  · show Steps p.tables e below (s₁.setTop (mkF m 20 #[.val (.ref o0), .val (.ref o1), .val (.int 0)] [(.int 0), (.ref o1), (.int 45)])) _
    refine X0.baloadBytes hx (j := (0 : Int32)) (v := (.int 45)) (by rw [e0]; exact Ar5.1) (State.isArrayOf_alike hZ.alike Ar5.2.1) Ar5.2.2 hin5 hat5 (g := (mkF m 20 #[.val (.ref o0), .val (.ref o1), .val (.int 0)] [(.int 0), (.ref o1), (.int 45)])) rfl rfl (hb hby d23_20) _ ?_
    refine XS.icmpYes X0.here hx rfl (pc0 := 21) (pc' := 26) rfl (hb hby d23_21) rfl (teq rfl).1 (by decide) (by decide) ?_
    refine XS.iinc X0.here hx rfl (hb hby d23_26) rfl (l' := #[.val (.ref o0), .val (.ref o1), .val (.int 1)]) rfl ?_
    refine XS.goto X0.here hx rfl (pc0 := 29) (pc' := 9) rfl (hb hby d23_29) (by decide) (by decide) ?_
    refine XS.iloadN X0.here hx rfl (hb hby d23_9) rfl ?_
    refine XS.aloadN X0.here hx rfl (hb hby d23_10) rfl rfl ?_
    exact kt
  obtain ⟨cl6, Ar6, -, S6, M6, -, -⟩ := id V_o0
  refine own_thr (a := s₁.setTop (mkF m 17 #[.val (.ref o0), .val (.ref o1), .val (.int 1)] [(.int 1), (.ref o0)])) (fun t kt => ?_) ?_
  · show Steps p.tables e below (s₁.setTop (mkF m 11 #[.val (.ref o0), .val (.ref o1), .val (.int 1)] [(.ref o0), (.int 1)])) _
    refine X0.arraylength hx (by rw [e0]; exact Ar6.1) (State.isArrayOf_alike hZ.alike Ar6.2.1) (g := (mkF m 11 #[.val (.ref o0), .val (.ref o1), .val (.int 1)] [(.ref o0), (.int 1)])) rfl rfl (hb hby d23_11) _ ?_
    rw [len_of S6 M6]
    refine XS.icmpNo X0.here hx rfl (hb hby d23_12) rfl (tlt (by decide)).2.1 ?_
    refine XS.aloadN X0.here hx rfl (hb hby d23_15) rfl rfl ?_
    refine XS.iloadN X0.here hx rfl (hb hby d23_16) rfl ?_
    exact kt
  obtain ⟨cl7, Ar7, -, S7, M7, H7, -⟩ := id V_o0
  have hin7 : ¬ ((1 : Int32) < 0 ∨ cl7.slots.size ≤ ((1 : Int32)).toNatClampNeg) := inb_of S7 ⟨by decide, by decide⟩
  have hat7 : cl7.slots[((1 : Int32)).toNatClampNeg]? = some (.int 45) := Has.at H7 hin7 rfl
  refine own_thr (a := s₁.setTop (mkF m 20 #[.val (.ref o0), .val (.ref o1), .val (.int 1)] [(.int 1), (.ref o1), (.int 45)])) (fun t kt => ?_) ?_
  · show Steps p.tables e below (s₁.setTop (mkF m 17 #[.val (.ref o0), .val (.ref o1), .val (.int 1)] [(.int 1), (.ref o0)])) _
    refine X0.baloadBytes hx (j := (1 : Int32)) (v := (.int 45)) (by rw [e0]; exact Ar7.1) (State.isArrayOf_alike hZ.alike Ar7.2.1) Ar7.2.2 hin7 hat7 (g := (mkF m 17 #[.val (.ref o0), .val (.ref o1), .val (.int 1)] [(.int 1), (.ref o0)])) rfl rfl (hb hby d23_17) _ ?_
    refine XS.aloadN X0.here hx rfl (hb hby d23_18) rfl rfl ?_
    refine XS.iloadN X0.here hx rfl (hb hby d23_19) rfl ?_
    exact kt
  obtain ⟨cl8, Ar8, -, S8, M8, H8, -⟩ := id V_o1
  have hin8 : ¬ ((1 : Int32) < 0 ∨ cl8.slots.size ≤ ((1 : Int32)).toNatClampNeg) := inb_of S8 ⟨by decide, by decide⟩
  have hat8 : cl8.slots[((1 : Int32)).toNatClampNeg]? = some (.int 45) := Has.at H8 hin8 rfl
  refine own_thr (a := s₁.setTop (mkF m 11 #[.val (.ref o0), .val (.ref o1), .val (.int 2)] [(.ref o0), (.int 2)])) (fun t kt => ?_) ?_
  · show Steps p.tables e below (s₁.setTop (mkF m 20 #[.val (.ref o0), .val (.ref o1), .val (.int 1)] [(.int 1), (.ref o1), (.int 45)])) _
    refine X0.baloadBytes hx (j := (1 : Int32)) (v := (.int 45)) (by rw [e0]; exact Ar8.1) (State.isArrayOf_alike hZ.alike Ar8.2.1) Ar8.2.2 hin8 hat8 (g := (mkF m 20 #[.val (.ref o0), .val (.ref o1), .val (.int 1)] [(.int 1), (.ref o1), (.int 45)])) rfl rfl (hb hby d23_20) _ ?_
    refine XS.icmpYes X0.here hx rfl (pc0 := 21) (pc' := 26) rfl (hb hby d23_21) rfl (teq rfl).1 (by decide) (by decide) ?_
    refine XS.iinc X0.here hx rfl (hb hby d23_26) rfl (l' := #[.val (.ref o0), .val (.ref o1), .val (.int 2)]) rfl ?_
    refine XS.goto X0.here hx rfl (pc0 := 29) (pc' := 9) rfl (hb hby d23_29) (by decide) (by decide) ?_
    refine XS.iloadN X0.here hx rfl (hb hby d23_9) rfl ?_
    refine XS.aloadN X0.here hx rfl (hb hby d23_10) rfl rfl ?_
    exact kt
  obtain ⟨cl9, Ar9, -, S9, M9, -, -⟩ := id V_o0
  refine own_thr (a := s₁.setTop (mkF m 17 #[.val (.ref o0), .val (.ref o1), .val (.int 2)] [(.int 2), (.ref o0)])) (fun t kt => ?_) ?_
  · show Steps p.tables e below (s₁.setTop (mkF m 11 #[.val (.ref o0), .val (.ref o1), .val (.int 2)] [(.ref o0), (.int 2)])) _
    refine X0.arraylength hx (by rw [e0]; exact Ar9.1) (State.isArrayOf_alike hZ.alike Ar9.2.1) (g := (mkF m 11 #[.val (.ref o0), .val (.ref o1), .val (.int 2)] [(.ref o0), (.int 2)])) rfl rfl (hb hby d23_11) _ ?_
    rw [len_of S9 M9]
    refine XS.icmpNo X0.here hx rfl (hb hby d23_12) rfl (tlt (by decide)).2.1 ?_
    refine XS.aloadN X0.here hx rfl (hb hby d23_15) rfl rfl ?_
    refine XS.iloadN X0.here hx rfl (hb hby d23_16) rfl ?_
    exact kt
  obtain ⟨cl10, Ar10, -, S10, M10, H10, -⟩ := id V_o0
  have hin10 : ¬ ((2 : Int32) < 0 ∨ cl10.slots.size ≤ ((2 : Int32)).toNatClampNeg) := inb_of S10 ⟨by decide, by decide⟩
  have hat10 : cl10.slots[((2 : Int32)).toNatClampNeg]? = some (.int 117) := Has.at H10 hin10 rfl
  refine own_thr (a := s₁.setTop (mkF m 20 #[.val (.ref o0), .val (.ref o1), .val (.int 2)] [(.int 2), (.ref o1), (.int 117)])) (fun t kt => ?_) ?_
  · show Steps p.tables e below (s₁.setTop (mkF m 17 #[.val (.ref o0), .val (.ref o1), .val (.int 2)] [(.int 2), (.ref o0)])) _
    refine X0.baloadBytes hx (j := (2 : Int32)) (v := (.int 117)) (by rw [e0]; exact Ar10.1) (State.isArrayOf_alike hZ.alike Ar10.2.1) Ar10.2.2 hin10 hat10 (g := (mkF m 17 #[.val (.ref o0), .val (.ref o1), .val (.int 2)] [(.int 2), (.ref o0)])) rfl rfl (hb hby d23_17) _ ?_
    refine XS.aloadN X0.here hx rfl (hb hby d23_18) rfl rfl ?_
    refine XS.iloadN X0.here hx rfl (hb hby d23_19) rfl ?_
    exact kt
  obtain ⟨cl11, Ar11, -, S11, M11, H11, -⟩ := id V_o1
  have hin11 : ¬ ((2 : Int32) < 0 ∨ cl11.slots.size ≤ ((2 : Int32)).toNatClampNeg) := inb_of S11 ⟨by decide, by decide⟩
  have hat11 : cl11.slots[((2 : Int32)).toNatClampNeg]? = some (.int 117) := Has.at H11 hin11 rfl
  refine own_thr (a := s₁.setTop (mkF m 11 #[.val (.ref o0), .val (.ref o1), .val (.int 3)] [(.ref o0), (.int 3)])) (fun t kt => ?_) ?_
  · show Steps p.tables e below (s₁.setTop (mkF m 20 #[.val (.ref o0), .val (.ref o1), .val (.int 2)] [(.int 2), (.ref o1), (.int 117)])) _
    refine X0.baloadBytes hx (j := (2 : Int32)) (v := (.int 117)) (by rw [e0]; exact Ar11.1) (State.isArrayOf_alike hZ.alike Ar11.2.1) Ar11.2.2 hin11 hat11 (g := (mkF m 20 #[.val (.ref o0), .val (.ref o1), .val (.int 2)] [(.int 2), (.ref o1), (.int 117)])) rfl rfl (hb hby d23_20) _ ?_
    refine XS.icmpYes X0.here hx rfl (pc0 := 21) (pc' := 26) rfl (hb hby d23_21) rfl (teq rfl).1 (by decide) (by decide) ?_
    refine XS.iinc X0.here hx rfl (hb hby d23_26) rfl (l' := #[.val (.ref o0), .val (.ref o1), .val (.int 3)]) rfl ?_
    refine XS.goto X0.here hx rfl (pc0 := 29) (pc' := 9) rfl (hb hby d23_29) (by decide) (by decide) ?_
    refine XS.iloadN X0.here hx rfl (hb hby d23_9) rfl ?_
    refine XS.aloadN X0.here hx rfl (hb hby d23_10) rfl rfl ?_
    exact kt
  obtain ⟨cl12, Ar12, -, S12, M12, -, -⟩ := id V_o0
  refine own_thr (a := s₁.setTop (mkF m 17 #[.val (.ref o0), .val (.ref o1), .val (.int 3)] [(.int 3), (.ref o0)])) (fun t kt => ?_) ?_
  · show Steps p.tables e below (s₁.setTop (mkF m 11 #[.val (.ref o0), .val (.ref o1), .val (.int 3)] [(.ref o0), (.int 3)])) _
    refine X0.arraylength hx (by rw [e0]; exact Ar12.1) (State.isArrayOf_alike hZ.alike Ar12.2.1) (g := (mkF m 11 #[.val (.ref o0), .val (.ref o1), .val (.int 3)] [(.ref o0), (.int 3)])) rfl rfl (hb hby d23_11) _ ?_
    rw [len_of S12 M12]
    refine XS.icmpNo X0.here hx rfl (hb hby d23_12) rfl (tlt (by decide)).2.1 ?_
    refine XS.aloadN X0.here hx rfl (hb hby d23_15) rfl rfl ?_
    refine XS.iloadN X0.here hx rfl (hb hby d23_16) rfl ?_
    exact kt
  obtain ⟨cl13, Ar13, -, S13, M13, H13, -⟩ := id V_o0
  have hin13 : ¬ ((3 : Int32) < 0 ∨ cl13.slots.size ≤ ((3 : Int32)).toNatClampNeg) := inb_of S13 ⟨by decide, by decide⟩
  have hat13 : cl13.slots[((3 : Int32)).toNatClampNeg]? = some (.int 114) := Has.at H13 hin13 rfl
  refine own_thr (a := s₁.setTop (mkF m 20 #[.val (.ref o0), .val (.ref o1), .val (.int 3)] [(.int 3), (.ref o1), (.int 114)])) (fun t kt => ?_) ?_
  · show Steps p.tables e below (s₁.setTop (mkF m 17 #[.val (.ref o0), .val (.ref o1), .val (.int 3)] [(.int 3), (.ref o0)])) _
    refine X0.baloadBytes hx (j := (3 : Int32)) (v := (.int 114)) (by rw [e0]; exact Ar13.1) (State.isArrayOf_alike hZ.alike Ar13.2.1) Ar13.2.2 hin13 hat13 (g := (mkF m 17 #[.val (.ref o0), .val (.ref o1), .val (.int 3)] [(.int 3), (.ref o0)])) rfl rfl (hb hby d23_17) _ ?_
    refine XS.aloadN X0.here hx rfl (hb hby d23_18) rfl rfl ?_
    refine XS.iloadN X0.here hx rfl (hb hby d23_19) rfl ?_
    exact kt
  obtain ⟨cl14, Ar14, -, S14, M14, H14, -⟩ := id V_o1
  have hin14 : ¬ ((3 : Int32) < 0 ∨ cl14.slots.size ≤ ((3 : Int32)).toNatClampNeg) := inb_of S14 ⟨by decide, by decide⟩
  have hat14 : cl14.slots[((3 : Int32)).toNatClampNeg]? = some (.int 114) := Has.at H14 hin14 rfl
  refine own_thr (a := s₁.setTop (mkF m 11 #[.val (.ref o0), .val (.ref o1), .val (.int 4)] [(.ref o0), (.int 4)])) (fun t kt => ?_) ?_
  · show Steps p.tables e below (s₁.setTop (mkF m 20 #[.val (.ref o0), .val (.ref o1), .val (.int 3)] [(.int 3), (.ref o1), (.int 114)])) _
    refine X0.baloadBytes hx (j := (3 : Int32)) (v := (.int 114)) (by rw [e0]; exact Ar14.1) (State.isArrayOf_alike hZ.alike Ar14.2.1) Ar14.2.2 hin14 hat14 (g := (mkF m 20 #[.val (.ref o0), .val (.ref o1), .val (.int 3)] [(.int 3), (.ref o1), (.int 114)])) rfl rfl (hb hby d23_20) _ ?_
    refine XS.icmpYes X0.here hx rfl (pc0 := 21) (pc' := 26) rfl (hb hby d23_21) rfl (teq rfl).1 (by decide) (by decide) ?_
    refine XS.iinc X0.here hx rfl (hb hby d23_26) rfl (l' := #[.val (.ref o0), .val (.ref o1), .val (.int 4)]) rfl ?_
    refine XS.goto X0.here hx rfl (pc0 := 29) (pc' := 9) rfl (hb hby d23_29) (by decide) (by decide) ?_
    refine XS.iloadN X0.here hx rfl (hb hby d23_9) rfl ?_
    refine XS.aloadN X0.here hx rfl (hb hby d23_10) rfl rfl ?_
    exact kt
  obtain ⟨cl15, Ar15, -, S15, M15, -, -⟩ := id V_o0
  refine own_thr (a := s₁.setTop (mkF m 17 #[.val (.ref o0), .val (.ref o1), .val (.int 4)] [(.int 4), (.ref o0)])) (fun t kt => ?_) ?_
  · show Steps p.tables e below (s₁.setTop (mkF m 11 #[.val (.ref o0), .val (.ref o1), .val (.int 4)] [(.ref o0), (.int 4)])) _
    refine X0.arraylength hx (by rw [e0]; exact Ar15.1) (State.isArrayOf_alike hZ.alike Ar15.2.1) (g := (mkF m 11 #[.val (.ref o0), .val (.ref o1), .val (.int 4)] [(.ref o0), (.int 4)])) rfl rfl (hb hby d23_11) _ ?_
    rw [len_of S15 M15]
    refine XS.icmpNo X0.here hx rfl (hb hby d23_12) rfl (tlt (by decide)).2.1 ?_
    refine XS.aloadN X0.here hx rfl (hb hby d23_15) rfl rfl ?_
    refine XS.iloadN X0.here hx rfl (hb hby d23_16) rfl ?_
    exact kt
  obtain ⟨cl16, Ar16, -, S16, M16, H16, -⟩ := id V_o0
  have hin16 : ¬ ((4 : Int32) < 0 ∨ cl16.slots.size ≤ ((4 : Int32)).toNatClampNeg) := inb_of S16 ⟨by decide, by decide⟩
  have hat16 : cl16.slots[((4 : Int32)).toNatClampNeg]? = some (.int 108) := Has.at H16 hin16 rfl
  refine own_thr (a := s₁.setTop (mkF m 20 #[.val (.ref o0), .val (.ref o1), .val (.int 4)] [(.int 4), (.ref o1), (.int 108)])) (fun t kt => ?_) ?_
  · show Steps p.tables e below (s₁.setTop (mkF m 17 #[.val (.ref o0), .val (.ref o1), .val (.int 4)] [(.int 4), (.ref o0)])) _
    refine X0.baloadBytes hx (j := (4 : Int32)) (v := (.int 108)) (by rw [e0]; exact Ar16.1) (State.isArrayOf_alike hZ.alike Ar16.2.1) Ar16.2.2 hin16 hat16 (g := (mkF m 17 #[.val (.ref o0), .val (.ref o1), .val (.int 4)] [(.int 4), (.ref o0)])) rfl rfl (hb hby d23_17) _ ?_
    refine XS.aloadN X0.here hx rfl (hb hby d23_18) rfl rfl ?_
    refine XS.iloadN X0.here hx rfl (hb hby d23_19) rfl ?_
    exact kt
  obtain ⟨cl17, Ar17, -, S17, M17, H17, -⟩ := id V_o1
  have hin17 : ¬ ((4 : Int32) < 0 ∨ cl17.slots.size ≤ ((4 : Int32)).toNatClampNeg) := inb_of S17 ⟨by decide, by decide⟩
  have hat17 : cl17.slots[((4 : Int32)).toNatClampNeg]? = some (.int 108) := Has.at H17 hin17 rfl
  refine own_thr (a := s₁.setTop (mkF m 11 #[.val (.ref o0), .val (.ref o1), .val (.int 5)] [(.ref o0), (.int 5)])) (fun t kt => ?_) ?_
  · show Steps p.tables e below (s₁.setTop (mkF m 20 #[.val (.ref o0), .val (.ref o1), .val (.int 4)] [(.int 4), (.ref o1), (.int 108)])) _
    refine X0.baloadBytes hx (j := (4 : Int32)) (v := (.int 108)) (by rw [e0]; exact Ar17.1) (State.isArrayOf_alike hZ.alike Ar17.2.1) Ar17.2.2 hin17 hat17 (g := (mkF m 20 #[.val (.ref o0), .val (.ref o1), .val (.int 4)] [(.int 4), (.ref o1), (.int 108)])) rfl rfl (hb hby d23_20) _ ?_
    refine XS.icmpYes X0.here hx rfl (pc0 := 21) (pc' := 26) rfl (hb hby d23_21) rfl (teq rfl).1 (by decide) (by decide) ?_
    refine XS.iinc X0.here hx rfl (hb hby d23_26) rfl (l' := #[.val (.ref o0), .val (.ref o1), .val (.int 5)]) rfl ?_
    refine XS.goto X0.here hx rfl (pc0 := 29) (pc' := 9) rfl (hb hby d23_29) (by decide) (by decide) ?_
    refine XS.iloadN X0.here hx rfl (hb hby d23_9) rfl ?_
    refine XS.aloadN X0.here hx rfl (hb hby d23_10) rfl rfl ?_
    exact kt
  obtain ⟨cl18, Ar18, -, S18, M18, -, -⟩ := id V_o0
  refine own_thr (a := s₁.setTop (mkF m 17 #[.val (.ref o0), .val (.ref o1), .val (.int 5)] [(.int 5), (.ref o0)])) (fun t kt => ?_) ?_
  · show Steps p.tables e below (s₁.setTop (mkF m 11 #[.val (.ref o0), .val (.ref o1), .val (.int 5)] [(.ref o0), (.int 5)])) _
    refine X0.arraylength hx (by rw [e0]; exact Ar18.1) (State.isArrayOf_alike hZ.alike Ar18.2.1) (g := (mkF m 11 #[.val (.ref o0), .val (.ref o1), .val (.int 5)] [(.ref o0), (.int 5)])) rfl rfl (hb hby d23_11) _ ?_
    rw [len_of S18 M18]
    refine XS.icmpNo X0.here hx rfl (hb hby d23_12) rfl (tlt (by decide)).2.1 ?_
    refine XS.aloadN X0.here hx rfl (hb hby d23_15) rfl rfl ?_
    refine XS.iloadN X0.here hx rfl (hb hby d23_16) rfl ?_
    exact kt
  obtain ⟨cl19, Ar19, -, S19, M19, H19, -⟩ := id V_o0
  have hin19 : ¬ ((5 : Int32) < 0 ∨ cl19.slots.size ≤ ((5 : Int32)).toNatClampNeg) := inb_of S19 ⟨by decide, by decide⟩
  have hat19 : cl19.slots[((5 : Int32)).toNatClampNeg]? = some (.int 32) := Has.at H19 hin19 rfl
  refine own_thr (a := s₁.setTop (mkF m 20 #[.val (.ref o0), .val (.ref o1), .val (.int 5)] [(.int 5), (.ref o1), (.int 32)])) (fun t kt => ?_) ?_
  · show Steps p.tables e below (s₁.setTop (mkF m 17 #[.val (.ref o0), .val (.ref o1), .val (.int 5)] [(.int 5), (.ref o0)])) _
    refine X0.baloadBytes hx (j := (5 : Int32)) (v := (.int 32)) (by rw [e0]; exact Ar19.1) (State.isArrayOf_alike hZ.alike Ar19.2.1) Ar19.2.2 hin19 hat19 (g := (mkF m 17 #[.val (.ref o0), .val (.ref o1), .val (.int 5)] [(.int 5), (.ref o0)])) rfl rfl (hb hby d23_17) _ ?_
    refine XS.aloadN X0.here hx rfl (hb hby d23_18) rfl rfl ?_
    refine XS.iloadN X0.here hx rfl (hb hby d23_19) rfl ?_
    exact kt
  obtain ⟨cl20, Ar20, -, S20, M20, H20, -⟩ := id V_o1
  have hin20 : ¬ ((5 : Int32) < 0 ∨ cl20.slots.size ≤ ((5 : Int32)).toNatClampNeg) := inb_of S20 ⟨by decide, by decide⟩
  have hat20 : cl20.slots[((5 : Int32)).toNatClampNeg]? = some (.int 32) := Has.at H20 hin20 rfl
  refine own_thr (a := s₁.setTop (mkF m 11 #[.val (.ref o0), .val (.ref o1), .val (.int 6)] [(.ref o0), (.int 6)])) (fun t kt => ?_) ?_
  · show Steps p.tables e below (s₁.setTop (mkF m 20 #[.val (.ref o0), .val (.ref o1), .val (.int 5)] [(.int 5), (.ref o1), (.int 32)])) _
    refine X0.baloadBytes hx (j := (5 : Int32)) (v := (.int 32)) (by rw [e0]; exact Ar20.1) (State.isArrayOf_alike hZ.alike Ar20.2.1) Ar20.2.2 hin20 hat20 (g := (mkF m 20 #[.val (.ref o0), .val (.ref o1), .val (.int 5)] [(.int 5), (.ref o1), (.int 32)])) rfl rfl (hb hby d23_20) _ ?_
    refine XS.icmpYes X0.here hx rfl (pc0 := 21) (pc' := 26) rfl (hb hby d23_21) rfl (teq rfl).1 (by decide) (by decide) ?_
    refine XS.iinc X0.here hx rfl (hb hby d23_26) rfl (l' := #[.val (.ref o0), .val (.ref o1), .val (.int 6)]) rfl ?_
    refine XS.goto X0.here hx rfl (pc0 := 29) (pc' := 9) rfl (hb hby d23_29) (by decide) (by decide) ?_
    refine XS.iloadN X0.here hx rfl (hb hby d23_9) rfl ?_
    refine XS.aloadN X0.here hx rfl (hb hby d23_10) rfl rfl ?_
    exact kt
  obtain ⟨cl21, Ar21, -, S21, M21, -, -⟩ := id V_o0
  refine own_thr (a := s₁.setTop (mkF m 17 #[.val (.ref o0), .val (.ref o1), .val (.int 6)] [(.int 6), (.ref o0)])) (fun t kt => ?_) ?_
  · show Steps p.tables e below (s₁.setTop (mkF m 11 #[.val (.ref o0), .val (.ref o1), .val (.int 6)] [(.ref o0), (.int 6)])) _
    refine X0.arraylength hx (by rw [e0]; exact Ar21.1) (State.isArrayOf_alike hZ.alike Ar21.2.1) (g := (mkF m 11 #[.val (.ref o0), .val (.ref o1), .val (.int 6)] [(.ref o0), (.int 6)])) rfl rfl (hb hby d23_11) _ ?_
    rw [len_of S21 M21]
    refine XS.icmpNo X0.here hx rfl (hb hby d23_12) rfl (tlt (by decide)).2.1 ?_
    refine XS.aloadN X0.here hx rfl (hb hby d23_15) rfl rfl ?_
    refine XS.iloadN X0.here hx rfl (hb hby d23_16) rfl ?_
    exact kt
  obtain ⟨cl22, Ar22, -, S22, M22, H22, -⟩ := id V_o0
  have hin22 : ¬ ((6 : Int32) < 0 ∨ cl22.slots.size ≤ ((6 : Int32)).toNatClampNeg) := inb_of S22 ⟨by decide, by decide⟩
  have hat22 : cl22.slots[((6 : Int32)).toNatClampNeg]? = some (.int 60) := Has.at H22 hin22 rfl
  refine own_thr (a := s₁.setTop (mkF m 20 #[.val (.ref o0), .val (.ref o1), .val (.int 6)] [(.int 6), (.ref o1), (.int 60)])) (fun t kt => ?_) ?_
  · show Steps p.tables e below (s₁.setTop (mkF m 17 #[.val (.ref o0), .val (.ref o1), .val (.int 6)] [(.int 6), (.ref o0)])) _
    refine X0.baloadBytes hx (j := (6 : Int32)) (v := (.int 60)) (by rw [e0]; exact Ar22.1) (State.isArrayOf_alike hZ.alike Ar22.2.1) Ar22.2.2 hin22 hat22 (g := (mkF m 17 #[.val (.ref o0), .val (.ref o1), .val (.int 6)] [(.int 6), (.ref o0)])) rfl rfl (hb hby d23_17) _ ?_
    refine XS.aloadN X0.here hx rfl (hb hby d23_18) rfl rfl ?_
    refine XS.iloadN X0.here hx rfl (hb hby d23_19) rfl ?_
    exact kt
  obtain ⟨cl23, Ar23, -, S23, M23, H23, -⟩ := id V_o1
  have hin23 : ¬ ((6 : Int32) < 0 ∨ cl23.slots.size ≤ ((6 : Int32)).toNatClampNeg) := inb_of S23 ⟨by decide, by decide⟩
  have hat23 : cl23.slots[((6 : Int32)).toNatClampNeg]? = some (.int 60) := Has.at H23 hin23 rfl
  refine own_thr (a := s₁.setTop (mkF m 11 #[.val (.ref o0), .val (.ref o1), .val (.int 7)] [(.ref o0), (.int 7)])) (fun t kt => ?_) ?_
  · show Steps p.tables e below (s₁.setTop (mkF m 20 #[.val (.ref o0), .val (.ref o1), .val (.int 6)] [(.int 6), (.ref o1), (.int 60)])) _
    refine X0.baloadBytes hx (j := (6 : Int32)) (v := (.int 60)) (by rw [e0]; exact Ar23.1) (State.isArrayOf_alike hZ.alike Ar23.2.1) Ar23.2.2 hin23 hat23 (g := (mkF m 20 #[.val (.ref o0), .val (.ref o1), .val (.int 6)] [(.int 6), (.ref o1), (.int 60)])) rfl rfl (hb hby d23_20) _ ?_
    refine XS.icmpYes X0.here hx rfl (pc0 := 21) (pc' := 26) rfl (hb hby d23_21) rfl (teq rfl).1 (by decide) (by decide) ?_
    refine XS.iinc X0.here hx rfl (hb hby d23_26) rfl (l' := #[.val (.ref o0), .val (.ref o1), .val (.int 7)]) rfl ?_
    refine XS.goto X0.here hx rfl (pc0 := 29) (pc' := 9) rfl (hb hby d23_29) (by decide) (by decide) ?_
    refine XS.iloadN X0.here hx rfl (hb hby d23_9) rfl ?_
    refine XS.aloadN X0.here hx rfl (hb hby d23_10) rfl rfl ?_
    exact kt
  obtain ⟨cl24, Ar24, -, S24, M24, -, -⟩ := id V_o0
  refine own_thr (a := s₁.setTop (mkF m 17 #[.val (.ref o0), .val (.ref o1), .val (.int 7)] [(.int 7), (.ref o0)])) (fun t kt => ?_) ?_
  · show Steps p.tables e below (s₁.setTop (mkF m 11 #[.val (.ref o0), .val (.ref o1), .val (.int 7)] [(.ref o0), (.int 7)])) _
    refine X0.arraylength hx (by rw [e0]; exact Ar24.1) (State.isArrayOf_alike hZ.alike Ar24.2.1) (g := (mkF m 11 #[.val (.ref o0), .val (.ref o1), .val (.int 7)] [(.ref o0), (.int 7)])) rfl rfl (hb hby d23_11) _ ?_
    rw [len_of S24 M24]
    refine XS.icmpNo X0.here hx rfl (hb hby d23_12) rfl (tlt (by decide)).2.1 ?_
    refine XS.aloadN X0.here hx rfl (hb hby d23_15) rfl rfl ?_
    refine XS.iloadN X0.here hx rfl (hb hby d23_16) rfl ?_
    exact kt
  obtain ⟨cl25, Ar25, -, S25, M25, H25, -⟩ := id V_o0
  have hin25 : ¬ ((7 : Int32) < 0 ∨ cl25.slots.size ≤ ((7 : Int32)).toNatClampNeg) := inb_of S25 ⟨by decide, by decide⟩
  have hat25 : cl25.slots[((7 : Int32)).toNatClampNeg]? = some (.int 74) := Has.at H25 hin25 rfl
  refine own_thr (a := s₁.setTop (mkF m 20 #[.val (.ref o0), .val (.ref o1), .val (.int 7)] [(.int 7), (.ref o1), (.int 74)])) (fun t kt => ?_) ?_
  · show Steps p.tables e below (s₁.setTop (mkF m 17 #[.val (.ref o0), .val (.ref o1), .val (.int 7)] [(.int 7), (.ref o0)])) _
    refine X0.baloadBytes hx (j := (7 : Int32)) (v := (.int 74)) (by rw [e0]; exact Ar25.1) (State.isArrayOf_alike hZ.alike Ar25.2.1) Ar25.2.2 hin25 hat25 (g := (mkF m 17 #[.val (.ref o0), .val (.ref o1), .val (.int 7)] [(.int 7), (.ref o0)])) rfl rfl (hb hby d23_17) _ ?_
    refine XS.aloadN X0.here hx rfl (hb hby d23_18) rfl rfl ?_
    refine XS.iloadN X0.here hx rfl (hb hby d23_19) rfl ?_
    exact kt
  obtain ⟨cl26, Ar26, -, S26, M26, H26, -⟩ := id V_o1
  have hin26 : ¬ ((7 : Int32) < 0 ∨ cl26.slots.size ≤ ((7 : Int32)).toNatClampNeg) := inb_of S26 ⟨by decide, by decide⟩
  have hat26 : cl26.slots[((7 : Int32)).toNatClampNeg]? = some (.int 74) := Has.at H26 hin26 rfl
  refine own_thr (a := s₁.setTop (mkF m 11 #[.val (.ref o0), .val (.ref o1), .val (.int 8)] [(.ref o0), (.int 8)])) (fun t kt => ?_) ?_
  · show Steps p.tables e below (s₁.setTop (mkF m 20 #[.val (.ref o0), .val (.ref o1), .val (.int 7)] [(.int 7), (.ref o1), (.int 74)])) _
    refine X0.baloadBytes hx (j := (7 : Int32)) (v := (.int 74)) (by rw [e0]; exact Ar26.1) (State.isArrayOf_alike hZ.alike Ar26.2.1) Ar26.2.2 hin26 hat26 (g := (mkF m 20 #[.val (.ref o0), .val (.ref o1), .val (.int 7)] [(.int 7), (.ref o1), (.int 74)])) rfl rfl (hb hby d23_20) _ ?_
    refine XS.icmpYes X0.here hx rfl (pc0 := 21) (pc' := 26) rfl (hb hby d23_21) rfl (teq rfl).1 (by decide) (by decide) ?_
    refine XS.iinc X0.here hx rfl (hb hby d23_26) rfl (l' := #[.val (.ref o0), .val (.ref o1), .val (.int 8)]) rfl ?_
    refine XS.goto X0.here hx rfl (pc0 := 29) (pc' := 9) rfl (hb hby d23_29) (by decide) (by decide) ?_
    refine XS.iloadN X0.here hx rfl (hb hby d23_9) rfl ?_
    refine XS.aloadN X0.here hx rfl (hb hby d23_10) rfl rfl ?_
    exact kt
  obtain ⟨cl27, Ar27, -, S27, M27, -, -⟩ := id V_o0
  refine own_thr (a := s₁.setTop (mkF m 17 #[.val (.ref o0), .val (.ref o1), .val (.int 8)] [(.int 8), (.ref o0)])) (fun t kt => ?_) ?_
  · show Steps p.tables e below (s₁.setTop (mkF m 11 #[.val (.ref o0), .val (.ref o1), .val (.int 8)] [(.ref o0), (.int 8)])) _
    refine X0.arraylength hx (by rw [e0]; exact Ar27.1) (State.isArrayOf_alike hZ.alike Ar27.2.1) (g := (mkF m 11 #[.val (.ref o0), .val (.ref o1), .val (.int 8)] [(.ref o0), (.int 8)])) rfl rfl (hb hby d23_11) _ ?_
    rw [len_of S27 M27]
    refine XS.icmpNo X0.here hx rfl (hb hby d23_12) rfl (tlt (by decide)).2.1 ?_
    refine XS.aloadN X0.here hx rfl (hb hby d23_15) rfl rfl ?_
    refine XS.iloadN X0.here hx rfl (hb hby d23_16) rfl ?_
    exact kt
  obtain ⟨cl28, Ar28, -, S28, M28, H28, -⟩ := id V_o0
  have hin28 : ¬ ((8 : Int32) < 0 ∨ cl28.slots.size ≤ ((8 : Int32)).toNatClampNeg) := inb_of S28 ⟨by decide, by decide⟩
  have hat28 : cl28.slots[((8 : Int32)).toNatClampNeg]? = some (.int 68) := Has.at H28 hin28 rfl
  refine own_thr (a := s₁.setTop (mkF m 20 #[.val (.ref o0), .val (.ref o1), .val (.int 8)] [(.int 8), (.ref o1), (.int 68)])) (fun t kt => ?_) ?_
  · show Steps p.tables e below (s₁.setTop (mkF m 17 #[.val (.ref o0), .val (.ref o1), .val (.int 8)] [(.int 8), (.ref o0)])) _
    refine X0.baloadBytes hx (j := (8 : Int32)) (v := (.int 68)) (by rw [e0]; exact Ar28.1) (State.isArrayOf_alike hZ.alike Ar28.2.1) Ar28.2.2 hin28 hat28 (g := (mkF m 17 #[.val (.ref o0), .val (.ref o1), .val (.int 8)] [(.int 8), (.ref o0)])) rfl rfl (hb hby d23_17) _ ?_
    refine XS.aloadN X0.here hx rfl (hb hby d23_18) rfl rfl ?_
    refine XS.iloadN X0.here hx rfl (hb hby d23_19) rfl ?_
    exact kt
  obtain ⟨cl29, Ar29, -, S29, M29, H29, -⟩ := id V_o1
  have hin29 : ¬ ((8 : Int32) < 0 ∨ cl29.slots.size ≤ ((8 : Int32)).toNatClampNeg) := inb_of S29 ⟨by decide, by decide⟩
  have hat29 : cl29.slots[((8 : Int32)).toNatClampNeg]? = some (.int 68) := Has.at H29 hin29 rfl
  refine own_thr (a := s₁.setTop (mkF m 11 #[.val (.ref o0), .val (.ref o1), .val (.int 9)] [(.ref o0), (.int 9)])) (fun t kt => ?_) ?_
  · show Steps p.tables e below (s₁.setTop (mkF m 20 #[.val (.ref o0), .val (.ref o1), .val (.int 8)] [(.int 8), (.ref o1), (.int 68)])) _
    refine X0.baloadBytes hx (j := (8 : Int32)) (v := (.int 68)) (by rw [e0]; exact Ar29.1) (State.isArrayOf_alike hZ.alike Ar29.2.1) Ar29.2.2 hin29 hat29 (g := (mkF m 20 #[.val (.ref o0), .val (.ref o1), .val (.int 8)] [(.int 8), (.ref o1), (.int 68)])) rfl rfl (hb hby d23_20) _ ?_
    refine XS.icmpYes X0.here hx rfl (pc0 := 21) (pc' := 26) rfl (hb hby d23_21) rfl (teq rfl).1 (by decide) (by decide) ?_
    refine XS.iinc X0.here hx rfl (hb hby d23_26) rfl (l' := #[.val (.ref o0), .val (.ref o1), .val (.int 9)]) rfl ?_
    refine XS.goto X0.here hx rfl (pc0 := 29) (pc' := 9) rfl (hb hby d23_29) (by decide) (by decide) ?_
    refine XS.iloadN X0.here hx rfl (hb hby d23_9) rfl ?_
    refine XS.aloadN X0.here hx rfl (hb hby d23_10) rfl rfl ?_
    exact kt
  obtain ⟨cl30, Ar30, -, S30, M30, -, -⟩ := id V_o0
  refine own_thr (a := s₁.setTop (mkF m 17 #[.val (.ref o0), .val (.ref o1), .val (.int 9)] [(.int 9), (.ref o0)])) (fun t kt => ?_) ?_
  · show Steps p.tables e below (s₁.setTop (mkF m 11 #[.val (.ref o0), .val (.ref o1), .val (.int 9)] [(.ref o0), (.int 9)])) _
    refine X0.arraylength hx (by rw [e0]; exact Ar30.1) (State.isArrayOf_alike hZ.alike Ar30.2.1) (g := (mkF m 11 #[.val (.ref o0), .val (.ref o1), .val (.int 9)] [(.ref o0), (.int 9)])) rfl rfl (hb hby d23_11) _ ?_
    rw [len_of S30 M30]
    refine XS.icmpNo X0.here hx rfl (hb hby d23_12) rfl (tlt (by decide)).2.1 ?_
    refine XS.aloadN X0.here hx rfl (hb hby d23_15) rfl rfl ?_
    refine XS.iloadN X0.here hx rfl (hb hby d23_16) rfl ?_
    exact kt
  obtain ⟨cl31, Ar31, -, S31, M31, H31, -⟩ := id V_o0
  have hin31 : ¬ ((9 : Int32) < 0 ∨ cl31.slots.size ≤ ((9 : Int32)).toNatClampNeg) := inb_of S31 ⟨by decide, by decide⟩
  have hat31 : cl31.slots[((9 : Int32)).toNatClampNeg]? = some (.int 66) := Has.at H31 hin31 rfl
  refine own_thr (a := s₁.setTop (mkF m 20 #[.val (.ref o0), .val (.ref o1), .val (.int 9)] [(.int 9), (.ref o1), (.int 66)])) (fun t kt => ?_) ?_
  · show Steps p.tables e below (s₁.setTop (mkF m 17 #[.val (.ref o0), .val (.ref o1), .val (.int 9)] [(.int 9), (.ref o0)])) _
    refine X0.baloadBytes hx (j := (9 : Int32)) (v := (.int 66)) (by rw [e0]; exact Ar31.1) (State.isArrayOf_alike hZ.alike Ar31.2.1) Ar31.2.2 hin31 hat31 (g := (mkF m 17 #[.val (.ref o0), .val (.ref o1), .val (.int 9)] [(.int 9), (.ref o0)])) rfl rfl (hb hby d23_17) _ ?_
    refine XS.aloadN X0.here hx rfl (hb hby d23_18) rfl rfl ?_
    refine XS.iloadN X0.here hx rfl (hb hby d23_19) rfl ?_
    exact kt
  obtain ⟨cl32, Ar32, -, S32, M32, H32, -⟩ := id V_o1
  have hin32 : ¬ ((9 : Int32) < 0 ∨ cl32.slots.size ≤ ((9 : Int32)).toNatClampNeg) := inb_of S32 ⟨by decide, by decide⟩
  have hat32 : cl32.slots[((9 : Int32)).toNatClampNeg]? = some (.int 66) := Has.at H32 hin32 rfl
  refine own_thr (a := s₁.setTop (mkF m 11 #[.val (.ref o0), .val (.ref o1), .val (.int 10)] [(.ref o0), (.int 10)])) (fun t kt => ?_) ?_
  · show Steps p.tables e below (s₁.setTop (mkF m 20 #[.val (.ref o0), .val (.ref o1), .val (.int 9)] [(.int 9), (.ref o1), (.int 66)])) _
    refine X0.baloadBytes hx (j := (9 : Int32)) (v := (.int 66)) (by rw [e0]; exact Ar32.1) (State.isArrayOf_alike hZ.alike Ar32.2.1) Ar32.2.2 hin32 hat32 (g := (mkF m 20 #[.val (.ref o0), .val (.ref o1), .val (.int 9)] [(.int 9), (.ref o1), (.int 66)])) rfl rfl (hb hby d23_20) _ ?_
    refine XS.icmpYes X0.here hx rfl (pc0 := 21) (pc' := 26) rfl (hb hby d23_21) rfl (teq rfl).1 (by decide) (by decide) ?_
    refine XS.iinc X0.here hx rfl (hb hby d23_26) rfl (l' := #[.val (.ref o0), .val (.ref o1), .val (.int 10)]) rfl ?_
    refine XS.goto X0.here hx rfl (pc0 := 29) (pc' := 9) rfl (hb hby d23_29) (by decide) (by decide) ?_
    refine XS.iloadN X0.here hx rfl (hb hby d23_9) rfl ?_
    refine XS.aloadN X0.here hx rfl (hb hby d23_10) rfl rfl ?_
    exact kt
  obtain ⟨cl33, Ar33, -, S33, M33, -, -⟩ := id V_o0
  refine own_thr (a := s₁.setTop (mkF m 17 #[.val (.ref o0), .val (.ref o1), .val (.int 10)] [(.int 10), (.ref o0)])) (fun t kt => ?_) ?_
  · show Steps p.tables e below (s₁.setTop (mkF m 11 #[.val (.ref o0), .val (.ref o1), .val (.int 10)] [(.ref o0), (.int 10)])) _
    refine X0.arraylength hx (by rw [e0]; exact Ar33.1) (State.isArrayOf_alike hZ.alike Ar33.2.1) (g := (mkF m 11 #[.val (.ref o0), .val (.ref o1), .val (.int 10)] [(.ref o0), (.int 10)])) rfl rfl (hb hby d23_11) _ ?_
    rw [len_of S33 M33]
    refine XS.icmpNo X0.here hx rfl (hb hby d23_12) rfl (tlt (by decide)).2.1 ?_
    refine XS.aloadN X0.here hx rfl (hb hby d23_15) rfl rfl ?_
    refine XS.iloadN X0.here hx rfl (hb hby d23_16) rfl ?_
    exact kt
  obtain ⟨cl34, Ar34, -, S34, M34, H34, -⟩ := id V_o0
  have hin34 : ¬ ((10 : Int32) < 0 ∨ cl34.slots.size ≤ ((10 : Int32)).toNatClampNeg) := inb_of S34 ⟨by decide, by decide⟩
  have hat34 : cl34.slots[((10 : Int32)).toNatClampNeg]? = some (.int 67) := Has.at H34 hin34 rfl
  refine own_thr (a := s₁.setTop (mkF m 20 #[.val (.ref o0), .val (.ref o1), .val (.int 10)] [(.int 10), (.ref o1), (.int 67)])) (fun t kt => ?_) ?_
  · show Steps p.tables e below (s₁.setTop (mkF m 17 #[.val (.ref o0), .val (.ref o1), .val (.int 10)] [(.int 10), (.ref o0)])) _
    refine X0.baloadBytes hx (j := (10 : Int32)) (v := (.int 67)) (by rw [e0]; exact Ar34.1) (State.isArrayOf_alike hZ.alike Ar34.2.1) Ar34.2.2 hin34 hat34 (g := (mkF m 17 #[.val (.ref o0), .val (.ref o1), .val (.int 10)] [(.int 10), (.ref o0)])) rfl rfl (hb hby d23_17) _ ?_
    refine XS.aloadN X0.here hx rfl (hb hby d23_18) rfl rfl ?_
    refine XS.iloadN X0.here hx rfl (hb hby d23_19) rfl ?_
    exact kt
  obtain ⟨cl35, Ar35, -, S35, M35, H35, -⟩ := id V_o1
  have hin35 : ¬ ((10 : Int32) < 0 ∨ cl35.slots.size ≤ ((10 : Int32)).toNatClampNeg) := inb_of S35 ⟨by decide, by decide⟩
  have hat35 : cl35.slots[((10 : Int32)).toNatClampNeg]? = some (.int 67) := Has.at H35 hin35 rfl
  refine own_thr (a := s₁.setTop (mkF m 11 #[.val (.ref o0), .val (.ref o1), .val (.int 11)] [(.ref o0), (.int 11)])) (fun t kt => ?_) ?_
  · show Steps p.tables e below (s₁.setTop (mkF m 20 #[.val (.ref o0), .val (.ref o1), .val (.int 10)] [(.int 10), (.ref o1), (.int 67)])) _
    refine X0.baloadBytes hx (j := (10 : Int32)) (v := (.int 67)) (by rw [e0]; exact Ar35.1) (State.isArrayOf_alike hZ.alike Ar35.2.1) Ar35.2.2 hin35 hat35 (g := (mkF m 20 #[.val (.ref o0), .val (.ref o1), .val (.int 10)] [(.int 10), (.ref o1), (.int 67)])) rfl rfl (hb hby d23_20) _ ?_
    refine XS.icmpYes X0.here hx rfl (pc0 := 21) (pc' := 26) rfl (hb hby d23_21) rfl (teq rfl).1 (by decide) (by decide) ?_
    refine XS.iinc X0.here hx rfl (hb hby d23_26) rfl (l' := #[.val (.ref o0), .val (.ref o1), .val (.int 11)]) rfl ?_
    refine XS.goto X0.here hx rfl (pc0 := 29) (pc' := 9) rfl (hb hby d23_29) (by decide) (by decide) ?_
    refine XS.iloadN X0.here hx rfl (hb hby d23_9) rfl ?_
    refine XS.aloadN X0.here hx rfl (hb hby d23_10) rfl rfl ?_
    exact kt
  obtain ⟨cl36, Ar36, -, S36, M36, -, -⟩ := id V_o0
  refine own_thr (a := s₁.setTop (mkF m 17 #[.val (.ref o0), .val (.ref o1), .val (.int 11)] [(.int 11), (.ref o0)])) (fun t kt => ?_) ?_
  · show Steps p.tables e below (s₁.setTop (mkF m 11 #[.val (.ref o0), .val (.ref o1), .val (.int 11)] [(.ref o0), (.int 11)])) _
    refine X0.arraylength hx (by rw [e0]; exact Ar36.1) (State.isArrayOf_alike hZ.alike Ar36.2.1) (g := (mkF m 11 #[.val (.ref o0), .val (.ref o1), .val (.int 11)] [(.ref o0), (.int 11)])) rfl rfl (hb hby d23_11) _ ?_
    rw [len_of S36 M36]
    refine XS.icmpNo X0.here hx rfl (hb hby d23_12) rfl (tlt (by decide)).2.1 ?_
    refine XS.aloadN X0.here hx rfl (hb hby d23_15) rfl rfl ?_
    refine XS.iloadN X0.here hx rfl (hb hby d23_16) rfl ?_
    exact kt
  obtain ⟨cl37, Ar37, -, S37, M37, H37, -⟩ := id V_o0
  have hin37 : ¬ ((11 : Int32) < 0 ∨ cl37.slots.size ≤ ((11 : Int32)).toNatClampNeg) := inb_of S37 ⟨by decide, by decide⟩
  have hat37 : cl37.slots[((11 : Int32)).toNatClampNeg]? = some (.int 32) := Has.at H37 hin37 rfl
  refine own_thr (a := s₁.setTop (mkF m 20 #[.val (.ref o0), .val (.ref o1), .val (.int 11)] [(.int 11), (.ref o1), (.int 32)])) (fun t kt => ?_) ?_
  · show Steps p.tables e below (s₁.setTop (mkF m 17 #[.val (.ref o0), .val (.ref o1), .val (.int 11)] [(.int 11), (.ref o0)])) _
    refine X0.baloadBytes hx (j := (11 : Int32)) (v := (.int 32)) (by rw [e0]; exact Ar37.1) (State.isArrayOf_alike hZ.alike Ar37.2.1) Ar37.2.2 hin37 hat37 (g := (mkF m 17 #[.val (.ref o0), .val (.ref o1), .val (.int 11)] [(.int 11), (.ref o0)])) rfl rfl (hb hby d23_17) _ ?_
    refine XS.aloadN X0.here hx rfl (hb hby d23_18) rfl rfl ?_
    refine XS.iloadN X0.here hx rfl (hb hby d23_19) rfl ?_
    exact kt
  obtain ⟨cl38, Ar38, -, S38, M38, H38, -⟩ := id V_o1
  have hin38 : ¬ ((11 : Int32) < 0 ∨ cl38.slots.size ≤ ((11 : Int32)).toNatClampNeg) := inb_of S38 ⟨by decide, by decide⟩
  have hat38 : cl38.slots[((11 : Int32)).toNatClampNeg]? = some (.int 32) := Has.at H38 hin38 rfl
  refine own_thr (a := s₁.setTop (mkF m 11 #[.val (.ref o0), .val (.ref o1), .val (.int 12)] [(.ref o0), (.int 12)])) (fun t kt => ?_) ?_
  · show Steps p.tables e below (s₁.setTop (mkF m 20 #[.val (.ref o0), .val (.ref o1), .val (.int 11)] [(.int 11), (.ref o1), (.int 32)])) _
    refine X0.baloadBytes hx (j := (11 : Int32)) (v := (.int 32)) (by rw [e0]; exact Ar38.1) (State.isArrayOf_alike hZ.alike Ar38.2.1) Ar38.2.2 hin38 hat38 (g := (mkF m 20 #[.val (.ref o0), .val (.ref o1), .val (.int 11)] [(.int 11), (.ref o1), (.int 32)])) rfl rfl (hb hby d23_20) _ ?_
    refine XS.icmpYes X0.here hx rfl (pc0 := 21) (pc' := 26) rfl (hb hby d23_21) rfl (teq rfl).1 (by decide) (by decide) ?_
    refine XS.iinc X0.here hx rfl (hb hby d23_26) rfl (l' := #[.val (.ref o0), .val (.ref o1), .val (.int 12)]) rfl ?_
    refine XS.goto X0.here hx rfl (pc0 := 29) (pc' := 9) rfl (hb hby d23_29) (by decide) (by decide) ?_
    refine XS.iloadN X0.here hx rfl (hb hby d23_9) rfl ?_
    refine XS.aloadN X0.here hx rfl (hb hby d23_10) rfl rfl ?_
    exact kt
  obtain ⟨cl39, Ar39, -, S39, M39, -, -⟩ := id V_o0
  refine own_thr (a := s₁.setTop (mkF m 17 #[.val (.ref o0), .val (.ref o1), .val (.int 12)] [(.int 12), (.ref o0)])) (fun t kt => ?_) ?_
  · show Steps p.tables e below (s₁.setTop (mkF m 11 #[.val (.ref o0), .val (.ref o1), .val (.int 12)] [(.ref o0), (.int 12)])) _
    refine X0.arraylength hx (by rw [e0]; exact Ar39.1) (State.isArrayOf_alike hZ.alike Ar39.2.1) (g := (mkF m 11 #[.val (.ref o0), .val (.ref o1), .val (.int 12)] [(.ref o0), (.int 12)])) rfl rfl (hb hby d23_11) _ ?_
    rw [len_of S39 M39]
    refine XS.icmpNo X0.here hx rfl (hb hby d23_12) rfl (tlt (by decide)).2.1 ?_
    refine XS.aloadN X0.here hx rfl (hb hby d23_15) rfl rfl ?_
    refine XS.iloadN X0.here hx rfl (hb hby d23_16) rfl ?_
    exact kt
  obtain ⟨cl40, Ar40, -, S40, M40, H40, -⟩ := id V_o0
  have hin40 : ¬ ((12 : Int32) < 0 ∨ cl40.slots.size ≤ ((12 : Int32)).toNatClampNeg) := inb_of S40 ⟨by decide, by decide⟩
  have hat40 : cl40.slots[((12 : Int32)).toNatClampNeg]? = some (.int 85) := Has.at H40 hin40 rfl
  refine own_thr (a := s₁.setTop (mkF m 20 #[.val (.ref o0), .val (.ref o1), .val (.int 12)] [(.int 12), (.ref o1), (.int 85)])) (fun t kt => ?_) ?_
  · show Steps p.tables e below (s₁.setTop (mkF m 17 #[.val (.ref o0), .val (.ref o1), .val (.int 12)] [(.int 12), (.ref o0)])) _
    refine X0.baloadBytes hx (j := (12 : Int32)) (v := (.int 85)) (by rw [e0]; exact Ar40.1) (State.isArrayOf_alike hZ.alike Ar40.2.1) Ar40.2.2 hin40 hat40 (g := (mkF m 17 #[.val (.ref o0), .val (.ref o1), .val (.int 12)] [(.int 12), (.ref o0)])) rfl rfl (hb hby d23_17) _ ?_
    refine XS.aloadN X0.here hx rfl (hb hby d23_18) rfl rfl ?_
    refine XS.iloadN X0.here hx rfl (hb hby d23_19) rfl ?_
    exact kt
  obtain ⟨cl41, Ar41, -, S41, M41, H41, -⟩ := id V_o1
  have hin41 : ¬ ((12 : Int32) < 0 ∨ cl41.slots.size ≤ ((12 : Int32)).toNatClampNeg) := inb_of S41 ⟨by decide, by decide⟩
  have hat41 : cl41.slots[((12 : Int32)).toNatClampNeg]? = some (.int 85) := Has.at H41 hin41 rfl
  refine own_thr (a := s₁.setTop (mkF m 11 #[.val (.ref o0), .val (.ref o1), .val (.int 13)] [(.ref o0), (.int 13)])) (fun t kt => ?_) ?_
  · show Steps p.tables e below (s₁.setTop (mkF m 20 #[.val (.ref o0), .val (.ref o1), .val (.int 12)] [(.int 12), (.ref o1), (.int 85)])) _
    refine X0.baloadBytes hx (j := (12 : Int32)) (v := (.int 85)) (by rw [e0]; exact Ar41.1) (State.isArrayOf_alike hZ.alike Ar41.2.1) Ar41.2.2 hin41 hat41 (g := (mkF m 20 #[.val (.ref o0), .val (.ref o1), .val (.int 12)] [(.int 12), (.ref o1), (.int 85)])) rfl rfl (hb hby d23_20) _ ?_
    refine XS.icmpYes X0.here hx rfl (pc0 := 21) (pc' := 26) rfl (hb hby d23_21) rfl (teq rfl).1 (by decide) (by decide) ?_
    refine XS.iinc X0.here hx rfl (hb hby d23_26) rfl (l' := #[.val (.ref o0), .val (.ref o1), .val (.int 13)]) rfl ?_
    refine XS.goto X0.here hx rfl (pc0 := 29) (pc' := 9) rfl (hb hby d23_29) (by decide) (by decide) ?_
    refine XS.iloadN X0.here hx rfl (hb hby d23_9) rfl ?_
    refine XS.aloadN X0.here hx rfl (hb hby d23_10) rfl rfl ?_
    exact kt
  obtain ⟨cl42, Ar42, -, S42, M42, -, -⟩ := id V_o0
  refine own_thr (a := s₁.setTop (mkF m 17 #[.val (.ref o0), .val (.ref o1), .val (.int 13)] [(.int 13), (.ref o0)])) (fun t kt => ?_) ?_
  · show Steps p.tables e below (s₁.setTop (mkF m 11 #[.val (.ref o0), .val (.ref o1), .val (.int 13)] [(.ref o0), (.int 13)])) _
    refine X0.arraylength hx (by rw [e0]; exact Ar42.1) (State.isArrayOf_alike hZ.alike Ar42.2.1) (g := (mkF m 11 #[.val (.ref o0), .val (.ref o1), .val (.int 13)] [(.ref o0), (.int 13)])) rfl rfl (hb hby d23_11) _ ?_
    rw [len_of S42 M42]
    refine XS.icmpNo X0.here hx rfl (hb hby d23_12) rfl (tlt (by decide)).2.1 ?_
    refine XS.aloadN X0.here hx rfl (hb hby d23_15) rfl rfl ?_
    refine XS.iloadN X0.here hx rfl (hb hby d23_16) rfl ?_
    exact kt
  obtain ⟨cl43, Ar43, -, S43, M43, H43, -⟩ := id V_o0
  have hin43 : ¬ ((13 : Int32) < 0 ∨ cl43.slots.size ≤ ((13 : Int32)).toNatClampNeg) := inb_of S43 ⟨by decide, by decide⟩
  have hat43 : cl43.slots[((13 : Int32)).toNatClampNeg]? = some (.int 82) := Has.at H43 hin43 rfl
  refine own_thr (a := s₁.setTop (mkF m 20 #[.val (.ref o0), .val (.ref o1), .val (.int 13)] [(.int 13), (.ref o1), (.int 82)])) (fun t kt => ?_) ?_
  · show Steps p.tables e below (s₁.setTop (mkF m 17 #[.val (.ref o0), .val (.ref o1), .val (.int 13)] [(.int 13), (.ref o0)])) _
    refine X0.baloadBytes hx (j := (13 : Int32)) (v := (.int 82)) (by rw [e0]; exact Ar43.1) (State.isArrayOf_alike hZ.alike Ar43.2.1) Ar43.2.2 hin43 hat43 (g := (mkF m 17 #[.val (.ref o0), .val (.ref o1), .val (.int 13)] [(.int 13), (.ref o0)])) rfl rfl (hb hby d23_17) _ ?_
    refine XS.aloadN X0.here hx rfl (hb hby d23_18) rfl rfl ?_
    refine XS.iloadN X0.here hx rfl (hb hby d23_19) rfl ?_
    exact kt
  obtain ⟨cl44, Ar44, -, S44, M44, H44, -⟩ := id V_o1
  have hin44 : ¬ ((13 : Int32) < 0 ∨ cl44.slots.size ≤ ((13 : Int32)).toNatClampNeg) := inb_of S44 ⟨by decide, by decide⟩
  have hat44 : cl44.slots[((13 : Int32)).toNatClampNeg]? = some (.int 82) := Has.at H44 hin44 rfl
  refine own_thr (a := s₁.setTop (mkF m 11 #[.val (.ref o0), .val (.ref o1), .val (.int 14)] [(.ref o0), (.int 14)])) (fun t kt => ?_) ?_
  · show Steps p.tables e below (s₁.setTop (mkF m 20 #[.val (.ref o0), .val (.ref o1), .val (.int 13)] [(.int 13), (.ref o1), (.int 82)])) _
    refine X0.baloadBytes hx (j := (13 : Int32)) (v := (.int 82)) (by rw [e0]; exact Ar44.1) (State.isArrayOf_alike hZ.alike Ar44.2.1) Ar44.2.2 hin44 hat44 (g := (mkF m 20 #[.val (.ref o0), .val (.ref o1), .val (.int 13)] [(.int 13), (.ref o1), (.int 82)])) rfl rfl (hb hby d23_20) _ ?_
    refine XS.icmpYes X0.here hx rfl (pc0 := 21) (pc' := 26) rfl (hb hby d23_21) rfl (teq rfl).1 (by decide) (by decide) ?_
    refine XS.iinc X0.here hx rfl (hb hby d23_26) rfl (l' := #[.val (.ref o0), .val (.ref o1), .val (.int 14)]) rfl ?_
    refine XS.goto X0.here hx rfl (pc0 := 29) (pc' := 9) rfl (hb hby d23_29) (by decide) (by decide) ?_
    refine XS.iloadN X0.here hx rfl (hb hby d23_9) rfl ?_
    refine XS.aloadN X0.here hx rfl (hb hby d23_10) rfl rfl ?_
    exact kt
  obtain ⟨cl45, Ar45, -, S45, M45, -, -⟩ := id V_o0
  refine own_thr (a := s₁.setTop (mkF m 17 #[.val (.ref o0), .val (.ref o1), .val (.int 14)] [(.int 14), (.ref o0)])) (fun t kt => ?_) ?_
  · show Steps p.tables e below (s₁.setTop (mkF m 11 #[.val (.ref o0), .val (.ref o1), .val (.int 14)] [(.ref o0), (.int 14)])) _
    refine X0.arraylength hx (by rw [e0]; exact Ar45.1) (State.isArrayOf_alike hZ.alike Ar45.2.1) (g := (mkF m 11 #[.val (.ref o0), .val (.ref o1), .val (.int 14)] [(.ref o0), (.int 14)])) rfl rfl (hb hby d23_11) _ ?_
    rw [len_of S45 M45]
    refine XS.icmpNo X0.here hx rfl (hb hby d23_12) rfl (tlt (by decide)).2.1 ?_
    refine XS.aloadN X0.here hx rfl (hb hby d23_15) rfl rfl ?_
    refine XS.iloadN X0.here hx rfl (hb hby d23_16) rfl ?_
    exact kt
  obtain ⟨cl46, Ar46, -, S46, M46, H46, -⟩ := id V_o0
  have hin46 : ¬ ((14 : Int32) < 0 ∨ cl46.slots.size ≤ ((14 : Int32)).toNatClampNeg) := inb_of S46 ⟨by decide, by decide⟩
  have hat46 : cl46.slots[((14 : Int32)).toNatClampNeg]? = some (.int 76) := Has.at H46 hin46 rfl
  refine own_thr (a := s₁.setTop (mkF m 20 #[.val (.ref o0), .val (.ref o1), .val (.int 14)] [(.int 14), (.ref o1), (.int 76)])) (fun t kt => ?_) ?_
  · show Steps p.tables e below (s₁.setTop (mkF m 17 #[.val (.ref o0), .val (.ref o1), .val (.int 14)] [(.int 14), (.ref o0)])) _
    refine X0.baloadBytes hx (j := (14 : Int32)) (v := (.int 76)) (by rw [e0]; exact Ar46.1) (State.isArrayOf_alike hZ.alike Ar46.2.1) Ar46.2.2 hin46 hat46 (g := (mkF m 17 #[.val (.ref o0), .val (.ref o1), .val (.int 14)] [(.int 14), (.ref o0)])) rfl rfl (hb hby d23_17) _ ?_
    refine XS.aloadN X0.here hx rfl (hb hby d23_18) rfl rfl ?_
    refine XS.iloadN X0.here hx rfl (hb hby d23_19) rfl ?_
    exact kt
  obtain ⟨cl47, Ar47, -, S47, M47, H47, -⟩ := id V_o1
  have hin47 : ¬ ((14 : Int32) < 0 ∨ cl47.slots.size ≤ ((14 : Int32)).toNatClampNeg) := inb_of S47 ⟨by decide, by decide⟩
  have hat47 : cl47.slots[((14 : Int32)).toNatClampNeg]? = some (.int 76) := Has.at H47 hin47 rfl
  refine own_thr (a := s₁.setTop (mkF m 11 #[.val (.ref o0), .val (.ref o1), .val (.int 15)] [(.ref o0), (.int 15)])) (fun t kt => ?_) ?_
  · show Steps p.tables e below (s₁.setTop (mkF m 20 #[.val (.ref o0), .val (.ref o1), .val (.int 14)] [(.int 14), (.ref o1), (.int 76)])) _
    refine X0.baloadBytes hx (j := (14 : Int32)) (v := (.int 76)) (by rw [e0]; exact Ar47.1) (State.isArrayOf_alike hZ.alike Ar47.2.1) Ar47.2.2 hin47 hat47 (g := (mkF m 20 #[.val (.ref o0), .val (.ref o1), .val (.int 14)] [(.int 14), (.ref o1), (.int 76)])) rfl rfl (hb hby d23_20) _ ?_
    refine XS.icmpYes X0.here hx rfl (pc0 := 21) (pc' := 26) rfl (hb hby d23_21) rfl (teq rfl).1 (by decide) (by decide) ?_
    refine XS.iinc X0.here hx rfl (hb hby d23_26) rfl (l' := #[.val (.ref o0), .val (.ref o1), .val (.int 15)]) rfl ?_
    refine XS.goto X0.here hx rfl (pc0 := 29) (pc' := 9) rfl (hb hby d23_29) (by decide) (by decide) ?_
    refine XS.iloadN X0.here hx rfl (hb hby d23_9) rfl ?_
    refine XS.aloadN X0.here hx rfl (hb hby d23_10) rfl rfl ?_
    exact kt
  obtain ⟨cl48, Ar48, -, S48, M48, -, -⟩ := id V_o0
  refine own_thr (a := s₁.setTop (mkF m 17 #[.val (.ref o0), .val (.ref o1), .val (.int 15)] [(.int 15), (.ref o0)])) (fun t kt => ?_) ?_
  · show Steps p.tables e below (s₁.setTop (mkF m 11 #[.val (.ref o0), .val (.ref o1), .val (.int 15)] [(.ref o0), (.int 15)])) _
    refine X0.arraylength hx (by rw [e0]; exact Ar48.1) (State.isArrayOf_alike hZ.alike Ar48.2.1) (g := (mkF m 11 #[.val (.ref o0), .val (.ref o1), .val (.int 15)] [(.ref o0), (.int 15)])) rfl rfl (hb hby d23_11) _ ?_
    rw [len_of S48 M48]
    refine XS.icmpNo X0.here hx rfl (hb hby d23_12) rfl (tlt (by decide)).2.1 ?_
    refine XS.aloadN X0.here hx rfl (hb hby d23_15) rfl rfl ?_
    refine XS.iloadN X0.here hx rfl (hb hby d23_16) rfl ?_
    exact kt
  obtain ⟨cl49, Ar49, -, S49, M49, H49, -⟩ := id V_o0
  have hin49 : ¬ ((15 : Int32) < 0 ∨ cl49.slots.size ≤ ((15 : Int32)).toNatClampNeg) := inb_of S49 ⟨by decide, by decide⟩
  have hat49 : cl49.slots[((15 : Int32)).toNatClampNeg]? = some (.int 62) := Has.at H49 hin49 rfl
  refine own_thr (a := s₁.setTop (mkF m 20 #[.val (.ref o0), .val (.ref o1), .val (.int 15)] [(.int 15), (.ref o1), (.int 62)])) (fun t kt => ?_) ?_
  · show Steps p.tables e below (s₁.setTop (mkF m 17 #[.val (.ref o0), .val (.ref o1), .val (.int 15)] [(.int 15), (.ref o0)])) _
    refine X0.baloadBytes hx (j := (15 : Int32)) (v := (.int 62)) (by rw [e0]; exact Ar49.1) (State.isArrayOf_alike hZ.alike Ar49.2.1) Ar49.2.2 hin49 hat49 (g := (mkF m 17 #[.val (.ref o0), .val (.ref o1), .val (.int 15)] [(.int 15), (.ref o0)])) rfl rfl (hb hby d23_17) _ ?_
    refine XS.aloadN X0.here hx rfl (hb hby d23_18) rfl rfl ?_
    refine XS.iloadN X0.here hx rfl (hb hby d23_19) rfl ?_
    exact kt
  obtain ⟨cl50, Ar50, -, S50, M50, H50, -⟩ := id V_o1
  have hin50 : ¬ ((15 : Int32) < 0 ∨ cl50.slots.size ≤ ((15 : Int32)).toNatClampNeg) := inb_of S50 ⟨by decide, by decide⟩
  have hat50 : cl50.slots[((15 : Int32)).toNatClampNeg]? = some (.int 62) := Has.at H50 hin50 rfl
  refine own_thr (a := s₁.setTop (mkF m 11 #[.val (.ref o0), .val (.ref o1), .val (.int 16)] [(.ref o0), (.int 16)])) (fun t kt => ?_) ?_
  · show Steps p.tables e below (s₁.setTop (mkF m 20 #[.val (.ref o0), .val (.ref o1), .val (.int 15)] [(.int 15), (.ref o1), (.int 62)])) _
    refine X0.baloadBytes hx (j := (15 : Int32)) (v := (.int 62)) (by rw [e0]; exact Ar50.1) (State.isArrayOf_alike hZ.alike Ar50.2.1) Ar50.2.2 hin50 hat50 (g := (mkF m 20 #[.val (.ref o0), .val (.ref o1), .val (.int 15)] [(.int 15), (.ref o1), (.int 62)])) rfl rfl (hb hby d23_20) _ ?_
    refine XS.icmpYes X0.here hx rfl (pc0 := 21) (pc' := 26) rfl (hb hby d23_21) rfl (teq rfl).1 (by decide) (by decide) ?_
    refine XS.iinc X0.here hx rfl (hb hby d23_26) rfl (l' := #[.val (.ref o0), .val (.ref o1), .val (.int 16)]) rfl ?_
    refine XS.goto X0.here hx rfl (pc0 := 29) (pc' := 9) rfl (hb hby d23_29) (by decide) (by decide) ?_
    refine XS.iloadN X0.here hx rfl (hb hby d23_9) rfl ?_
    refine XS.aloadN X0.here hx rfl (hb hby d23_10) rfl rfl ?_
    exact kt
  obtain ⟨cl51, Ar51, -, S51, M51, -, -⟩ := id V_o0
  refine own_thr (a := s₁.setTop (mkF m 33 #[.val (.ref o0), .val (.ref o1), .val (.int 16)] [(.int 1)])) (fun t kt => ?_) ?_
  · show Steps p.tables e below (s₁.setTop (mkF m 11 #[.val (.ref o0), .val (.ref o1), .val (.int 16)] [(.ref o0), (.int 16)])) _
    refine X0.arraylength hx (by rw [e0]; exact Ar51.1) (State.isArrayOf_alike hZ.alike Ar51.2.1) (g := (mkF m 11 #[.val (.ref o0), .val (.ref o1), .val (.int 16)] [(.ref o0), (.int 16)])) rfl rfl (hb hby d23_11) _ ?_
    rw [len_of S51 M51]
    refine XS.icmpYes X0.here hx rfl (pc0 := 12) (pc' := 32) rfl (hb hby d23_12) rfl (flt (by decide)).2.1 (by decide) (by decide) ?_
    refine XS.iconst X0.here hx rfl (hb hby d23_32) ?_
    exact kt
  exact own_end X0 hlk (v := some (.int 1)) (fun h => by rw [Bd.returns] at h; cases h) (fun fs hr => retN X0 hx (t := .boolean) Bd.returns (by simp) (hb hby d23_33) hr) (by rw [e0]; exact ⟨rfl, N0, rfl⟩) (by decide : 0 ≤ _) (by decide : 0 ≤ _)
theorem d22_0 : decode jdk_42_method_66_code 0 = .ok (.aload_n 0, 1) := by decide +kernel
theorem d22_1 : decode jdk_42_method_66_code 1 = .ok (.aload_n 1, 1) := by decide +kernel
theorem d22_2 : decode jdk_42_method_66_code 2 = .ok (.if_acmp .ne 5, 3) := by decide +kernel
theorem d22_5 : decode jdk_42_method_66_code 5 = .ok (.iconst 1, 1) := by decide +kernel
theorem d22_6 : decode jdk_42_method_66_code 6 = .ok (.ireturn, 1) := by decide +kernel
theorem d22_7 : decode jdk_42_method_66_code 7 = .ok (.aload_n 1, 1) := by decide +kernel
theorem d22_8 : decode jdk_42_method_66_code 8 = .ok (.instanceof 10, 3) := by decide +kernel
theorem d22_11 : decode jdk_42_method_66_code 11 = .ok (.ifCond .eq 43, 3) := by decide +kernel
theorem d22_14 : decode jdk_42_method_66_code 14 = .ok (.aload_n 1, 1) := by decide +kernel
theorem d22_15 : decode jdk_42_method_66_code 15 = .ok (.checkcast 10, 3) := by decide +kernel
theorem d22_18 : decode jdk_42_method_66_code 18 = .ok (.astore_n 2, 1) := by decide +kernel
theorem d22_19 : decode jdk_42_method_66_code 19 = .ok (.getstatic 38, 3) := by decide +kernel
theorem d22_22 : decode jdk_42_method_66_code 22 = .ok (.ifCond .eq 14, 3) := by decide +kernel
theorem d22_25 : decode jdk_42_method_66_code 25 = .ok (.aload_n 0, 1) := by decide +kernel
theorem d22_26 : decode jdk_42_method_66_code 26 = .ok (.getfield 15, 3) := by decide +kernel
theorem d22_29 : decode jdk_42_method_66_code 29 = .ok (.aload_n 2, 1) := by decide +kernel
theorem d22_30 : decode jdk_42_method_66_code 30 = .ok (.getfield 15, 3) := by decide +kernel
theorem d22_33 : decode jdk_42_method_66_code 33 = .ok (.if_icmp .ne 21, 3) := by decide +kernel
theorem d22_36 : decode jdk_42_method_66_code 36 = .ok (.aload_n 0, 1) := by decide +kernel
theorem d22_37 : decode jdk_42_method_66_code 37 = .ok (.getfield 9, 3) := by decide +kernel
theorem d22_40 : decode jdk_42_method_66_code 40 = .ok (.aload_n 2, 1) := by decide +kernel
theorem d22_41 : decode jdk_42_method_66_code 41 = .ok (.getfield 9, 3) := by decide +kernel
theorem pd__28_5bB_5bB_29Z : parseMethodDescriptor "([B[B)Z" = some ⟨[(.array .byte), (.array .byte)], some .boolean⟩ := by decide +kernel
theorem d22_44 : decode jdk_42_method_66_code 44 = .ok (.invokestatic 541, 3) := by decide +kernel
theorem d22_47 : decode jdk_42_method_66_code 47 = .ok (.ifCond .eq 7, 3) := by decide +kernel
theorem d22_50 : decode jdk_42_method_66_code 50 = .ok (.iconst 1, 1) := by decide +kernel
theorem d22_51 : decode jdk_42_method_66_code 51 = .ok (.goto 4, 3) := by decide +kernel
theorem d22_55 : decode jdk_42_method_66_code 55 = .ok (.ireturn, 1) := by decide +kernel
theorem ef_rmEQus (m : MethodId) (o0 : Addr) (o1 : Addr)  : entryFrame m #[(.ref o0), (.ref o1)] 3 = mkF m 0 #[.val (.ref o0), .val (.ref o1), .unset] [] := by first |  (simp [entryFrame, mkF, argsToLocals, Value.category]; done) | rfl
def Q_rmEQus (Z : State) (o0 : Addr) (o1 : Addr) (v0 : Addr) (v1 : Addr) (k0 : ClassId) (k1 : ClassId) (cs : Int32) (h0 : Heap) (n0 : Nat) (v : Option Value) (h : Heap) (L : List Loc) : Prop := v = some (.int 1) ∧ Fr n0 L ∧ h = h0
set_option maxRecDepth 65536 in
set_option maxHeartbeats 40000000 in
theorem rmEQus (l : Launch) (Z : State) (a0 : Array Value) (hw : ∀ d ∈ tables_1, d.before a0 Z = true) (ws : List Jvm.Cond) (o0 : Addr) (o1 : Addr) (v0 : Addr) (v1 : Addr) (k0 : ClassId) (k1 : ClassId) (cs : Int32) (h0 : Heap) (n0 : Nat) (Z0 : n0 ≤ h0.size) (E_o0 : Exa Z h0 o0 "java/lang/String") (F_value_o0 : Fld Z h0 o0 "java/lang/String" "value" "[B" (.ref v0)) (F_coder_o0 : Fld Z h0 o0 "java/lang/String" "coder" "B" (.int 0)) (E_o1 : Exa Z h0 o1 "java/lang/String") (F_value_o1 : Fld Z h0 o1 "java/lang/String" "value" "[B" (.ref v1)) (F_coder_o1 : Fld Z h0 o1 "java/lang/String" "coder" "B" (.int 0)) (V_v0 : Arv Z h0 v0 k0 .byte (16 : Int32) [(.int 45), (.int 45), (.int 117), (.int 114), (.int 108), (.int 32), (.int 60), (.int 74), (.int 68), (.int 66), (.int 67), (.int 32), (.int 85), (.int 82), (.int 76), (.int 62)] (.int 0)) (V_v1 : Arv Z h0 v1 k1 .byte (16 : Int32) [(.int 45), (.int 45), (.int 117), (.int 114), (.int 108), (.int 32), (.int 60), (.int 74), (.int 68), (.int 66), (.int 67), (.int 32), (.int 85), (.int 82), (.int 76), (.int 62)] (.int 0)) (S_COMPACT_STRINGS : Sta Z h0 "java/lang/String" "COMPACT_STRINGS" "Z" (.int cs)) (hcs : ¬ cs = (0 : Int32)) :
    MetFree l (⟨"java/lang/String", "equals", "(Ljava/lang/Object;)Z"⟩ : MethodName) (head1 (Jvm.Cond.code (⟨"java/lang/String", "equals", "(Ljava/lang/Object;)Z"⟩ : MethodName) jdk_42_method_66_code 3 (some .boolean) :: ws) ({ frames := 1, cells := 0, slots := 0, locals := 14 } : Room)) (fun a U => a = #[(.ref o0), (.ref o1)] ∧ Z.Warmed39 U.vm ∧ U.heap = h0) (fun _ _ _ _ _ => True) (fun _ U o U' => ∃ v L, o = .returned v ∧ Q_rmEQus Z o0 o1 v0 v1 k0 k1 cs h0 n0 v U'.heap L ∧ FrameEnd U o U' L ({ frames := 1, cells := 0, slots := 0, locals := 14 } : Room).cells ({ frames := 1, cells := 0, slots := 0, locals := 14 } : Room).slots) := by
  refine MetFree.of_bodySF (plainFor_of_name pn_java_lang_String) hisR ?_
  intro p e s m args below meth c s₁ Bd hml0 hP hK
  obtain ⟨rfl, hZ, hh⟩ := hP
  have hx := Bd.exec
  have hby := Bd.bytes
  have hml : c.maxLocals = 3 := hml0
  have hown : s.vm.findClass "java/lang/String" = some m.cls := findClass_of_methodNamed Bd.named
  have hnm := (name_of_methodNamed Bd.named Bd.method).1
  have hlk := Bd.notSynchronized
  have X0 : Stand p l e ({ frames := 1, cells := 0, slots := 0, locals := 14 } : Room) s m #[(.ref o0), (.ref o1)] below meth c s₁ [] 0 0 := Stand.of_body Bd
  have e0 : s₁.heap = h0 := by rw [← hh, Bd.state]; rfl
  have N0 := Fr.nil n0
  show own_G p.tables e below s (Q_rmEQus Z o0 o1 v0 v1 k0 k1 cs h0 n0) ({ frames := 1, cells := 0, slots := 0, locals := 14 } : Room).cells ({ frames := 1, cells := 0, slots := 0, locals := 14 } : Room).slots _
  refine own_thr (a := s₁.setTop (mkF m 0 #[.val (.ref o0), .val (.ref o1), .unset] [])) (fun t kt => castTop (ef_rmEQus m o0 o1) kt) ?_
  refine own_thr (a := s₁.setTop (mkF m 2 #[.val (.ref o0), .val (.ref o1), .unset] [(.ref o1), (.ref o0)])) (fun t kt => ?_) ?_
  · show Steps p.tables e below (s₁.setTop (mkF m 0 #[.val (.ref o0), .val (.ref o1), .unset] [])) _
    refine XS.aloadN X0.here hx rfl (hb hby d22_0) rfl rfl ?_
    refine XS.aloadN X0.here hx rfl (hb hby d22_1) rfl rfl ?_
    exact kt
  by_cases hc1 : ((.ref o0) : Value) = (.ref o1)
  · refine own_thr (a := s₁.setTop (mkF m 6 #[.val (.ref o0), .val (.ref o1), .unset] [(.int 1)])) (fun t kt => ?_) ?_
    · show Steps p.tables e below (s₁.setTop (mkF m 2 #[.val (.ref o0), .val (.ref o1), .unset] [(.ref o1), (.ref o0)])) _
      refine Jvm.RoadKit.acmp (g := (mkF m 2 #[.val (.ref o0), .val (.ref o1), .unset] [(.ref o1), (.ref o0)])) X0 hx rfl rfl rfl (pc0 := 2) (pc' := 5) (same := true) rfl (hb hby d22_2) rfl (decide_eq_true hc1) (by decide) (by decide) ?_
      refine XS.iconst X0.here hx rfl (hb hby d22_5) ?_
      exact kt
    exact own_end X0 hlk (v := some (.int 1)) (fun h => by rw [Bd.returns] at h; cases h) (fun fs hr => retN X0 hx (t := .boolean) Bd.returns (by simp) (hb hby d22_6) hr) (by rw [e0]; exact ⟨rfl, N0, rfl⟩) (by decide : 0 ≤ _) (by decide : 0 ≤ _)
  · refine own_thr (a := s₁.setTop (mkF m 8 #[.val (.ref o0), .val (.ref o1), .unset] [(.ref o1)])) (fun t kt => ?_) ?_
    · show Steps p.tables e below (s₁.setTop (mkF m 2 #[.val (.ref o0), .val (.ref o1), .unset] [(.ref o1), (.ref o0)])) _
      refine Jvm.RoadKit.acmp (g := (mkF m 2 #[.val (.ref o0), .val (.ref o1), .unset] [(.ref o1), (.ref o0)])) X0 hx rfl rfl rfl (pc0 := 2) (pc' := 7) (same := false) rfl (hb hby d22_2) rfl (decide_eq_false hc1) (by decide) (by decide) ?_
      refine XS.aloadN X0.here hx rfl (hb hby d22_7) rfl rfl ?_
      exact kt
    obtain ⟨T2, X2, e2, st2⟩ := instY X0 hx hZ hown (hw _ (List.mem_of_getElem? (i := 147) rfl)) e0 (Ins.self E_o1) (g := (mkF m 8 #[.val (.ref o0), .val (.ref o1), .unset] [(.ref o1)])) rfl rfl (hb hby d22_8)
    refine own_thr (a := T2.setTop (mkF m 11 #[.val (.ref o0), .val (.ref o1), .unset] [(.int 1)])) (fun t kt => st2 t kt) ?_
    refine own_thr (a := T2.setTop (mkF m 15 #[.val (.ref o0), .val (.ref o1), .unset] [(.ref o1)])) (fun t kt => ?_) ?_
    · show Steps p.tables e below (T2.setTop (mkF m 11 #[.val (.ref o0), .val (.ref o1), .unset] [(.int 1)])) _
      refine XS.ifNo X2.here hx rfl (hb hby d22_11) rfl ((if0 _ _).trans (feq (by decide)).1) ?_
      refine XS.aloadN X2.here hx rfl (hb hby d22_14) rfl rfl ?_
      exact kt
    obtain ⟨T3, X3, e3, st3⟩ := castY X2 hx hZ hown (hw _ (List.mem_of_getElem? (i := 147) rfl)) e2 (Ins.self E_o1) (g := (mkF m 15 #[.val (.ref o0), .val (.ref o1), .unset] [(.ref o1)])) rfl rfl (hb hby d22_15)
    refine own_thr (a := T3.setTop (mkF m 18 #[.val (.ref o0), .val (.ref o1), .unset] [(.ref o1)])) (fun t kt => st3 t kt) ?_
    refine own_thr (a := T3.setTop (mkF m 19 #[.val (.ref o0), .val (.ref o1), .val (.ref o1)] [])) (fun t kt => ?_) ?_
    · show Steps p.tables e below (T3.setTop (mkF m 18 #[.val (.ref o0), .val (.ref o1), .unset] [(.ref o1)])) _
      refine XS.astoreN X3.here hx rfl (hb hby d22_18) rfl rfl (l' := #[.val (.ref o0), .val (.ref o1), .val (.ref o1)]) rfl ?_
      exact kt
    obtain ⟨T4, X4, e4, st4⟩ := getS2 X3 hx hZ hown (host := "") (Or.inl (hw _ (List.mem_of_getElem? (i := 54) rfl))) Via.refl e3 S_COMPACT_STRINGS (g := (mkF m 19 #[.val (.ref o0), .val (.ref o1), .val (.ref o1)] [])) rfl (hb hby d22_19)
    refine own_thr (a := T4.setTop (mkF m 22 #[.val (.ref o0), .val (.ref o1), .val (.ref o1)] [(.int cs)])) (fun t kt => st4 t kt) ?_
    refine own_thr (a := T4.setTop (mkF m 26 #[.val (.ref o0), .val (.ref o1), .val (.ref o1)] [(.ref o0)])) (fun t kt => ?_) ?_
    · show Steps p.tables e below (T4.setTop (mkF m 22 #[.val (.ref o0), .val (.ref o1), .val (.ref o1)] [(.int cs)])) _
      refine XS.ifNo X4.here hx rfl (hb hby d22_22) rfl ((if0 _ _).trans (feq hcs).1) ?_
      refine XS.aloadN X4.here hx rfl (hb hby d22_25) rfl rfl ?_
      exact kt
    obtain ⟨T5, X5, e5, st5⟩ := getF X4 hx hZ hown (host := "") (Or.inl (hw _ (List.mem_of_getElem? (i := 55) rfl))) Via.refl e4 F_coder_o0 (g := (mkF m 26 #[.val (.ref o0), .val (.ref o1), .val (.ref o1)] [(.ref o0)])) rfl rfl (hb hby d22_26)
    refine own_thr (a := T5.setTop (mkF m 29 #[.val (.ref o0), .val (.ref o1), .val (.ref o1)] [(.int 0)])) (fun t kt => st5 t kt) ?_
    refine own_thr (a := T5.setTop (mkF m 30 #[.val (.ref o0), .val (.ref o1), .val (.ref o1)] [(.ref o1), (.int 0)])) (fun t kt => ?_) ?_
    · show Steps p.tables e below (T5.setTop (mkF m 29 #[.val (.ref o0), .val (.ref o1), .val (.ref o1)] [(.int 0)])) _
      refine XS.aloadN X5.here hx rfl (hb hby d22_29) rfl rfl ?_
      exact kt
    obtain ⟨T6, X6, e6, st6⟩ := getF X5 hx hZ hown (host := "") (Or.inl (hw _ (List.mem_of_getElem? (i := 55) rfl))) Via.refl e5 F_coder_o1 (g := (mkF m 30 #[.val (.ref o0), .val (.ref o1), .val (.ref o1)] [(.ref o1), (.int 0)])) rfl rfl (hb hby d22_30)
    refine own_thr (a := T6.setTop (mkF m 33 #[.val (.ref o0), .val (.ref o1), .val (.ref o1)] [(.int 0), (.int 0)])) (fun t kt => st6 t kt) ?_
    refine own_thr (a := T6.setTop (mkF m 37 #[.val (.ref o0), .val (.ref o1), .val (.ref o1)] [(.ref o0)])) (fun t kt => ?_) ?_
    · show Steps p.tables e below (T6.setTop (mkF m 33 #[.val (.ref o0), .val (.ref o1), .val (.ref o1)] [(.int 0), (.int 0)])) _
      refine XS.icmpNo X6.here hx rfl (hb hby d22_33) rfl (teq rfl).2 ?_
      refine XS.aloadN X6.here hx rfl (hb hby d22_36) rfl rfl ?_
      exact kt
    obtain ⟨T7, X7, e7, st7⟩ := getF X6 hx hZ hown (host := "") (Or.inl (hw _ (List.mem_of_getElem? (i := 47) rfl))) Via.refl e6 F_value_o0 (g := (mkF m 37 #[.val (.ref o0), .val (.ref o1), .val (.ref o1)] [(.ref o0)])) rfl rfl (hb hby d22_37)
    refine own_thr (a := T7.setTop (mkF m 40 #[.val (.ref o0), .val (.ref o1), .val (.ref o1)] [(.ref v0)])) (fun t kt => st7 t kt) ?_
    refine own_thr (a := T7.setTop (mkF m 41 #[.val (.ref o0), .val (.ref o1), .val (.ref o1)] [(.ref o1), (.ref v0)])) (fun t kt => ?_) ?_
    · show Steps p.tables e below (T7.setTop (mkF m 40 #[.val (.ref o0), .val (.ref o1), .val (.ref o1)] [(.ref v0)])) _
      refine XS.aloadN X7.here hx rfl (hb hby d22_40) rfl rfl ?_
      exact kt
    obtain ⟨T8, X8, e8, st8⟩ := getF X7 hx hZ hown (host := "") (Or.inl (hw _ (List.mem_of_getElem? (i := 47) rfl))) Via.refl e7 F_value_o1 (g := (mkF m 41 #[.val (.ref o0), .val (.ref o1), .val (.ref o1)] [(.ref o1), (.ref v0)])) rfl rfl (hb hby d22_41)
    refine own_thr (a := T8.setTop (mkF m 44 #[.val (.ref o0), .val (.ref o1), .val (.ref o1)] [(.ref v1), (.ref v0)])) (fun t kt => st8 t kt) ?_
    obtain ⟨_, _, ⟨T9, L9, k9, n9⟩, -, X9, ⟨Lc9, hQ9, l9, y9, z9⟩, st9⟩ := Jvm.LawKit.callS X8 hx (y := (⟨"java/lang/StringLatin1", "equals", "([B[B)Z"⟩ : MethodName)) hown (mvT hZ (hw _ (List.mem_of_getElem? (i := 148) rfl))) (mvT hZ (hw _ (List.mem_of_getElem? (i := 149) rfl))) (mvT hZ (hw _ (List.mem_of_getElem? (i := 150) rfl))) (mvT hZ (hw _ (List.mem_of_getElem? (i := 151) rfl))) (by decide) (backOf (W := 0) (rmLEus l Z a0 hw [] v0 v1 k0 k1 h0 n0 Z0 V_v0 V_v1) hZ (hw _ (List.mem_of_getElem? (i := 151) rfl)) (hw _ (List.mem_of_getElem? (i := 150) rfl)) (by decide) (by decide)) (g := (mkF m 44 #[.val (.ref o0), .val (.ref o1), .val (.ref o1)] [(.ref v1), (.ref v0)])) rfl (by rw [hml]; rfl) (argsL := [(.ref v0), (.ref v1)]) (rest := []) (lenOf pd__28_5bB_5bB_29Z rfl) rfl (by show 2 * 0 + _ ≤ _; exact Nat.le_of_eq rfl) (hb hby d22_44) (fun _ _ => ⟨rfl, e8, (by decide : 0 + 0 ≤ _), (by decide : 0 + 0 ≤ _)⟩)
    dsimp only [Pt.U, Pt.locs, Pt.cells, Pt.slots] at X9 l9 y9 z9 st9 hQ9
    obtain ⟨rfl, N9q, e9⟩ := hQ9
    obtain ⟨lc9, X9, N9⟩ := own_pack X9 l9 y9 z9 N0 N9q (C := 0) (S' := 0) rfl rfl
    refine own_thr (a := T9.setTop (mkF m 47 #[.val (.ref o0), .val (.ref o1), .val (.ref o1)] [(.int 1)])) (fun t kt => st9 t kt) ?_
    refine own_thr (a := T9.setTop (mkF m 55 #[.val (.ref o0), .val (.ref o1), .val (.ref o1)] [(.int 1)])) (fun t kt => ?_) ?_
    · show Steps p.tables e below (T9.setTop (mkF m 47 #[.val (.ref o0), .val (.ref o1), .val (.ref o1)] [(.int 1)])) _
      refine XS.ifNo X9.here hx rfl (hb hby d22_47) rfl ((if0 _ _).trans (feq (by decide)).1) ?_
      refine XS.iconst X9.here hx rfl (hb hby d22_50) ?_
      refine XS.goto X9.here hx rfl (pc0 := 51) (pc' := 55) rfl (hb hby d22_51) (by decide) (by decide) ?_
      exact kt
    exact own_end X9 hlk (v := some (.int 1)) (fun h => by rw [Bd.returns] at h; cases h) (fun fs hr => retN X9 hx (t := .boolean) Bd.returns (by simp) (hb hby d22_55) hr) (by rw [e9]; exact ⟨rfl, N9, rfl⟩) (by decide : 0 ≤ _) (by decide : 0 ≤ _)
theorem ef_rmLEuf (m : MethodId) (o0 : Addr) (o1 : Addr)  : entryFrame m #[(.ref o0), (.ref o1)] 3 = mkF m 0 #[.val (.ref o0), .val (.ref o1), .unset] [] := by first |  (simp [entryFrame, mkF, argsToLocals, Value.category]; done) | rfl
def Q_rmLEuf (Z : State) (o0 : Addr) (o1 : Addr) (k0 : ClassId) (k1 : ClassId) (h0 : Heap) (n0 : Nat) (v : Option Value) (h : Heap) (L : List Loc) : Prop := v = some (.int 1) ∧ Fr n0 L ∧ h = h0
set_option maxRecDepth 65536 in
set_option maxHeartbeats 40000000 in
theorem rmLEuf (l : Launch) (Z : State) (a0 : Array Value) (hw : ∀ d ∈ tables_1, d.before a0 Z = true) (ws : List Jvm.Cond) (o0 : Addr) (o1 : Addr) (k0 : ClassId) (k1 : ClassId) (h0 : Heap) (n0 : Nat) (Z0 : n0 ≤ h0.size) (V_o0 : Arv Z h0 o0 k0 .byte (5 : Int32) [(.int 45), (.int 45), (.int 117), (.int 114), (.int 108)] (.int 0)) (V_o1 : Arv Z h0 o1 k1 .byte (5 : Int32) [(.int 45), (.int 45), (.int 117), (.int 114), (.int 108)] (.int 0)) :
    MetFree l (⟨"java/lang/StringLatin1", "equals", "([B[B)Z"⟩ : MethodName) (head1 (Jvm.Cond.code (⟨"java/lang/StringLatin1", "equals", "([B[B)Z"⟩ : MethodName) jdk_43_method_13_code 3 (some .boolean) :: ws) ({ frames := 0, cells := 0, slots := 0, locals := 0 } : Room)) (fun a U => a = #[(.ref o0), (.ref o1)] ∧ Z.Warmed39 U.vm ∧ U.heap = h0) (fun _ _ _ _ _ => True) (fun _ U o U' => ∃ v L, o = .returned v ∧ Q_rmLEuf Z o0 o1 k0 k1 h0 n0 v U'.heap L ∧ FrameEnd U o U' L ({ frames := 0, cells := 0, slots := 0, locals := 0 } : Room).cells ({ frames := 0, cells := 0, slots := 0, locals := 0 } : Room).slots) := by
  refine MetFree.of_bodySF (plainFor_of_name pn_java_lang_StringLatin1) hisR ?_
  intro p e s m args below meth c s₁ Bd hml0 hP hK
  obtain ⟨rfl, hZ, hh⟩ := hP
  have hx := Bd.exec
  have hby := Bd.bytes
  have hml : c.maxLocals = 3 := hml0
  have hown : s.vm.findClass "java/lang/StringLatin1" = some m.cls := findClass_of_methodNamed Bd.named
  have hnm := (name_of_methodNamed Bd.named Bd.method).1
  have hlk := Bd.notSynchronized
  have X0 : Stand p l e ({ frames := 0, cells := 0, slots := 0, locals := 0 } : Room) s m #[(.ref o0), (.ref o1)] below meth c s₁ [] 0 0 := Stand.of_body Bd
  have e0 : s₁.heap = h0 := by rw [← hh, Bd.state]; rfl
  have N0 := Fr.nil n0
  show own_G p.tables e below s (Q_rmLEuf Z o0 o1 k0 k1 h0 n0) ({ frames := 0, cells := 0, slots := 0, locals := 0 } : Room).cells ({ frames := 0, cells := 0, slots := 0, locals := 0 } : Room).slots _
  refine own_thr (a := s₁.setTop (mkF m 0 #[.val (.ref o0), .val (.ref o1), .unset] [])) (fun t kt => castTop (ef_rmLEuf m o0 o1) kt) ?_
  refine own_thr (a := s₁.setTop (mkF m 1 #[.val (.ref o0), .val (.ref o1), .unset] [(.ref o0)])) (fun t kt => ?_) ?_
  · show Steps p.tables e below (s₁.setTop (mkF m 0 #[.val (.ref o0), .val (.ref o1), .unset] [])) _
    refine XS.aloadN X0.here hx rfl (hb hby d23_0) rfl rfl ?_
    exact kt
  obtain ⟨cl1, Ar1, -, S1, M1, -, -⟩ := id V_o0
  refine own_thr (a := s₁.setTop (mkF m 3 #[.val (.ref o0), .val (.ref o1), .unset] [(.ref o1), (.int 5)])) (fun t kt => ?_) ?_
  · show Steps p.tables e below (s₁.setTop (mkF m 1 #[.val (.ref o0), .val (.ref o1), .unset] [(.ref o0)])) _
    refine X0.arraylength hx (by rw [e0]; exact Ar1.1) (State.isArrayOf_alike hZ.alike Ar1.2.1) (g := (mkF m 1 #[.val (.ref o0), .val (.ref o1), .unset] [(.ref o0)])) rfl rfl (hb hby d23_1) _ ?_
    rw [len_of S1 M1]
    refine XS.aloadN X0.here hx rfl (hb hby d23_2) rfl rfl ?_
    exact kt
  obtain ⟨cl2, Ar2, -, S2, M2, -, -⟩ := id V_o1
  refine own_thr (a := s₁.setTop (mkF m 11 #[.val (.ref o0), .val (.ref o1), .val (.int 0)] [(.ref o0), (.int 0)])) (fun t kt => ?_) ?_
  · show Steps p.tables e below (s₁.setTop (mkF m 3 #[.val (.ref o0), .val (.ref o1), .unset] [(.ref o1), (.int 5)])) _
    refine X0.arraylength hx (by rw [e0]; exact Ar2.1) (State.isArrayOf_alike hZ.alike Ar2.2.1) (g := (mkF m 3 #[.val (.ref o0), .val (.ref o1), .unset] [(.ref o1), (.int 5)])) rfl rfl (hb hby d23_3) _ ?_
    rw [len_of S2 M2]
    refine XS.icmpNo X0.here hx rfl (hb hby d23_4) rfl (teq rfl).2 ?_
    refine XS.iconst X0.here hx rfl (hb hby d23_7) ?_
    refine XS.istoreN X0.here hx rfl (hb hby d23_8) rfl (l' := #[.val (.ref o0), .val (.ref o1), .val (.int 0)]) rfl ?_
    refine XS.iloadN X0.here hx rfl (hb hby d23_9) rfl ?_
    refine XS.aloadN X0.here hx rfl (hb hby d23_10) rfl rfl ?_
    exact kt
  obtain ⟨cl3, Ar3, -, S3, M3, -, -⟩ := id V_o0
  refine own_thr (a := s₁.setTop (mkF m 17 #[.val (.ref o0), .val (.ref o1), .val (.int 0)] [(.int 0), (.ref o0)])) (fun t kt => ?_) ?_
  · show Steps p.tables e below (s₁.setTop (mkF m 11 #[.val (.ref o0), .val (.ref o1), .val (.int 0)] [(.ref o0), (.int 0)])) _
    refine X0.arraylength hx (by rw [e0]; exact Ar3.1) (State.isArrayOf_alike hZ.alike Ar3.2.1) (g := (mkF m 11 #[.val (.ref o0), .val (.ref o1), .val (.int 0)] [(.ref o0), (.int 0)])) rfl rfl (hb hby d23_11) _ ?_
    rw [len_of S3 M3]
    refine XS.icmpNo X0.here hx rfl (hb hby d23_12) rfl (tlt (by decide)).2.1 ?_
    refine XS.aloadN X0.here hx rfl (hb hby d23_15) rfl rfl ?_
    refine XS.iloadN X0.here hx rfl (hb hby d23_16) rfl ?_
    exact kt
  obtain ⟨cl4, Ar4, -, S4, M4, H4, -⟩ := id V_o0
  have hin4 : ¬ ((0 : Int32) < 0 ∨ cl4.slots.size ≤ ((0 : Int32)).toNatClampNeg) := inb_of S4 ⟨by decide, by decide⟩
  have hat4 : cl4.slots[((0 : Int32)).toNatClampNeg]? = some (.int 45) := Has.at H4 hin4 rfl
  refine own_thr (a := s₁.setTop (mkF m 20 #[.val (.ref o0), .val (.ref o1), .val (.int 0)] [(.int 0), (.ref o1), (.int 45)])) (fun t kt => ?_) ?_
  · show Steps p.tables e below (s₁.setTop (mkF m 17 #[.val (.ref o0), .val (.ref o1), .val (.int 0)] [(.int 0), (.ref o0)])) _
    refine X0.baloadBytes hx (j := (0 : Int32)) (v := (.int 45)) (by rw [e0]; exact Ar4.1) (State.isArrayOf_alike hZ.alike Ar4.2.1) Ar4.2.2 hin4 hat4 (g := (mkF m 17 #[.val (.ref o0), .val (.ref o1), .val (.int 0)] [(.int 0), (.ref o0)])) rfl rfl (hb hby d23_17) _ ?_
    refine XS.aloadN X0.here hx rfl (hb hby d23_18) rfl rfl ?_
    refine XS.iloadN X0.here hx rfl (hb hby d23_19) rfl ?_
    exact kt
  obtain ⟨cl5, Ar5, -, S5, M5, H5, -⟩ := id V_o1
  have hin5 : ¬ ((0 : Int32) < 0 ∨ cl5.slots.size ≤ ((0 : Int32)).toNatClampNeg) := inb_of S5 ⟨by decide, by decide⟩
  have hat5 : cl5.slots[((0 : Int32)).toNatClampNeg]? = some (.int 45) := Has.at H5 hin5 rfl
  refine own_thr (a := s₁.setTop (mkF m 11 #[.val (.ref o0), .val (.ref o1), .val (.int 1)] [(.ref o0), (.int 1)])) (fun t kt => ?_) ?_
  · show Steps p.tables e below (s₁.setTop (mkF m 20 #[.val (.ref o0), .val (.ref o1), .val (.int 0)] [(.int 0), (.ref o1), (.int 45)])) _
    refine X0.baloadBytes hx (j := (0 : Int32)) (v := (.int 45)) (by rw [e0]; exact Ar5.1) (State.isArrayOf_alike hZ.alike Ar5.2.1) Ar5.2.2 hin5 hat5 (g := (mkF m 20 #[.val (.ref o0), .val (.ref o1), .val (.int 0)] [(.int 0), (.ref o1), (.int 45)])) rfl rfl (hb hby d23_20) _ ?_
    refine XS.icmpYes X0.here hx rfl (pc0 := 21) (pc' := 26) rfl (hb hby d23_21) rfl (teq rfl).1 (by decide) (by decide) ?_
    refine XS.iinc X0.here hx rfl (hb hby d23_26) rfl (l' := #[.val (.ref o0), .val (.ref o1), .val (.int 1)]) rfl ?_
    refine XS.goto X0.here hx rfl (pc0 := 29) (pc' := 9) rfl (hb hby d23_29) (by decide) (by decide) ?_
    refine XS.iloadN X0.here hx rfl (hb hby d23_9) rfl ?_
    refine XS.aloadN X0.here hx rfl (hb hby d23_10) rfl rfl ?_
    exact kt
  obtain ⟨cl6, Ar6, -, S6, M6, -, -⟩ := id V_o0
  refine own_thr (a := s₁.setTop (mkF m 17 #[.val (.ref o0), .val (.ref o1), .val (.int 1)] [(.int 1), (.ref o0)])) (fun t kt => ?_) ?_
  · show Steps p.tables e below (s₁.setTop (mkF m 11 #[.val (.ref o0), .val (.ref o1), .val (.int 1)] [(.ref o0), (.int 1)])) _
    refine X0.arraylength hx (by rw [e0]; exact Ar6.1) (State.isArrayOf_alike hZ.alike Ar6.2.1) (g := (mkF m 11 #[.val (.ref o0), .val (.ref o1), .val (.int 1)] [(.ref o0), (.int 1)])) rfl rfl (hb hby d23_11) _ ?_
    rw [len_of S6 M6]
    refine XS.icmpNo X0.here hx rfl (hb hby d23_12) rfl (tlt (by decide)).2.1 ?_
    refine XS.aloadN X0.here hx rfl (hb hby d23_15) rfl rfl ?_
    refine XS.iloadN X0.here hx rfl (hb hby d23_16) rfl ?_
    exact kt
  obtain ⟨cl7, Ar7, -, S7, M7, H7, -⟩ := id V_o0
  have hin7 : ¬ ((1 : Int32) < 0 ∨ cl7.slots.size ≤ ((1 : Int32)).toNatClampNeg) := inb_of S7 ⟨by decide, by decide⟩
  have hat7 : cl7.slots[((1 : Int32)).toNatClampNeg]? = some (.int 45) := Has.at H7 hin7 rfl
  refine own_thr (a := s₁.setTop (mkF m 20 #[.val (.ref o0), .val (.ref o1), .val (.int 1)] [(.int 1), (.ref o1), (.int 45)])) (fun t kt => ?_) ?_
  · show Steps p.tables e below (s₁.setTop (mkF m 17 #[.val (.ref o0), .val (.ref o1), .val (.int 1)] [(.int 1), (.ref o0)])) _
    refine X0.baloadBytes hx (j := (1 : Int32)) (v := (.int 45)) (by rw [e0]; exact Ar7.1) (State.isArrayOf_alike hZ.alike Ar7.2.1) Ar7.2.2 hin7 hat7 (g := (mkF m 17 #[.val (.ref o0), .val (.ref o1), .val (.int 1)] [(.int 1), (.ref o0)])) rfl rfl (hb hby d23_17) _ ?_
    refine XS.aloadN X0.here hx rfl (hb hby d23_18) rfl rfl ?_
    refine XS.iloadN X0.here hx rfl (hb hby d23_19) rfl ?_
    exact kt
  obtain ⟨cl8, Ar8, -, S8, M8, H8, -⟩ := id V_o1
  have hin8 : ¬ ((1 : Int32) < 0 ∨ cl8.slots.size ≤ ((1 : Int32)).toNatClampNeg) := inb_of S8 ⟨by decide, by decide⟩
  have hat8 : cl8.slots[((1 : Int32)).toNatClampNeg]? = some (.int 45) := Has.at H8 hin8 rfl
  refine own_thr (a := s₁.setTop (mkF m 11 #[.val (.ref o0), .val (.ref o1), .val (.int 2)] [(.ref o0), (.int 2)])) (fun t kt => ?_) ?_
  · show Steps p.tables e below (s₁.setTop (mkF m 20 #[.val (.ref o0), .val (.ref o1), .val (.int 1)] [(.int 1), (.ref o1), (.int 45)])) _
    refine X0.baloadBytes hx (j := (1 : Int32)) (v := (.int 45)) (by rw [e0]; exact Ar8.1) (State.isArrayOf_alike hZ.alike Ar8.2.1) Ar8.2.2 hin8 hat8 (g := (mkF m 20 #[.val (.ref o0), .val (.ref o1), .val (.int 1)] [(.int 1), (.ref o1), (.int 45)])) rfl rfl (hb hby d23_20) _ ?_
    refine XS.icmpYes X0.here hx rfl (pc0 := 21) (pc' := 26) rfl (hb hby d23_21) rfl (teq rfl).1 (by decide) (by decide) ?_
    refine XS.iinc X0.here hx rfl (hb hby d23_26) rfl (l' := #[.val (.ref o0), .val (.ref o1), .val (.int 2)]) rfl ?_
    refine XS.goto X0.here hx rfl (pc0 := 29) (pc' := 9) rfl (hb hby d23_29) (by decide) (by decide) ?_
    refine XS.iloadN X0.here hx rfl (hb hby d23_9) rfl ?_
    refine XS.aloadN X0.here hx rfl (hb hby d23_10) rfl rfl ?_
    exact kt
  obtain ⟨cl9, Ar9, -, S9, M9, -, -⟩ := id V_o0
  refine own_thr (a := s₁.setTop (mkF m 17 #[.val (.ref o0), .val (.ref o1), .val (.int 2)] [(.int 2), (.ref o0)])) (fun t kt => ?_) ?_
  · show Steps p.tables e below (s₁.setTop (mkF m 11 #[.val (.ref o0), .val (.ref o1), .val (.int 2)] [(.ref o0), (.int 2)])) _
    refine X0.arraylength hx (by rw [e0]; exact Ar9.1) (State.isArrayOf_alike hZ.alike Ar9.2.1) (g := (mkF m 11 #[.val (.ref o0), .val (.ref o1), .val (.int 2)] [(.ref o0), (.int 2)])) rfl rfl (hb hby d23_11) _ ?_
    rw [len_of S9 M9]
    refine XS.icmpNo X0.here hx rfl (hb hby d23_12) rfl (tlt (by decide)).2.1 ?_
    refine XS.aloadN X0.here hx rfl (hb hby d23_15) rfl rfl ?_
    refine XS.iloadN X0.here hx rfl (hb hby d23_16) rfl ?_
    exact kt
  obtain ⟨cl10, Ar10, -, S10, M10, H10, -⟩ := id V_o0
  have hin10 : ¬ ((2 : Int32) < 0 ∨ cl10.slots.size ≤ ((2 : Int32)).toNatClampNeg) := inb_of S10 ⟨by decide, by decide⟩
  have hat10 : cl10.slots[((2 : Int32)).toNatClampNeg]? = some (.int 117) := Has.at H10 hin10 rfl
  refine own_thr (a := s₁.setTop (mkF m 20 #[.val (.ref o0), .val (.ref o1), .val (.int 2)] [(.int 2), (.ref o1), (.int 117)])) (fun t kt => ?_) ?_
  · show Steps p.tables e below (s₁.setTop (mkF m 17 #[.val (.ref o0), .val (.ref o1), .val (.int 2)] [(.int 2), (.ref o0)])) _
    refine X0.baloadBytes hx (j := (2 : Int32)) (v := (.int 117)) (by rw [e0]; exact Ar10.1) (State.isArrayOf_alike hZ.alike Ar10.2.1) Ar10.2.2 hin10 hat10 (g := (mkF m 17 #[.val (.ref o0), .val (.ref o1), .val (.int 2)] [(.int 2), (.ref o0)])) rfl rfl (hb hby d23_17) _ ?_
    refine XS.aloadN X0.here hx rfl (hb hby d23_18) rfl rfl ?_
    refine XS.iloadN X0.here hx rfl (hb hby d23_19) rfl ?_
    exact kt
  obtain ⟨cl11, Ar11, -, S11, M11, H11, -⟩ := id V_o1
  have hin11 : ¬ ((2 : Int32) < 0 ∨ cl11.slots.size ≤ ((2 : Int32)).toNatClampNeg) := inb_of S11 ⟨by decide, by decide⟩
  have hat11 : cl11.slots[((2 : Int32)).toNatClampNeg]? = some (.int 117) := Has.at H11 hin11 rfl
  refine own_thr (a := s₁.setTop (mkF m 11 #[.val (.ref o0), .val (.ref o1), .val (.int 3)] [(.ref o0), (.int 3)])) (fun t kt => ?_) ?_
  · show Steps p.tables e below (s₁.setTop (mkF m 20 #[.val (.ref o0), .val (.ref o1), .val (.int 2)] [(.int 2), (.ref o1), (.int 117)])) _
    refine X0.baloadBytes hx (j := (2 : Int32)) (v := (.int 117)) (by rw [e0]; exact Ar11.1) (State.isArrayOf_alike hZ.alike Ar11.2.1) Ar11.2.2 hin11 hat11 (g := (mkF m 20 #[.val (.ref o0), .val (.ref o1), .val (.int 2)] [(.int 2), (.ref o1), (.int 117)])) rfl rfl (hb hby d23_20) _ ?_
    refine XS.icmpYes X0.here hx rfl (pc0 := 21) (pc' := 26) rfl (hb hby d23_21) rfl (teq rfl).1 (by decide) (by decide) ?_
    refine XS.iinc X0.here hx rfl (hb hby d23_26) rfl (l' := #[.val (.ref o0), .val (.ref o1), .val (.int 3)]) rfl ?_
    refine XS.goto X0.here hx rfl (pc0 := 29) (pc' := 9) rfl (hb hby d23_29) (by decide) (by decide) ?_
    refine XS.iloadN X0.here hx rfl (hb hby d23_9) rfl ?_
    refine XS.aloadN X0.here hx rfl (hb hby d23_10) rfl rfl ?_
    exact kt
  obtain ⟨cl12, Ar12, -, S12, M12, -, -⟩ := id V_o0
  refine own_thr (a := s₁.setTop (mkF m 17 #[.val (.ref o0), .val (.ref o1), .val (.int 3)] [(.int 3), (.ref o0)])) (fun t kt => ?_) ?_
  · show Steps p.tables e below (s₁.setTop (mkF m 11 #[.val (.ref o0), .val (.ref o1), .val (.int 3)] [(.ref o0), (.int 3)])) _
    refine X0.arraylength hx (by rw [e0]; exact Ar12.1) (State.isArrayOf_alike hZ.alike Ar12.2.1) (g := (mkF m 11 #[.val (.ref o0), .val (.ref o1), .val (.int 3)] [(.ref o0), (.int 3)])) rfl rfl (hb hby d23_11) _ ?_
    rw [len_of S12 M12]
    refine XS.icmpNo X0.here hx rfl (hb hby d23_12) rfl (tlt (by decide)).2.1 ?_
    refine XS.aloadN X0.here hx rfl (hb hby d23_15) rfl rfl ?_
    refine XS.iloadN X0.here hx rfl (hb hby d23_16) rfl ?_
    exact kt
  obtain ⟨cl13, Ar13, -, S13, M13, H13, -⟩ := id V_o0
  have hin13 : ¬ ((3 : Int32) < 0 ∨ cl13.slots.size ≤ ((3 : Int32)).toNatClampNeg) := inb_of S13 ⟨by decide, by decide⟩
  have hat13 : cl13.slots[((3 : Int32)).toNatClampNeg]? = some (.int 114) := Has.at H13 hin13 rfl
  refine own_thr (a := s₁.setTop (mkF m 20 #[.val (.ref o0), .val (.ref o1), .val (.int 3)] [(.int 3), (.ref o1), (.int 114)])) (fun t kt => ?_) ?_
  · show Steps p.tables e below (s₁.setTop (mkF m 17 #[.val (.ref o0), .val (.ref o1), .val (.int 3)] [(.int 3), (.ref o0)])) _
    refine X0.baloadBytes hx (j := (3 : Int32)) (v := (.int 114)) (by rw [e0]; exact Ar13.1) (State.isArrayOf_alike hZ.alike Ar13.2.1) Ar13.2.2 hin13 hat13 (g := (mkF m 17 #[.val (.ref o0), .val (.ref o1), .val (.int 3)] [(.int 3), (.ref o0)])) rfl rfl (hb hby d23_17) _ ?_
    refine XS.aloadN X0.here hx rfl (hb hby d23_18) rfl rfl ?_
    refine XS.iloadN X0.here hx rfl (hb hby d23_19) rfl ?_
    exact kt
  obtain ⟨cl14, Ar14, -, S14, M14, H14, -⟩ := id V_o1
  have hin14 : ¬ ((3 : Int32) < 0 ∨ cl14.slots.size ≤ ((3 : Int32)).toNatClampNeg) := inb_of S14 ⟨by decide, by decide⟩
  have hat14 : cl14.slots[((3 : Int32)).toNatClampNeg]? = some (.int 114) := Has.at H14 hin14 rfl
  refine own_thr (a := s₁.setTop (mkF m 11 #[.val (.ref o0), .val (.ref o1), .val (.int 4)] [(.ref o0), (.int 4)])) (fun t kt => ?_) ?_
  · show Steps p.tables e below (s₁.setTop (mkF m 20 #[.val (.ref o0), .val (.ref o1), .val (.int 3)] [(.int 3), (.ref o1), (.int 114)])) _
    refine X0.baloadBytes hx (j := (3 : Int32)) (v := (.int 114)) (by rw [e0]; exact Ar14.1) (State.isArrayOf_alike hZ.alike Ar14.2.1) Ar14.2.2 hin14 hat14 (g := (mkF m 20 #[.val (.ref o0), .val (.ref o1), .val (.int 3)] [(.int 3), (.ref o1), (.int 114)])) rfl rfl (hb hby d23_20) _ ?_
    refine XS.icmpYes X0.here hx rfl (pc0 := 21) (pc' := 26) rfl (hb hby d23_21) rfl (teq rfl).1 (by decide) (by decide) ?_
    refine XS.iinc X0.here hx rfl (hb hby d23_26) rfl (l' := #[.val (.ref o0), .val (.ref o1), .val (.int 4)]) rfl ?_
    refine XS.goto X0.here hx rfl (pc0 := 29) (pc' := 9) rfl (hb hby d23_29) (by decide) (by decide) ?_
    refine XS.iloadN X0.here hx rfl (hb hby d23_9) rfl ?_
    refine XS.aloadN X0.here hx rfl (hb hby d23_10) rfl rfl ?_
    exact kt
  obtain ⟨cl15, Ar15, -, S15, M15, -, -⟩ := id V_o0
  refine own_thr (a := s₁.setTop (mkF m 17 #[.val (.ref o0), .val (.ref o1), .val (.int 4)] [(.int 4), (.ref o0)])) (fun t kt => ?_) ?_
  · show Steps p.tables e below (s₁.setTop (mkF m 11 #[.val (.ref o0), .val (.ref o1), .val (.int 4)] [(.ref o0), (.int 4)])) _
    refine X0.arraylength hx (by rw [e0]; exact Ar15.1) (State.isArrayOf_alike hZ.alike Ar15.2.1) (g := (mkF m 11 #[.val (.ref o0), .val (.ref o1), .val (.int 4)] [(.ref o0), (.int 4)])) rfl rfl (hb hby d23_11) _ ?_
    rw [len_of S15 M15]
    refine XS.icmpNo X0.here hx rfl (hb hby d23_12) rfl (tlt (by decide)).2.1 ?_
    refine XS.aloadN X0.here hx rfl (hb hby d23_15) rfl rfl ?_
    refine XS.iloadN X0.here hx rfl (hb hby d23_16) rfl ?_
    exact kt
  obtain ⟨cl16, Ar16, -, S16, M16, H16, -⟩ := id V_o0
  have hin16 : ¬ ((4 : Int32) < 0 ∨ cl16.slots.size ≤ ((4 : Int32)).toNatClampNeg) := inb_of S16 ⟨by decide, by decide⟩
  have hat16 : cl16.slots[((4 : Int32)).toNatClampNeg]? = some (.int 108) := Has.at H16 hin16 rfl
  refine own_thr (a := s₁.setTop (mkF m 20 #[.val (.ref o0), .val (.ref o1), .val (.int 4)] [(.int 4), (.ref o1), (.int 108)])) (fun t kt => ?_) ?_
  · show Steps p.tables e below (s₁.setTop (mkF m 17 #[.val (.ref o0), .val (.ref o1), .val (.int 4)] [(.int 4), (.ref o0)])) _
    refine X0.baloadBytes hx (j := (4 : Int32)) (v := (.int 108)) (by rw [e0]; exact Ar16.1) (State.isArrayOf_alike hZ.alike Ar16.2.1) Ar16.2.2 hin16 hat16 (g := (mkF m 17 #[.val (.ref o0), .val (.ref o1), .val (.int 4)] [(.int 4), (.ref o0)])) rfl rfl (hb hby d23_17) _ ?_
    refine XS.aloadN X0.here hx rfl (hb hby d23_18) rfl rfl ?_
    refine XS.iloadN X0.here hx rfl (hb hby d23_19) rfl ?_
    exact kt
  obtain ⟨cl17, Ar17, -, S17, M17, H17, -⟩ := id V_o1
  have hin17 : ¬ ((4 : Int32) < 0 ∨ cl17.slots.size ≤ ((4 : Int32)).toNatClampNeg) := inb_of S17 ⟨by decide, by decide⟩
  have hat17 : cl17.slots[((4 : Int32)).toNatClampNeg]? = some (.int 108) := Has.at H17 hin17 rfl
  refine own_thr (a := s₁.setTop (mkF m 11 #[.val (.ref o0), .val (.ref o1), .val (.int 5)] [(.ref o0), (.int 5)])) (fun t kt => ?_) ?_
  · show Steps p.tables e below (s₁.setTop (mkF m 20 #[.val (.ref o0), .val (.ref o1), .val (.int 4)] [(.int 4), (.ref o1), (.int 108)])) _
    refine X0.baloadBytes hx (j := (4 : Int32)) (v := (.int 108)) (by rw [e0]; exact Ar17.1) (State.isArrayOf_alike hZ.alike Ar17.2.1) Ar17.2.2 hin17 hat17 (g := (mkF m 20 #[.val (.ref o0), .val (.ref o1), .val (.int 4)] [(.int 4), (.ref o1), (.int 108)])) rfl rfl (hb hby d23_20) _ ?_
    refine XS.icmpYes X0.here hx rfl (pc0 := 21) (pc' := 26) rfl (hb hby d23_21) rfl (teq rfl).1 (by decide) (by decide) ?_
    refine XS.iinc X0.here hx rfl (hb hby d23_26) rfl (l' := #[.val (.ref o0), .val (.ref o1), .val (.int 5)]) rfl ?_
    refine XS.goto X0.here hx rfl (pc0 := 29) (pc' := 9) rfl (hb hby d23_29) (by decide) (by decide) ?_
    refine XS.iloadN X0.here hx rfl (hb hby d23_9) rfl ?_
    refine XS.aloadN X0.here hx rfl (hb hby d23_10) rfl rfl ?_
    exact kt
  obtain ⟨cl18, Ar18, -, S18, M18, -, -⟩ := id V_o0
  refine own_thr (a := s₁.setTop (mkF m 33 #[.val (.ref o0), .val (.ref o1), .val (.int 5)] [(.int 1)])) (fun t kt => ?_) ?_
  · show Steps p.tables e below (s₁.setTop (mkF m 11 #[.val (.ref o0), .val (.ref o1), .val (.int 5)] [(.ref o0), (.int 5)])) _
    refine X0.arraylength hx (by rw [e0]; exact Ar18.1) (State.isArrayOf_alike hZ.alike Ar18.2.1) (g := (mkF m 11 #[.val (.ref o0), .val (.ref o1), .val (.int 5)] [(.ref o0), (.int 5)])) rfl rfl (hb hby d23_11) _ ?_
    rw [len_of S18 M18]
    refine XS.icmpYes X0.here hx rfl (pc0 := 12) (pc' := 32) rfl (hb hby d23_12) rfl (flt (by decide)).2.1 (by decide) (by decide) ?_
    refine XS.iconst X0.here hx rfl (hb hby d23_32) ?_
    exact kt
  exact own_end X0 hlk (v := some (.int 1)) (fun h => by rw [Bd.returns] at h; cases h) (fun fs hr => retN X0 hx (t := .boolean) Bd.returns (by simp) (hb hby d23_33) hr) (by rw [e0]; exact ⟨rfl, N0, rfl⟩) (by decide : 0 ≤ _) (by decide : 0 ≤ _)
theorem ef_rmEQuf (m : MethodId) (o0 : Addr) (o1 : Addr)  : entryFrame m #[(.ref o0), (.ref o1)] 3 = mkF m 0 #[.val (.ref o0), .val (.ref o1), .unset] [] := by first |  (simp [entryFrame, mkF, argsToLocals, Value.category]; done) | rfl
def Q_rmEQuf (Z : State) (o0 : Addr) (o1 : Addr) (v0 : Addr) (v1 : Addr) (k0 : ClassId) (k1 : ClassId) (cs : Int32) (h0 : Heap) (n0 : Nat) (v : Option Value) (h : Heap) (L : List Loc) : Prop := v = some (.int 1) ∧ Fr n0 L ∧ h = h0
set_option maxRecDepth 65536 in
set_option maxHeartbeats 40000000 in
theorem rmEQuf (l : Launch) (Z : State) (a0 : Array Value) (hw : ∀ d ∈ tables_1, d.before a0 Z = true) (ws : List Jvm.Cond) (o0 : Addr) (o1 : Addr) (v0 : Addr) (v1 : Addr) (k0 : ClassId) (k1 : ClassId) (cs : Int32) (h0 : Heap) (n0 : Nat) (Z0 : n0 ≤ h0.size) (E_o0 : Exa Z h0 o0 "java/lang/String") (F_value_o0 : Fld Z h0 o0 "java/lang/String" "value" "[B" (.ref v0)) (F_coder_o0 : Fld Z h0 o0 "java/lang/String" "coder" "B" (.int 0)) (E_o1 : Exa Z h0 o1 "java/lang/String") (F_value_o1 : Fld Z h0 o1 "java/lang/String" "value" "[B" (.ref v1)) (F_coder_o1 : Fld Z h0 o1 "java/lang/String" "coder" "B" (.int 0)) (V_v0 : Arv Z h0 v0 k0 .byte (5 : Int32) [(.int 45), (.int 45), (.int 117), (.int 114), (.int 108)] (.int 0)) (V_v1 : Arv Z h0 v1 k1 .byte (5 : Int32) [(.int 45), (.int 45), (.int 117), (.int 114), (.int 108)] (.int 0)) (S_COMPACT_STRINGS : Sta Z h0 "java/lang/String" "COMPACT_STRINGS" "Z" (.int cs)) (hcs : ¬ cs = (0 : Int32)) :
    MetFree l (⟨"java/lang/String", "equals", "(Ljava/lang/Object;)Z"⟩ : MethodName) (head1 (Jvm.Cond.code (⟨"java/lang/String", "equals", "(Ljava/lang/Object;)Z"⟩ : MethodName) jdk_42_method_66_code 3 (some .boolean) :: ws) ({ frames := 1, cells := 0, slots := 0, locals := 14 } : Room)) (fun a U => a = #[(.ref o0), (.ref o1)] ∧ Z.Warmed39 U.vm ∧ U.heap = h0) (fun _ _ _ _ _ => True) (fun _ U o U' => ∃ v L, o = .returned v ∧ Q_rmEQuf Z o0 o1 v0 v1 k0 k1 cs h0 n0 v U'.heap L ∧ FrameEnd U o U' L ({ frames := 1, cells := 0, slots := 0, locals := 14 } : Room).cells ({ frames := 1, cells := 0, slots := 0, locals := 14 } : Room).slots) := by
  refine MetFree.of_bodySF (plainFor_of_name pn_java_lang_String) hisR ?_
  intro p e s m args below meth c s₁ Bd hml0 hP hK
  obtain ⟨rfl, hZ, hh⟩ := hP
  have hx := Bd.exec
  have hby := Bd.bytes
  have hml : c.maxLocals = 3 := hml0
  have hown : s.vm.findClass "java/lang/String" = some m.cls := findClass_of_methodNamed Bd.named
  have hnm := (name_of_methodNamed Bd.named Bd.method).1
  have hlk := Bd.notSynchronized
  have X0 : Stand p l e ({ frames := 1, cells := 0, slots := 0, locals := 14 } : Room) s m #[(.ref o0), (.ref o1)] below meth c s₁ [] 0 0 := Stand.of_body Bd
  have e0 : s₁.heap = h0 := by rw [← hh, Bd.state]; rfl
  have N0 := Fr.nil n0
  show own_G p.tables e below s (Q_rmEQuf Z o0 o1 v0 v1 k0 k1 cs h0 n0) ({ frames := 1, cells := 0, slots := 0, locals := 14 } : Room).cells ({ frames := 1, cells := 0, slots := 0, locals := 14 } : Room).slots _
  refine own_thr (a := s₁.setTop (mkF m 0 #[.val (.ref o0), .val (.ref o1), .unset] [])) (fun t kt => castTop (ef_rmEQuf m o0 o1) kt) ?_
  refine own_thr (a := s₁.setTop (mkF m 2 #[.val (.ref o0), .val (.ref o1), .unset] [(.ref o1), (.ref o0)])) (fun t kt => ?_) ?_
  · show Steps p.tables e below (s₁.setTop (mkF m 0 #[.val (.ref o0), .val (.ref o1), .unset] [])) _
    refine XS.aloadN X0.here hx rfl (hb hby d22_0) rfl rfl ?_
    refine XS.aloadN X0.here hx rfl (hb hby d22_1) rfl rfl ?_
    exact kt
  by_cases hc1 : ((.ref o0) : Value) = (.ref o1)
  · refine own_thr (a := s₁.setTop (mkF m 6 #[.val (.ref o0), .val (.ref o1), .unset] [(.int 1)])) (fun t kt => ?_) ?_
    · show Steps p.tables e below (s₁.setTop (mkF m 2 #[.val (.ref o0), .val (.ref o1), .unset] [(.ref o1), (.ref o0)])) _
      refine Jvm.RoadKit.acmp (g := (mkF m 2 #[.val (.ref o0), .val (.ref o1), .unset] [(.ref o1), (.ref o0)])) X0 hx rfl rfl rfl (pc0 := 2) (pc' := 5) (same := true) rfl (hb hby d22_2) rfl (decide_eq_true hc1) (by decide) (by decide) ?_
      refine XS.iconst X0.here hx rfl (hb hby d22_5) ?_
      exact kt
    exact own_end X0 hlk (v := some (.int 1)) (fun h => by rw [Bd.returns] at h; cases h) (fun fs hr => retN X0 hx (t := .boolean) Bd.returns (by simp) (hb hby d22_6) hr) (by rw [e0]; exact ⟨rfl, N0, rfl⟩) (by decide : 0 ≤ _) (by decide : 0 ≤ _)
  · refine own_thr (a := s₁.setTop (mkF m 8 #[.val (.ref o0), .val (.ref o1), .unset] [(.ref o1)])) (fun t kt => ?_) ?_
    · show Steps p.tables e below (s₁.setTop (mkF m 2 #[.val (.ref o0), .val (.ref o1), .unset] [(.ref o1), (.ref o0)])) _
      refine Jvm.RoadKit.acmp (g := (mkF m 2 #[.val (.ref o0), .val (.ref o1), .unset] [(.ref o1), (.ref o0)])) X0 hx rfl rfl rfl (pc0 := 2) (pc' := 7) (same := false) rfl (hb hby d22_2) rfl (decide_eq_false hc1) (by decide) (by decide) ?_
      refine XS.aloadN X0.here hx rfl (hb hby d22_7) rfl rfl ?_
      exact kt
    obtain ⟨T2, X2, e2, st2⟩ := instY X0 hx hZ hown (hw _ (List.mem_of_getElem? (i := 147) rfl)) e0 (Ins.self E_o1) (g := (mkF m 8 #[.val (.ref o0), .val (.ref o1), .unset] [(.ref o1)])) rfl rfl (hb hby d22_8)
    refine own_thr (a := T2.setTop (mkF m 11 #[.val (.ref o0), .val (.ref o1), .unset] [(.int 1)])) (fun t kt => st2 t kt) ?_
    refine own_thr (a := T2.setTop (mkF m 15 #[.val (.ref o0), .val (.ref o1), .unset] [(.ref o1)])) (fun t kt => ?_) ?_
    · show Steps p.tables e below (T2.setTop (mkF m 11 #[.val (.ref o0), .val (.ref o1), .unset] [(.int 1)])) _
      refine XS.ifNo X2.here hx rfl (hb hby d22_11) rfl ((if0 _ _).trans (feq (by decide)).1) ?_
      refine XS.aloadN X2.here hx rfl (hb hby d22_14) rfl rfl ?_
      exact kt
    obtain ⟨T3, X3, e3, st3⟩ := castY X2 hx hZ hown (hw _ (List.mem_of_getElem? (i := 147) rfl)) e2 (Ins.self E_o1) (g := (mkF m 15 #[.val (.ref o0), .val (.ref o1), .unset] [(.ref o1)])) rfl rfl (hb hby d22_15)
    refine own_thr (a := T3.setTop (mkF m 18 #[.val (.ref o0), .val (.ref o1), .unset] [(.ref o1)])) (fun t kt => st3 t kt) ?_
    refine own_thr (a := T3.setTop (mkF m 19 #[.val (.ref o0), .val (.ref o1), .val (.ref o1)] [])) (fun t kt => ?_) ?_
    · show Steps p.tables e below (T3.setTop (mkF m 18 #[.val (.ref o0), .val (.ref o1), .unset] [(.ref o1)])) _
      refine XS.astoreN X3.here hx rfl (hb hby d22_18) rfl rfl (l' := #[.val (.ref o0), .val (.ref o1), .val (.ref o1)]) rfl ?_
      exact kt
    obtain ⟨T4, X4, e4, st4⟩ := getS2 X3 hx hZ hown (host := "") (Or.inl (hw _ (List.mem_of_getElem? (i := 54) rfl))) Via.refl e3 S_COMPACT_STRINGS (g := (mkF m 19 #[.val (.ref o0), .val (.ref o1), .val (.ref o1)] [])) rfl (hb hby d22_19)
    refine own_thr (a := T4.setTop (mkF m 22 #[.val (.ref o0), .val (.ref o1), .val (.ref o1)] [(.int cs)])) (fun t kt => st4 t kt) ?_
    refine own_thr (a := T4.setTop (mkF m 26 #[.val (.ref o0), .val (.ref o1), .val (.ref o1)] [(.ref o0)])) (fun t kt => ?_) ?_
    · show Steps p.tables e below (T4.setTop (mkF m 22 #[.val (.ref o0), .val (.ref o1), .val (.ref o1)] [(.int cs)])) _
      refine XS.ifNo X4.here hx rfl (hb hby d22_22) rfl ((if0 _ _).trans (feq hcs).1) ?_
      refine XS.aloadN X4.here hx rfl (hb hby d22_25) rfl rfl ?_
      exact kt
    obtain ⟨T5, X5, e5, st5⟩ := getF X4 hx hZ hown (host := "") (Or.inl (hw _ (List.mem_of_getElem? (i := 55) rfl))) Via.refl e4 F_coder_o0 (g := (mkF m 26 #[.val (.ref o0), .val (.ref o1), .val (.ref o1)] [(.ref o0)])) rfl rfl (hb hby d22_26)
    refine own_thr (a := T5.setTop (mkF m 29 #[.val (.ref o0), .val (.ref o1), .val (.ref o1)] [(.int 0)])) (fun t kt => st5 t kt) ?_
    refine own_thr (a := T5.setTop (mkF m 30 #[.val (.ref o0), .val (.ref o1), .val (.ref o1)] [(.ref o1), (.int 0)])) (fun t kt => ?_) ?_
    · show Steps p.tables e below (T5.setTop (mkF m 29 #[.val (.ref o0), .val (.ref o1), .val (.ref o1)] [(.int 0)])) _
      refine XS.aloadN X5.here hx rfl (hb hby d22_29) rfl rfl ?_
      exact kt
    obtain ⟨T6, X6, e6, st6⟩ := getF X5 hx hZ hown (host := "") (Or.inl (hw _ (List.mem_of_getElem? (i := 55) rfl))) Via.refl e5 F_coder_o1 (g := (mkF m 30 #[.val (.ref o0), .val (.ref o1), .val (.ref o1)] [(.ref o1), (.int 0)])) rfl rfl (hb hby d22_30)
    refine own_thr (a := T6.setTop (mkF m 33 #[.val (.ref o0), .val (.ref o1), .val (.ref o1)] [(.int 0), (.int 0)])) (fun t kt => st6 t kt) ?_
    refine own_thr (a := T6.setTop (mkF m 37 #[.val (.ref o0), .val (.ref o1), .val (.ref o1)] [(.ref o0)])) (fun t kt => ?_) ?_
    · show Steps p.tables e below (T6.setTop (mkF m 33 #[.val (.ref o0), .val (.ref o1), .val (.ref o1)] [(.int 0), (.int 0)])) _
      refine XS.icmpNo X6.here hx rfl (hb hby d22_33) rfl (teq rfl).2 ?_
      refine XS.aloadN X6.here hx rfl (hb hby d22_36) rfl rfl ?_
      exact kt
    obtain ⟨T7, X7, e7, st7⟩ := getF X6 hx hZ hown (host := "") (Or.inl (hw _ (List.mem_of_getElem? (i := 47) rfl))) Via.refl e6 F_value_o0 (g := (mkF m 37 #[.val (.ref o0), .val (.ref o1), .val (.ref o1)] [(.ref o0)])) rfl rfl (hb hby d22_37)
    refine own_thr (a := T7.setTop (mkF m 40 #[.val (.ref o0), .val (.ref o1), .val (.ref o1)] [(.ref v0)])) (fun t kt => st7 t kt) ?_
    refine own_thr (a := T7.setTop (mkF m 41 #[.val (.ref o0), .val (.ref o1), .val (.ref o1)] [(.ref o1), (.ref v0)])) (fun t kt => ?_) ?_
    · show Steps p.tables e below (T7.setTop (mkF m 40 #[.val (.ref o0), .val (.ref o1), .val (.ref o1)] [(.ref v0)])) _
      refine XS.aloadN X7.here hx rfl (hb hby d22_40) rfl rfl ?_
      exact kt
    obtain ⟨T8, X8, e8, st8⟩ := getF X7 hx hZ hown (host := "") (Or.inl (hw _ (List.mem_of_getElem? (i := 47) rfl))) Via.refl e7 F_value_o1 (g := (mkF m 41 #[.val (.ref o0), .val (.ref o1), .val (.ref o1)] [(.ref o1), (.ref v0)])) rfl rfl (hb hby d22_41)
    refine own_thr (a := T8.setTop (mkF m 44 #[.val (.ref o0), .val (.ref o1), .val (.ref o1)] [(.ref v1), (.ref v0)])) (fun t kt => st8 t kt) ?_
    obtain ⟨_, _, ⟨T9, L9, k9, n9⟩, -, X9, ⟨Lc9, hQ9, l9, y9, z9⟩, st9⟩ := Jvm.LawKit.callS X8 hx (y := (⟨"java/lang/StringLatin1", "equals", "([B[B)Z"⟩ : MethodName)) hown (mvT hZ (hw _ (List.mem_of_getElem? (i := 148) rfl))) (mvT hZ (hw _ (List.mem_of_getElem? (i := 149) rfl))) (mvT hZ (hw _ (List.mem_of_getElem? (i := 150) rfl))) (mvT hZ (hw _ (List.mem_of_getElem? (i := 151) rfl))) (by decide) (backOf (W := 0) (rmLEuf l Z a0 hw [] v0 v1 k0 k1 h0 n0 Z0 V_v0 V_v1) hZ (hw _ (List.mem_of_getElem? (i := 151) rfl)) (hw _ (List.mem_of_getElem? (i := 150) rfl)) (by decide) (by decide)) (g := (mkF m 44 #[.val (.ref o0), .val (.ref o1), .val (.ref o1)] [(.ref v1), (.ref v0)])) rfl (by rw [hml]; rfl) (argsL := [(.ref v0), (.ref v1)]) (rest := []) (lenOf pd__28_5bB_5bB_29Z rfl) rfl (by show 2 * 0 + _ ≤ _; exact Nat.le_of_eq rfl) (hb hby d22_44) (fun _ _ => ⟨rfl, e8, (by decide : 0 + 0 ≤ _), (by decide : 0 + 0 ≤ _)⟩)
    dsimp only [Pt.U, Pt.locs, Pt.cells, Pt.slots] at X9 l9 y9 z9 st9 hQ9
    obtain ⟨rfl, N9q, e9⟩ := hQ9
    obtain ⟨lc9, X9, N9⟩ := own_pack X9 l9 y9 z9 N0 N9q (C := 0) (S' := 0) rfl rfl
    refine own_thr (a := T9.setTop (mkF m 47 #[.val (.ref o0), .val (.ref o1), .val (.ref o1)] [(.int 1)])) (fun t kt => st9 t kt) ?_
    refine own_thr (a := T9.setTop (mkF m 55 #[.val (.ref o0), .val (.ref o1), .val (.ref o1)] [(.int 1)])) (fun t kt => ?_) ?_
    · show Steps p.tables e below (T9.setTop (mkF m 47 #[.val (.ref o0), .val (.ref o1), .val (.ref o1)] [(.int 1)])) _
      refine XS.ifNo X9.here hx rfl (hb hby d22_47) rfl ((if0 _ _).trans (feq (by decide)).1) ?_
      refine XS.iconst X9.here hx rfl (hb hby d22_50) ?_
      refine XS.goto X9.here hx rfl (pc0 := 51) (pc' := 55) rfl (hb hby d22_51) (by decide) (by decide) ?_
      exact kt
    exact own_end X9 hlk (v := some (.int 1)) (fun h => by rw [Bd.returns] at h; cases h) (fun fs hr => retN X9 hx (t := .boolean) Bd.returns (by simp) (hb hby d22_55) hr) (by rw [e9]; exact ⟨rfl, N9, rfl⟩) (by decide : 0 ≤ _) (by decide : 0 ≤ _)
theorem ef_rmLNuf (m : MethodId) (o0 : Addr)  : entryFrame m #[(.ref o0)] 1 = mkF m 0 #[.val (.ref o0)] [] := by first |  (simp [entryFrame, mkF, argsToLocals, Value.category]; done) | rfl
def Q_rmLNuf (Z : State) (o0 : Addr) (sv : Addr) (ks : ClassId) (cs : Int32) (h0 : Heap) (n0 : Nat) (v : Option Value) (h : Heap) (L : List Loc) : Prop := v = some (.int 5) ∧ Fr n0 L ∧ h = h0
set_option maxRecDepth 65536 in
set_option maxHeartbeats 40000000 in
theorem rmLNuf (l : Launch) (Z : State) (a0 : Array Value) (hw : ∀ d ∈ tables_1, d.before a0 Z = true) (ws : List Jvm.Cond) (o0 : Addr) (sv : Addr) (ks : ClassId) (cs : Int32) (h0 : Heap) (n0 : Nat) (Z0 : n0 ≤ h0.size) (E_o0 : Exa Z h0 o0 "java/lang/String") (F_value_o0 : Fld Z h0 o0 "java/lang/String" "value" "[B" (.ref sv)) (F_coder_o0 : Fld Z h0 o0 "java/lang/String" "coder" "B" (.int 0)) (V_sv : Arv Z h0 sv ks .byte (5 : Int32) [(.int 45), (.int 45), (.int 117), (.int 114), (.int 108)] (.int 0)) (S_COMPACT_STRINGS : Sta Z h0 "java/lang/String" "COMPACT_STRINGS" "Z" (.int cs)) (hcs : ¬ cs = (0 : Int32)) :
    MetFree l (⟨"java/lang/String", "length", "()I"⟩ : MethodName) (head1 (Jvm.Cond.code (⟨"java/lang/String", "length", "()I"⟩ : MethodName) jdk_42_method_54_code 1 (some .int) :: ws) ({ frames := 1, cells := 0, slots := 0, locals := 13 } : Room)) (fun a U => a = #[(.ref o0)] ∧ Z.Warmed39 U.vm ∧ U.heap = h0) (fun _ _ _ _ _ => True) (fun _ U o U' => ∃ v L, o = .returned v ∧ Q_rmLNuf Z o0 sv ks cs h0 n0 v U'.heap L ∧ FrameEnd U o U' L ({ frames := 1, cells := 0, slots := 0, locals := 13 } : Room).cells ({ frames := 1, cells := 0, slots := 0, locals := 13 } : Room).slots) := by
  refine MetFree.of_bodySF (plainFor_of_name pn_java_lang_String) hisR ?_
  intro p e s m args below meth c s₁ Bd hml0 hP hK
  obtain ⟨rfl, hZ, hh⟩ := hP
  have hx := Bd.exec
  have hby := Bd.bytes
  have hml : c.maxLocals = 1 := hml0
  have hown : s.vm.findClass "java/lang/String" = some m.cls := findClass_of_methodNamed Bd.named
  have hnm := (name_of_methodNamed Bd.named Bd.method).1
  have hlk := Bd.notSynchronized
  have X0 : Stand p l e ({ frames := 1, cells := 0, slots := 0, locals := 13 } : Room) s m #[(.ref o0)] below meth c s₁ [] 0 0 := Stand.of_body Bd
  have e0 : s₁.heap = h0 := by rw [← hh, Bd.state]; rfl
  have N0 := Fr.nil n0
  show own_G p.tables e below s (Q_rmLNuf Z o0 sv ks cs h0 n0) ({ frames := 1, cells := 0, slots := 0, locals := 13 } : Room).cells ({ frames := 1, cells := 0, slots := 0, locals := 13 } : Room).slots _
  refine own_thr (a := s₁.setTop (mkF m 0 #[.val (.ref o0)] [])) (fun t kt => castTop (ef_rmLNuf m o0) kt) ?_
  refine own_thr (a := s₁.setTop (mkF m 1 #[.val (.ref o0)] [(.ref o0)])) (fun t kt => ?_) ?_
  · show Steps p.tables e below (s₁.setTop (mkF m 0 #[.val (.ref o0)] [])) _
    refine XS.aloadN X0.here hx rfl (hb hby d7_0) rfl rfl ?_
    exact kt
  obtain ⟨T1, X1, e1, st1⟩ := getF X0 hx hZ hown (host := "") (Or.inl (hw _ (List.mem_of_getElem? (i := 47) rfl))) Via.refl e0 F_value_o0 (g := (mkF m 1 #[.val (.ref o0)] [(.ref o0)])) rfl rfl (hb hby d7_1)
  refine own_thr (a := T1.setTop (mkF m 4 #[.val (.ref o0)] [(.ref sv)])) (fun t kt => st1 t kt) ?_
  obtain ⟨cl2, Ar2, -, S2, M2, -, -⟩ := id V_sv
  refine own_thr (a := T1.setTop (mkF m 6 #[.val (.ref o0)] [(.ref o0), (.int 5)])) (fun t kt => ?_) ?_
  · show Steps p.tables e below (T1.setTop (mkF m 4 #[.val (.ref o0)] [(.ref sv)])) _
    refine X1.arraylength hx (by rw [e1]; exact Ar2.1) (State.isArrayOf_alike hZ.alike Ar2.2.1) (g := (mkF m 4 #[.val (.ref o0)] [(.ref sv)])) rfl rfl (hb hby d7_4) _ ?_
    rw [len_of S2 M2]
    refine XS.aloadN X1.here hx rfl (hb hby d7_5) rfl rfl ?_
    exact kt
  obtain ⟨cq3, kq3, q3a, q3b, q3c⟩ := isOf hZ e1 E_o0
  obtain ⟨_, _, ⟨T3, L3, k3, n3⟩, -, X3, ⟨Lc3, hQ3, l3, y3, z3⟩, st3⟩ := X1.virtualBack hx (y := (⟨"java/lang/String", "coder", "()B"⟩ : MethodName)) (z := (⟨"java/lang/String", "coder", "()B"⟩ : MethodName)) hown (mvT hZ (hw _ (List.mem_of_getElem? (i := 49) rfl))) (mvT hZ (hw _ (List.mem_of_getElem? (i := 50) rfl))) (notFace_of_selects (args := #[]) (mvT hZ (hw _ (List.mem_of_getElem? (i := 52) rfl)))) (mvT hZ (hw _ (List.mem_of_getElem? (i := 52) rfl))) (mvT hZ (hw _ (List.mem_of_getElem? (i := 51) rfl))) (by decide) (backOf (W := 1) (rmCO l Z a0 hw [] o0 cs h0 n0 Z0 F_coder_o0 S_COMPACT_STRINGS hcs) hZ (hw _ (List.mem_of_getElem? (i := 53) rfl)) (hw _ (List.mem_of_getElem? (i := 24) rfl)) (by decide) (by decide)) q3a q3c (g := (mkF m 6 #[.val (.ref o0)] [(.ref o0), (.int 5)])) rfl (by rw [hml]; rfl) (Steps.refl _) (argsL := []) (rest := [(.int 5)]) (lenOf pd__28_29B rfl) rfl (by show 2 * 0 + _ ≤ _; exact Nat.le_of_eq rfl) (hb hby d7_6) (fun _ _ => ⟨rfl, e1, (by decide : 0 + 0 ≤ _), (by decide : 0 + 0 ≤ _)⟩)
  dsimp only [Pt.U, Pt.locs, Pt.cells, Pt.slots] at X3 l3 y3 z3 st3 hQ3
  obtain ⟨rfl, N3q, e3⟩ := hQ3
  obtain ⟨lc3, X3, N3⟩ := own_pack X3 l3 y3 z3 N0 N3q (C := 0) (S' := 0) rfl rfl
  refine own_thr (a := T3.setTop (mkF m 9 #[.val (.ref o0)] [(.int 0), (.int 5)])) (fun t kt => st3.trans kt) ?_
  refine own_thr (a := T3.setTop (mkF m 10 #[.val (.ref o0)] [(.int 5)])) (fun t kt => ?_) ?_
  · show Steps p.tables e below (T3.setTop (mkF m 9 #[.val (.ref o0)] [(.int 0), (.int 5)])) _
    refine XS.ishr X3.here hx rfl (hb hby d7_9) rfl ?_
    exact kt
  exact own_end X3 hlk (v := some (.int 5)) (fun h => by rw [Bd.returns] at h; cases h) (fun fs hr => retI X3 hx Bd.returns (hb hby d7_10) hr) (by rw [e3]; exact ⟨rfl, N3, rfl⟩) (by decide : 0 ≤ _) (by decide : 0 ≤ _)
theorem ef_rmLNus (m : MethodId) (o0 : Addr)  : entryFrame m #[(.ref o0)] 1 = mkF m 0 #[.val (.ref o0)] [] := by first |  (simp [entryFrame, mkF, argsToLocals, Value.category]; done) | rfl
def Q_rmLNus (Z : State) (o0 : Addr) (sv : Addr) (ks : ClassId) (cs : Int32) (h0 : Heap) (n0 : Nat) (v : Option Value) (h : Heap) (L : List Loc) : Prop := v = some (.int 16) ∧ Fr n0 L ∧ h = h0
set_option maxRecDepth 65536 in
set_option maxHeartbeats 40000000 in
theorem rmLNus (l : Launch) (Z : State) (a0 : Array Value) (hw : ∀ d ∈ tables_1, d.before a0 Z = true) (ws : List Jvm.Cond) (o0 : Addr) (sv : Addr) (ks : ClassId) (cs : Int32) (h0 : Heap) (n0 : Nat) (Z0 : n0 ≤ h0.size) (E_o0 : Exa Z h0 o0 "java/lang/String") (F_value_o0 : Fld Z h0 o0 "java/lang/String" "value" "[B" (.ref sv)) (F_coder_o0 : Fld Z h0 o0 "java/lang/String" "coder" "B" (.int 0)) (V_sv : Arv Z h0 sv ks .byte (16 : Int32) [(.int 45), (.int 45), (.int 117), (.int 114), (.int 108), (.int 32), (.int 60), (.int 74), (.int 68), (.int 66), (.int 67), (.int 32), (.int 85), (.int 82), (.int 76), (.int 62)] (.int 0)) (S_COMPACT_STRINGS : Sta Z h0 "java/lang/String" "COMPACT_STRINGS" "Z" (.int cs)) (hcs : ¬ cs = (0 : Int32)) :
    MetFree l (⟨"java/lang/String", "length", "()I"⟩ : MethodName) (head1 (Jvm.Cond.code (⟨"java/lang/String", "length", "()I"⟩ : MethodName) jdk_42_method_54_code 1 (some .int) :: ws) ({ frames := 1, cells := 0, slots := 0, locals := 13 } : Room)) (fun a U => a = #[(.ref o0)] ∧ Z.Warmed39 U.vm ∧ U.heap = h0) (fun _ _ _ _ _ => True) (fun _ U o U' => ∃ v L, o = .returned v ∧ Q_rmLNus Z o0 sv ks cs h0 n0 v U'.heap L ∧ FrameEnd U o U' L ({ frames := 1, cells := 0, slots := 0, locals := 13 } : Room).cells ({ frames := 1, cells := 0, slots := 0, locals := 13 } : Room).slots) := by
  refine MetFree.of_bodySF (plainFor_of_name pn_java_lang_String) hisR ?_
  intro p e s m args below meth c s₁ Bd hml0 hP hK
  obtain ⟨rfl, hZ, hh⟩ := hP
  have hx := Bd.exec
  have hby := Bd.bytes
  have hml : c.maxLocals = 1 := hml0
  have hown : s.vm.findClass "java/lang/String" = some m.cls := findClass_of_methodNamed Bd.named
  have hnm := (name_of_methodNamed Bd.named Bd.method).1
  have hlk := Bd.notSynchronized
  have X0 : Stand p l e ({ frames := 1, cells := 0, slots := 0, locals := 13 } : Room) s m #[(.ref o0)] below meth c s₁ [] 0 0 := Stand.of_body Bd
  have e0 : s₁.heap = h0 := by rw [← hh, Bd.state]; rfl
  have N0 := Fr.nil n0
  show own_G p.tables e below s (Q_rmLNus Z o0 sv ks cs h0 n0) ({ frames := 1, cells := 0, slots := 0, locals := 13 } : Room).cells ({ frames := 1, cells := 0, slots := 0, locals := 13 } : Room).slots _
  refine own_thr (a := s₁.setTop (mkF m 0 #[.val (.ref o0)] [])) (fun t kt => castTop (ef_rmLNus m o0) kt) ?_
  refine own_thr (a := s₁.setTop (mkF m 1 #[.val (.ref o0)] [(.ref o0)])) (fun t kt => ?_) ?_
  · show Steps p.tables e below (s₁.setTop (mkF m 0 #[.val (.ref o0)] [])) _
    refine XS.aloadN X0.here hx rfl (hb hby d7_0) rfl rfl ?_
    exact kt
  obtain ⟨T1, X1, e1, st1⟩ := getF X0 hx hZ hown (host := "") (Or.inl (hw _ (List.mem_of_getElem? (i := 47) rfl))) Via.refl e0 F_value_o0 (g := (mkF m 1 #[.val (.ref o0)] [(.ref o0)])) rfl rfl (hb hby d7_1)
  refine own_thr (a := T1.setTop (mkF m 4 #[.val (.ref o0)] [(.ref sv)])) (fun t kt => st1 t kt) ?_
  obtain ⟨cl2, Ar2, -, S2, M2, -, -⟩ := id V_sv
  refine own_thr (a := T1.setTop (mkF m 6 #[.val (.ref o0)] [(.ref o0), (.int 16)])) (fun t kt => ?_) ?_
  · show Steps p.tables e below (T1.setTop (mkF m 4 #[.val (.ref o0)] [(.ref sv)])) _
    refine X1.arraylength hx (by rw [e1]; exact Ar2.1) (State.isArrayOf_alike hZ.alike Ar2.2.1) (g := (mkF m 4 #[.val (.ref o0)] [(.ref sv)])) rfl rfl (hb hby d7_4) _ ?_
    rw [len_of S2 M2]
    refine XS.aloadN X1.here hx rfl (hb hby d7_5) rfl rfl ?_
    exact kt
  obtain ⟨cq3, kq3, q3a, q3b, q3c⟩ := isOf hZ e1 E_o0
  obtain ⟨_, _, ⟨T3, L3, k3, n3⟩, -, X3, ⟨Lc3, hQ3, l3, y3, z3⟩, st3⟩ := X1.virtualBack hx (y := (⟨"java/lang/String", "coder", "()B"⟩ : MethodName)) (z := (⟨"java/lang/String", "coder", "()B"⟩ : MethodName)) hown (mvT hZ (hw _ (List.mem_of_getElem? (i := 49) rfl))) (mvT hZ (hw _ (List.mem_of_getElem? (i := 50) rfl))) (notFace_of_selects (args := #[]) (mvT hZ (hw _ (List.mem_of_getElem? (i := 52) rfl)))) (mvT hZ (hw _ (List.mem_of_getElem? (i := 52) rfl))) (mvT hZ (hw _ (List.mem_of_getElem? (i := 51) rfl))) (by decide) (backOf (W := 1) (rmCO l Z a0 hw [] o0 cs h0 n0 Z0 F_coder_o0 S_COMPACT_STRINGS hcs) hZ (hw _ (List.mem_of_getElem? (i := 53) rfl)) (hw _ (List.mem_of_getElem? (i := 24) rfl)) (by decide) (by decide)) q3a q3c (g := (mkF m 6 #[.val (.ref o0)] [(.ref o0), (.int 16)])) rfl (by rw [hml]; rfl) (Steps.refl _) (argsL := []) (rest := [(.int 16)]) (lenOf pd__28_29B rfl) rfl (by show 2 * 0 + _ ≤ _; exact Nat.le_of_eq rfl) (hb hby d7_6) (fun _ _ => ⟨rfl, e1, (by decide : 0 + 0 ≤ _), (by decide : 0 + 0 ≤ _)⟩)
  dsimp only [Pt.U, Pt.locs, Pt.cells, Pt.slots] at X3 l3 y3 z3 st3 hQ3
  obtain ⟨rfl, N3q, e3⟩ := hQ3
  obtain ⟨lc3, X3, N3⟩ := own_pack X3 l3 y3 z3 N0 N3q (C := 0) (S' := 0) rfl rfl
  refine own_thr (a := T3.setTop (mkF m 9 #[.val (.ref o0)] [(.int 0), (.int 16)])) (fun t kt => st3.trans kt) ?_
  refine own_thr (a := T3.setTop (mkF m 10 #[.val (.ref o0)] [(.int 16)])) (fun t kt => ?_) ?_
  · show Steps p.tables e below (T3.setTop (mkF m 9 #[.val (.ref o0)] [(.int 0), (.int 16)])) _
    refine XS.ishr X3.here hx rfl (hb hby d7_9) rfl ?_
    exact kt
  exact own_end X3 hlk (v := some (.int 16)) (fun h => by rw [Bd.returns] at h; cases h) (fun fs hr => retI X3 hx Bd.returns (hb hby d7_10) hr) (by rw [e3]; exact ⟨rfl, N3, rfl⟩) (by decide : 0 ≤ _) (by decide : 0 ≤ _)
theorem d28_0 : decode jdk_41_method_11_code 0 = .ok (.iload_n 0, 1) := by decide +kernel
theorem d28_1 : decode jdk_41_method_11_code 1 = .ok (.ifCond .lt 8, 3) := by decide +kernel
theorem d28_4 : decode jdk_41_method_11_code 4 = .ok (.iload_n 0, 1) := by decide +kernel
theorem d28_5 : decode jdk_41_method_11_code 5 = .ok (.iload_n 1, 1) := by decide +kernel
theorem d28_6 : decode jdk_41_method_11_code 6 = .ok (.if_icmp .lt 10, 3) := by decide +kernel
theorem d28_16 : decode jdk_41_method_11_code 16 = .ok (.iload_n 0, 1) := by decide +kernel
theorem d28_17 : decode jdk_41_method_11_code 17 = .ok (.ireturn, 1) := by decide +kernel
theorem pn_jdk_internal_util_Preconditions : plainName "jdk/internal/util/Preconditions" = true := by first | (simp [plainName, overriddenIn]; done) | decide +kernel
theorem ef_rmPCu (m : MethodId) (fm : Value) (hfm : fm.isRef = true) : entryFrame m #[(.int 5), (.int 16), fm] 3 = mkF m 0 #[.val (.int 5), .val (.int 16), .val fm] [] := by first | (rcases ref_cases hfm with rfl | ⟨zfm, rfl⟩ <;> simp [entryFrame, mkF, argsToLocals, Value.category]; done) |  (simp [entryFrame, mkF, argsToLocals, Value.category]; done) | rfl
def Q_rmPCu (Z : State) (fm : Value) (h0 : Heap) (n0 : Nat) (v : Option Value) (h : Heap) (L : List Loc) : Prop := v = some (.int 5) ∧ Fr n0 L ∧ h = h0
set_option maxRecDepth 65536 in
set_option maxHeartbeats 40000000 in
theorem rmPCu (l : Launch) (Z : State) (a0 : Array Value) (hw : ∀ d ∈ tables_1, d.before a0 Z = true) (ws : List Jvm.Cond) (fm : Value) (h0 : Heap) (n0 : Nat) (Z0 : n0 ≤ h0.size) (hfm : fm.isRef = true) :
    MetFree l (⟨"jdk/internal/util/Preconditions", "checkIndex", "(IILjava/util/function/BiFunction;)I"⟩ : MethodName) (head1 (Jvm.Cond.code (⟨"jdk/internal/util/Preconditions", "checkIndex", "(IILjava/util/function/BiFunction;)I"⟩ : MethodName) jdk_41_method_11_code 3 (some .int) :: ws) ({ frames := 0, cells := 0, slots := 0, locals := 0 } : Room)) (fun a U => a = #[(.int 5), (.int 16), fm] ∧ Z.Warmed39 U.vm ∧ U.heap = h0) (fun _ _ _ _ _ => True) (fun _ U o U' => ∃ v L, o = .returned v ∧ Q_rmPCu Z fm h0 n0 v U'.heap L ∧ FrameEnd U o U' L ({ frames := 0, cells := 0, slots := 0, locals := 0 } : Room).cells ({ frames := 0, cells := 0, slots := 0, locals := 0 } : Room).slots) := by
  refine MetFree.of_bodySF (plainFor_of_name pn_jdk_internal_util_Preconditions) hisR ?_
  intro p e s m args below meth c s₁ Bd hml0 hP hK
  obtain ⟨rfl, hZ, hh⟩ := hP
  have hx := Bd.exec
  have hby := Bd.bytes
  have hml : c.maxLocals = 3 := hml0
  have hown : s.vm.findClass "jdk/internal/util/Preconditions" = some m.cls := findClass_of_methodNamed Bd.named
  have hnm := (name_of_methodNamed Bd.named Bd.method).1
  have hlk := Bd.notSynchronized
  have X0 : Stand p l e ({ frames := 0, cells := 0, slots := 0, locals := 0 } : Room) s m #[(.int 5), (.int 16), fm] below meth c s₁ [] 0 0 := Stand.of_body Bd
  have e0 : s₁.heap = h0 := by rw [← hh, Bd.state]; rfl
  have N0 := Fr.nil n0
  show own_G p.tables e below s (Q_rmPCu Z fm h0 n0) ({ frames := 0, cells := 0, slots := 0, locals := 0 } : Room).cells ({ frames := 0, cells := 0, slots := 0, locals := 0 } : Room).slots _
  refine own_thr (a := s₁.setTop (mkF m 0 #[.val (.int 5), .val (.int 16), .val fm] [])) (fun t kt => castTop (ef_rmPCu m fm hfm) kt) ?_
  refine own_thr (a := s₁.setTop (mkF m 17 #[.val (.int 5), .val (.int 16), .val fm] [(.int 5)])) (fun t kt => ?_) ?_
  · show Steps p.tables e below (s₁.setTop (mkF m 0 #[.val (.int 5), .val (.int 16), .val fm] [])) _
    refine XS.iloadN X0.here hx rfl (hb hby d28_0) rfl ?_
    refine XS.ifNo X0.here hx rfl (hb hby d28_1) rfl ((if0 _ _).trans (flt (by decide)).1) ?_
    refine XS.iloadN X0.here hx rfl (hb hby d28_4) rfl ?_
    refine XS.iloadN X0.here hx rfl (hb hby d28_5) rfl ?_
    refine XS.icmpYes X0.here hx rfl (pc0 := 6) (pc' := 16) rfl (hb hby d28_6) rfl (tlt (by decide)).1 (by decide) (by decide) ?_
    refine XS.iloadN X0.here hx rfl (hb hby d28_16) rfl ?_
    exact kt
  exact own_end X0 hlk (v := some (.int 5)) (fun h => by rw [Bd.returns] at h; cases h) (fun fs hr => retI X0 hx Bd.returns (hb hby d28_17) hr) (by rw [e0]; exact ⟨rfl, N0, rfl⟩) (by decide : 0 ≤ _) (by decide : 0 ≤ _)
theorem d27_0 : decode jdk_42_method_155_code 0 = .ok (.iload_n 0, 1) := by decide +kernel
theorem d27_1 : decode jdk_42_method_155_code 1 = .ok (.iload_n 1, 1) := by decide +kernel
theorem d27_2 : decode jdk_42_method_155_code 2 = .ok (.getstatic 1053, 3) := by decide +kernel
theorem pd__28IILjava_2futil_2ffunction_2fBiFunction_3b_29I : parseMethodDescriptor "(IILjava/util/function/BiFunction;)I" = some ⟨[.int, .int, (.object "java/util/function/BiFunction")], some .int⟩ := by decide +kernel
theorem d27_5 : decode jdk_42_method_155_code 5 = .ok (.invokestatic 1059, 3) := by decide +kernel
theorem d27_8 : decode jdk_42_method_155_code 8 = .ok (.pop, 1) := by decide +kernel
theorem d27_9 : decode jdk_42_method_155_code 9 = .ok (.return_, 1) := by decide +kernel
theorem ef_rmCIu (m : MethodId)   : entryFrame m #[(.int 5), (.int 16)] 2 = mkF m 0 #[.val (.int 5), .val (.int 16)] [] := by first |  (simp [entryFrame, mkF, argsToLocals, Value.category]; done) | rfl
def Q_rmCIu (Z : State)  (fm : Value) (h0 : Heap) (n0 : Nat) (v : Option Value) (h : Heap) (L : List Loc) : Prop := v = none ∧ Fr n0 L ∧ h = h0
set_option maxRecDepth 65536 in
set_option maxHeartbeats 40000000 in
theorem rmCIu (l : Launch) (Z : State) (a0 : Array Value) (hw : ∀ d ∈ tables_1, d.before a0 Z = true) (ws : List Jvm.Cond)  (fm : Value) (h0 : Heap) (n0 : Nat) (Z0 : n0 ≤ h0.size) (S_SIOOBE_FORMATTER : Sta Z h0 "jdk/internal/util/Preconditions" "SIOOBE_FORMATTER" "Ljava/util/function/BiFunction;" fm) (hfm : fm.isRef = true) :
    MetFree l (⟨"java/lang/String", "checkIndex", "(II)V"⟩ : MethodName) (head1 (Jvm.Cond.code (⟨"java/lang/String", "checkIndex", "(II)V"⟩ : MethodName) jdk_42_method_155_code 2 none :: ws) ({ frames := 1, cells := 0, slots := 0, locals := 14 } : Room)) (fun a U => a = #[(.int 5), (.int 16)] ∧ Z.Warmed39 U.vm ∧ U.heap = h0) (fun _ _ _ _ _ => True) (fun _ U o U' => ∃ v L, o = .returned v ∧ Q_rmCIu Z  fm h0 n0 v U'.heap L ∧ FrameEnd U o U' L ({ frames := 1, cells := 0, slots := 0, locals := 14 } : Room).cells ({ frames := 1, cells := 0, slots := 0, locals := 14 } : Room).slots) := by
  refine MetFree.of_bodySF (plainFor_of_name pn_java_lang_String) hisR ?_
  intro p e s m args below meth c s₁ Bd hml0 hP hK
  obtain ⟨rfl, hZ, hh⟩ := hP
  have hx := Bd.exec
  have hby := Bd.bytes
  have hml : c.maxLocals = 2 := hml0
  have hown : s.vm.findClass "java/lang/String" = some m.cls := findClass_of_methodNamed Bd.named
  have hnm := (name_of_methodNamed Bd.named Bd.method).1
  have hlk := Bd.notSynchronized
  have X0 : Stand p l e ({ frames := 1, cells := 0, slots := 0, locals := 14 } : Room) s m #[(.int 5), (.int 16)] below meth c s₁ [] 0 0 := Stand.of_body Bd
  have e0 : s₁.heap = h0 := by rw [← hh, Bd.state]; rfl
  have N0 := Fr.nil n0
  show own_G p.tables e below s (Q_rmCIu Z  fm h0 n0) ({ frames := 1, cells := 0, slots := 0, locals := 14 } : Room).cells ({ frames := 1, cells := 0, slots := 0, locals := 14 } : Room).slots _
  refine own_thr (a := s₁.setTop (mkF m 0 #[.val (.int 5), .val (.int 16)] [])) (fun t kt => castTop (ef_rmCIu m ) kt) ?_
  refine own_thr (a := s₁.setTop (mkF m 2 #[.val (.int 5), .val (.int 16)] [(.int 16), (.int 5)])) (fun t kt => ?_) ?_
  · show Steps p.tables e below (s₁.setTop (mkF m 0 #[.val (.int 5), .val (.int 16)] [])) _
    refine XS.iloadN X0.here hx rfl (hb hby d27_0) rfl ?_
    refine XS.iloadN X0.here hx rfl (hb hby d27_1) rfl ?_
    exact kt
  obtain ⟨T1, X1, e1, st1⟩ := getS2 X0 hx hZ hown (host := "") (Or.inl (hw _ (List.mem_of_getElem? (i := 169) rfl))) Via.refl e0 S_SIOOBE_FORMATTER (g := (mkF m 2 #[.val (.int 5), .val (.int 16)] [(.int 16), (.int 5)])) rfl (hb hby d27_2)
  refine own_thr (a := T1.setTop (mkF m 5 #[.val (.int 5), .val (.int 16)] [fm, (.int 16), (.int 5)])) (fun t kt => st1 t kt) ?_
  obtain ⟨_, _, ⟨T2, L2, k2, n2⟩, -, X2, ⟨Lc2, hQ2, l2, y2, z2⟩, st2⟩ := Jvm.LawKit.callS X1 hx (y := (⟨"jdk/internal/util/Preconditions", "checkIndex", "(IILjava/util/function/BiFunction;)I"⟩ : MethodName)) hown (mvT hZ (hw _ (List.mem_of_getElem? (i := 171) rfl))) (mvT hZ (hw _ (List.mem_of_getElem? (i := 172) rfl))) (mvT hZ (hw _ (List.mem_of_getElem? (i := 170) rfl))) (mvT hZ (hw _ (List.mem_of_getElem? (i := 173) rfl))) (by decide) (backOf (W := 0) (rmPCu l Z a0 hw [] fm h0 n0 Z0 hfm) hZ (hw _ (List.mem_of_getElem? (i := 173) rfl)) (hw _ (List.mem_of_getElem? (i := 170) rfl)) (by decide) (by decide)) (g := (mkF m 5 #[.val (.int 5), .val (.int 16)] [fm, (.int 16), (.int 5)])) rfl (by rw [hml]; rfl) (argsL := [(.int 5), (.int 16), fm]) (rest := []) (lenOf pd__28IILjava_2futil_2ffunction_2fBiFunction_3b_29I rfl) rfl (by show 2 * 0 + _ ≤ _; exact Nat.le_of_eq rfl) (hb hby d27_5) (fun _ _ => ⟨rfl, e1, (by decide : 0 + 0 ≤ _), (by decide : 0 + 0 ≤ _)⟩)
  dsimp only [Pt.U, Pt.locs, Pt.cells, Pt.slots] at X2 l2 y2 z2 st2 hQ2
  obtain ⟨rfl, N2q, e2⟩ := hQ2
  obtain ⟨lc2, X2, N2⟩ := own_pack X2 l2 y2 z2 N0 N2q (C := 0) (S' := 0) rfl rfl
  refine own_thr (a := T2.setTop (mkF m 8 #[.val (.int 5), .val (.int 16)] [(.int 5)])) (fun t kt => st2 t kt) ?_
  refine own_thr (a := T2.setTop (mkF m 9 #[.val (.int 5), .val (.int 16)] [])) (fun t kt => ?_) ?_
  · show Steps p.tables e below (T2.setTop (mkF m 8 #[.val (.int 5), .val (.int 16)] [(.int 5)])) _
    refine XS.pop X2.here hx rfl (hb hby d27_8) rfl rfl ?_
    exact kt
  exact own_end X2 hlk (v := none) (fun _ => rfl) (fun fs hr => X2.returnOut hx Bd.returns (hb hby d27_9) hr) (by rw [e2]; exact ⟨rfl, N2, rfl⟩) (by decide : 0 ≤ _) (by decide : 0 ≤ _)
theorem d26_0 : decode jdk_43_method_2_code 0 = .ok (.iload_n 1, 1) := by decide +kernel
theorem d26_1 : decode jdk_43_method_2_code 1 = .ok (.aload_n 0, 1) := by decide +kernel
theorem d26_2 : decode jdk_43_method_2_code 2 = .ok (.arraylength, 1) := by decide +kernel
theorem d26_3 : decode jdk_43_method_2_code 3 = .ok (.invokestatic 9, 3) := by decide +kernel
theorem d26_6 : decode jdk_43_method_2_code 6 = .ok (.aload_n 0, 1) := by decide +kernel
theorem d26_7 : decode jdk_43_method_2_code 7 = .ok (.iload_n 1, 1) := by decide +kernel
theorem d26_8 : decode jdk_43_method_2_code 8 = .ok (.baload, 1) := by decide +kernel
theorem d26_9 : decode jdk_43_method_2_code 9 = .ok (.sipush 255, 3) := by decide +kernel
theorem d26_12 : decode jdk_43_method_2_code 12 = .ok (.iand, 1) := by decide +kernel
theorem d26_13 : decode jdk_43_method_2_code 13 = .ok (.i2c, 1) := by decide +kernel
theorem d26_14 : decode jdk_43_method_2_code 14 = .ok (.ireturn, 1) := by decide +kernel
theorem ef_rmLCu (m : MethodId) (o0 : Addr)  : entryFrame m #[(.ref o0), (.int 5)] 2 = mkF m 0 #[.val (.ref o0), .val (.int 5)] [] := by first |  (simp [entryFrame, mkF, argsToLocals, Value.category]; done) | rfl
def Q_rmLCu (Z : State) (o0 : Addr) (k0 : ClassId) (fm : Value) (h0 : Heap) (n0 : Nat) (v : Option Value) (h : Heap) (L : List Loc) : Prop := v = some (.int (nar .char (((32 : Int32) &&& (255 : Int32)).toUInt32.toUInt16.toUInt32.toInt32))) ∧ Fr n0 L ∧ h = h0
set_option maxRecDepth 65536 in
set_option maxHeartbeats 40000000 in
theorem rmLCu (l : Launch) (Z : State) (a0 : Array Value) (hw : ∀ d ∈ tables_1, d.before a0 Z = true) (ws : List Jvm.Cond) (o0 : Addr) (k0 : ClassId) (fm : Value) (h0 : Heap) (n0 : Nat) (Z0 : n0 ≤ h0.size) (V_o0 : Arv Z h0 o0 k0 .byte (16 : Int32) [(.int 45), (.int 45), (.int 117), (.int 114), (.int 108), (.int 32), (.int 60), (.int 74), (.int 68), (.int 66), (.int 67), (.int 32), (.int 85), (.int 82), (.int 76), (.int 62)] (.int 0)) (S_SIOOBE_FORMATTER : Sta Z h0 "jdk/internal/util/Preconditions" "SIOOBE_FORMATTER" "Ljava/util/function/BiFunction;" fm) (hfm : fm.isRef = true) :
    MetFree l (⟨"java/lang/StringLatin1", "charAt", "([BI)C"⟩ : MethodName) (head1 (Jvm.Cond.code (⟨"java/lang/StringLatin1", "charAt", "([BI)C"⟩ : MethodName) jdk_43_method_2_code 2 (some .char) :: ws) ({ frames := 2, cells := 0, slots := 0, locals := 27 } : Room)) (fun a U => a = #[(.ref o0), (.int 5)] ∧ Z.Warmed39 U.vm ∧ U.heap = h0) (fun _ _ _ _ _ => True) (fun _ U o U' => ∃ v L, o = .returned v ∧ Q_rmLCu Z o0 k0 fm h0 n0 v U'.heap L ∧ FrameEnd U o U' L ({ frames := 2, cells := 0, slots := 0, locals := 27 } : Room).cells ({ frames := 2, cells := 0, slots := 0, locals := 27 } : Room).slots) := by
  refine MetFree.of_bodySF (plainFor_of_name pn_java_lang_StringLatin1) hisR ?_
  intro p e s m args below meth c s₁ Bd hml0 hP hK
  obtain ⟨rfl, hZ, hh⟩ := hP
  have hx := Bd.exec
  have hby := Bd.bytes
  have hml : c.maxLocals = 2 := hml0
  have hown : s.vm.findClass "java/lang/StringLatin1" = some m.cls := findClass_of_methodNamed Bd.named
  have hnm := (name_of_methodNamed Bd.named Bd.method).1
  have hlk := Bd.notSynchronized
  have X0 : Stand p l e ({ frames := 2, cells := 0, slots := 0, locals := 27 } : Room) s m #[(.ref o0), (.int 5)] below meth c s₁ [] 0 0 := Stand.of_body Bd
  have e0 : s₁.heap = h0 := by rw [← hh, Bd.state]; rfl
  have N0 := Fr.nil n0
  show own_G p.tables e below s (Q_rmLCu Z o0 k0 fm h0 n0) ({ frames := 2, cells := 0, slots := 0, locals := 27 } : Room).cells ({ frames := 2, cells := 0, slots := 0, locals := 27 } : Room).slots _
  refine own_thr (a := s₁.setTop (mkF m 0 #[.val (.ref o0), .val (.int 5)] [])) (fun t kt => castTop (ef_rmLCu m o0) kt) ?_
  refine own_thr (a := s₁.setTop (mkF m 2 #[.val (.ref o0), .val (.int 5)] [(.ref o0), (.int 5)])) (fun t kt => ?_) ?_
  · show Steps p.tables e below (s₁.setTop (mkF m 0 #[.val (.ref o0), .val (.int 5)] [])) _
    refine XS.iloadN X0.here hx rfl (hb hby d26_0) rfl ?_
    refine XS.aloadN X0.here hx rfl (hb hby d26_1) rfl rfl ?_
    exact kt
  obtain ⟨cl1, Ar1, -, S1, M1, -, -⟩ := id V_o0
  refine own_thr (a := s₁.setTop (mkF m 3 #[.val (.ref o0), .val (.int 5)] [(.int 16), (.int 5)])) (fun t kt => ?_) ?_
  · show Steps p.tables e below (s₁.setTop (mkF m 2 #[.val (.ref o0), .val (.int 5)] [(.ref o0), (.int 5)])) _
    refine X0.arraylength hx (by rw [e0]; exact Ar1.1) (State.isArrayOf_alike hZ.alike Ar1.2.1) (g := (mkF m 2 #[.val (.ref o0), .val (.int 5)] [(.ref o0), (.int 5)])) rfl rfl (hb hby d26_2) _ ?_
    rw [len_of S1 M1]
    exact kt
  obtain ⟨_, _, ⟨T2, L2, k2, n2⟩, -, X2, ⟨Lc2, hQ2, l2, y2, z2⟩, st2⟩ := Jvm.LawKit.callS X0 hx (y := (⟨"java/lang/String", "checkIndex", "(II)V"⟩ : MethodName)) hown (mvT hZ (hw _ (List.mem_of_getElem? (i := 166) rfl))) (mvT hZ (hw _ (List.mem_of_getElem? (i := 167) rfl))) (mvT hZ (hw _ (List.mem_of_getElem? (i := 24) rfl))) (mvT hZ (hw _ (List.mem_of_getElem? (i := 168) rfl))) (by decide) (backOf (W := 0) (rmCIu l Z a0 hw []  fm h0 n0 Z0 S_SIOOBE_FORMATTER hfm) hZ (hw _ (List.mem_of_getElem? (i := 168) rfl)) (hw _ (List.mem_of_getElem? (i := 24) rfl)) (by decide) (by decide)) (g := (mkF m 3 #[.val (.ref o0), .val (.int 5)] [(.int 16), (.int 5)])) rfl (by rw [hml]; rfl) (argsL := [(.int 5), (.int 16)]) (rest := []) (lenOf pd__28II_29V rfl) rfl (by show 2 * 0 + _ ≤ _; exact Nat.le_of_eq rfl) (hb hby d26_3) (fun _ _ => ⟨rfl, e0, (by decide : 0 + 0 ≤ _), (by decide : 0 + 0 ≤ _)⟩)
  dsimp only [Pt.U, Pt.locs, Pt.cells, Pt.slots] at X2 l2 y2 z2 st2 hQ2
  obtain ⟨rfl, N2q, e2⟩ := hQ2
  obtain ⟨lc2, X2, N2⟩ := own_pack X2 l2 y2 z2 N0 N2q (C := 0) (S' := 0) rfl rfl
  refine own_thr (a := T2.setTop (mkF m 6 #[.val (.ref o0), .val (.int 5)] [])) (fun t kt => st2 t kt) ?_
  refine own_thr (a := T2.setTop (mkF m 8 #[.val (.ref o0), .val (.int 5)] [(.int 5), (.ref o0)])) (fun t kt => ?_) ?_
  · show Steps p.tables e below (T2.setTop (mkF m 6 #[.val (.ref o0), .val (.int 5)] [])) _
    refine XS.aloadN X2.here hx rfl (hb hby d26_6) rfl rfl ?_
    refine XS.iloadN X2.here hx rfl (hb hby d26_7) rfl ?_
    exact kt
  obtain ⟨cl3, Ar3, -, S3, M3, H3, -⟩ := id V_o0
  have hin3 : ¬ ((5 : Int32) < 0 ∨ cl3.slots.size ≤ ((5 : Int32)).toNatClampNeg) := inb_of S3 ⟨by decide, by decide⟩
  have hat3 : cl3.slots[((5 : Int32)).toNatClampNeg]? = some (.int 32) := Has.at H3 hin3 rfl
  refine own_thr (a := T2.setTop (mkF m 14 #[.val (.ref o0), .val (.int 5)] [(.int (((32 : Int32) &&& (255 : Int32)).toUInt32.toUInt16.toUInt32.toInt32))])) (fun t kt => ?_) ?_
  · show Steps p.tables e below (T2.setTop (mkF m 8 #[.val (.ref o0), .val (.int 5)] [(.int 5), (.ref o0)])) _
    refine X2.baloadBytes hx (j := (5 : Int32)) (v := (.int 32)) (by rw [e2]; exact Ar3.1) (State.isArrayOf_alike hZ.alike Ar3.2.1) Ar3.2.2 hin3 hat3 (g := (mkF m 8 #[.val (.ref o0), .val (.int 5)] [(.int 5), (.ref o0)])) rfl rfl (hb hby d26_8) _ ?_
    refine XS.sipush X2.here hx rfl (hb hby d26_9) ?_
    refine XS.iand X2.here hx rfl (hb hby d26_12) rfl ?_
    refine XS.i2c X2.here hx rfl (hb hby d26_13) rfl ?_
    exact kt
  exact own_end X2 hlk (v := some (.int (nar .char (((32 : Int32) &&& (255 : Int32)).toUInt32.toUInt16.toUInt32.toInt32)))) (fun h => by rw [Bd.returns] at h; cases h) (fun fs hr => retN X2 hx (t := .char) Bd.returns (by simp) (hb hby d26_14) hr) (by rw [e2]; exact ⟨rfl, N2, rfl⟩) (by decide : 0 ≤ _) (by decide : 0 ≤ _)
theorem d24_0 : decode jdk_42_method_56_code 0 = .ok (.aload_n 0, 1) := by decide +kernel
theorem d24_1 : decode jdk_42_method_56_code 1 = .ok (.invokevirtual 492, 3) := by decide +kernel
theorem d24_4 : decode jdk_42_method_56_code 4 = .ok (.ifCond .eq 12, 3) := by decide +kernel
theorem d24_7 : decode jdk_42_method_56_code 7 = .ok (.aload_n 0, 1) := by decide +kernel
theorem d24_8 : decode jdk_42_method_56_code 8 = .ok (.getfield 9, 3) := by decide +kernel
theorem d24_11 : decode jdk_42_method_56_code 11 = .ok (.iload_n 1, 1) := by decide +kernel
theorem pd__28_5bBI_29C : parseMethodDescriptor "([BI)C" = some ⟨[(.array .byte), .int], some .char⟩ := by decide +kernel
theorem d24_12 : decode jdk_42_method_56_code 12 = .ok (.invokestatic 495, 3) := by decide +kernel
theorem d24_15 : decode jdk_42_method_56_code 15 = .ok (.ireturn, 1) := by decide +kernel
theorem ef_rmCAu (m : MethodId) (o0 : Addr)  : entryFrame m #[(.ref o0), (.int 5)] 2 = mkF m 0 #[.val (.ref o0), .val (.int 5)] [] := by first |  (simp [entryFrame, mkF, argsToLocals, Value.category]; done) | rfl
def Q_rmCAu (Z : State) (o0 : Addr) (sv : Addr) (ks : ClassId) (cs : Int32) (fm : Value) (h0 : Heap) (n0 : Nat) (v : Option Value) (h : Heap) (L : List Loc) : Prop := v = some (.int (nar .char (nar .char (((32 : Int32) &&& (255 : Int32)).toUInt32.toUInt16.toUInt32.toInt32)))) ∧ Fr n0 L ∧ h = h0
set_option maxRecDepth 65536 in
set_option maxHeartbeats 40000000 in
theorem rmCAu (l : Launch) (Z : State) (a0 : Array Value) (hw : ∀ d ∈ tables_1, d.before a0 Z = true) (ws : List Jvm.Cond) (o0 : Addr) (sv : Addr) (ks : ClassId) (cs : Int32) (fm : Value) (h0 : Heap) (n0 : Nat) (Z0 : n0 ≤ h0.size) (E_o0 : Exa Z h0 o0 "java/lang/String") (F_value_o0 : Fld Z h0 o0 "java/lang/String" "value" "[B" (.ref sv)) (F_coder_o0 : Fld Z h0 o0 "java/lang/String" "coder" "B" (.int 0)) (V_sv : Arv Z h0 sv ks .byte (16 : Int32) [(.int 45), (.int 45), (.int 117), (.int 114), (.int 108), (.int 32), (.int 60), (.int 74), (.int 68), (.int 66), (.int 67), (.int 32), (.int 85), (.int 82), (.int 76), (.int 62)] (.int 0)) (S_COMPACT_STRINGS : Sta Z h0 "java/lang/String" "COMPACT_STRINGS" "Z" (.int cs)) (S_SIOOBE_FORMATTER : Sta Z h0 "jdk/internal/util/Preconditions" "SIOOBE_FORMATTER" "Ljava/util/function/BiFunction;" fm) (hcs : ¬ cs = (0 : Int32)) (hfm : fm.isRef = true) :
    MetFree l (⟨"java/lang/String", "charAt", "(I)C"⟩ : MethodName) (head1 (Jvm.Cond.code (⟨"java/lang/String", "charAt", "(I)C"⟩ : MethodName) jdk_42_method_56_code 2 (some .char) :: ws) ({ frames := 3, cells := 0, slots := 0, locals := 40 } : Room)) (fun a U => a = #[(.ref o0), (.int 5)] ∧ Z.Warmed39 U.vm ∧ U.heap = h0) (fun _ _ _ _ _ => True) (fun _ U o U' => ∃ v L, o = .returned v ∧ Q_rmCAu Z o0 sv ks cs fm h0 n0 v U'.heap L ∧ FrameEnd U o U' L ({ frames := 3, cells := 0, slots := 0, locals := 40 } : Room).cells ({ frames := 3, cells := 0, slots := 0, locals := 40 } : Room).slots) := by
  refine MetFree.of_bodySF (plainFor_of_name pn_java_lang_String) hisR ?_
  intro p e s m args below meth c s₁ Bd hml0 hP hK
  obtain ⟨rfl, hZ, hh⟩ := hP
  have hx := Bd.exec
  have hby := Bd.bytes
  have hml : c.maxLocals = 2 := hml0
  have hown : s.vm.findClass "java/lang/String" = some m.cls := findClass_of_methodNamed Bd.named
  have hnm := (name_of_methodNamed Bd.named Bd.method).1
  have hlk := Bd.notSynchronized
  have X0 : Stand p l e ({ frames := 3, cells := 0, slots := 0, locals := 40 } : Room) s m #[(.ref o0), (.int 5)] below meth c s₁ [] 0 0 := Stand.of_body Bd
  have e0 : s₁.heap = h0 := by rw [← hh, Bd.state]; rfl
  have N0 := Fr.nil n0
  show own_G p.tables e below s (Q_rmCAu Z o0 sv ks cs fm h0 n0) ({ frames := 3, cells := 0, slots := 0, locals := 40 } : Room).cells ({ frames := 3, cells := 0, slots := 0, locals := 40 } : Room).slots _
  refine own_thr (a := s₁.setTop (mkF m 0 #[.val (.ref o0), .val (.int 5)] [])) (fun t kt => castTop (ef_rmCAu m o0) kt) ?_
  refine own_thr (a := s₁.setTop (mkF m 1 #[.val (.ref o0), .val (.int 5)] [(.ref o0)])) (fun t kt => ?_) ?_
  · show Steps p.tables e below (s₁.setTop (mkF m 0 #[.val (.ref o0), .val (.int 5)] [])) _
    refine XS.aloadN X0.here hx rfl (hb hby d24_0) rfl rfl ?_
    exact kt
  obtain ⟨cq1, kq1, q1a, q1b, q1c⟩ := isOf hZ e0 E_o0
  obtain ⟨_, _, ⟨T1, L1, k1, n1⟩, -, X1, ⟨Lc1, hQ1, l1, y1, z1⟩, st1⟩ := X0.virtualBack hx (y := (⟨"java/lang/String", "isLatin1", "()Z"⟩ : MethodName)) (z := (⟨"java/lang/String", "isLatin1", "()Z"⟩ : MethodName)) hown (mvT hZ (hw _ (List.mem_of_getElem? (i := 158) rfl))) (mvT hZ (hw _ (List.mem_of_getElem? (i := 159) rfl))) (notFace_of_selects (args := #[]) (mvT hZ (hw _ (List.mem_of_getElem? (i := 161) rfl)))) (mvT hZ (hw _ (List.mem_of_getElem? (i := 161) rfl))) (mvT hZ (hw _ (List.mem_of_getElem? (i := 160) rfl))) (by decide) (backOf (W := 0) (rmS1L l Z a0 hw [] o0 cs h0 n0 Z0 F_coder_o0 S_COMPACT_STRINGS hcs) hZ (hw _ (List.mem_of_getElem? (i := 162) rfl)) (hw _ (List.mem_of_getElem? (i := 24) rfl)) (by decide) (by decide)) q1a q1c (g := (mkF m 1 #[.val (.ref o0), .val (.int 5)] [(.ref o0)])) rfl (by rw [hml]; rfl) (Steps.refl _) (argsL := []) (rest := []) (lenOf pd__28_29Z rfl) rfl (by show 2 * 0 + _ ≤ _; exact Nat.le_of_eq rfl) (hb hby d24_1) (fun _ _ => ⟨rfl, e0, (by decide : 0 + 0 ≤ _), (by decide : 0 + 0 ≤ _)⟩)
  dsimp only [Pt.U, Pt.locs, Pt.cells, Pt.slots] at X1 l1 y1 z1 st1 hQ1
  obtain ⟨rfl, N1q, e1⟩ := hQ1
  obtain ⟨lc1, X1, N1⟩ := own_pack X1 l1 y1 z1 N0 N1q (C := 0) (S' := 0) rfl rfl
  refine own_thr (a := T1.setTop (mkF m 4 #[.val (.ref o0), .val (.int 5)] [(.int 1)])) (fun t kt => st1.trans kt) ?_
  refine own_thr (a := T1.setTop (mkF m 8 #[.val (.ref o0), .val (.int 5)] [(.ref o0)])) (fun t kt => ?_) ?_
  · show Steps p.tables e below (T1.setTop (mkF m 4 #[.val (.ref o0), .val (.int 5)] [(.int 1)])) _
    refine XS.ifNo X1.here hx rfl (hb hby d24_4) rfl ((if0 _ _).trans (feq (by decide)).1) ?_
    refine XS.aloadN X1.here hx rfl (hb hby d24_7) rfl rfl ?_
    exact kt
  obtain ⟨T2, X2, e2, st2⟩ := getF X1 hx hZ hown (host := "") (Or.inl (hw _ (List.mem_of_getElem? (i := 47) rfl))) Via.refl e1 F_value_o0 (g := (mkF m 8 #[.val (.ref o0), .val (.int 5)] [(.ref o0)])) rfl rfl (hb hby d24_8)
  refine own_thr (a := T2.setTop (mkF m 11 #[.val (.ref o0), .val (.int 5)] [(.ref sv)])) (fun t kt => st2 t kt) ?_
  refine own_thr (a := T2.setTop (mkF m 12 #[.val (.ref o0), .val (.int 5)] [(.int 5), (.ref sv)])) (fun t kt => ?_) ?_
  · show Steps p.tables e below (T2.setTop (mkF m 11 #[.val (.ref o0), .val (.int 5)] [(.ref sv)])) _
    refine XS.iloadN X2.here hx rfl (hb hby d24_11) rfl ?_
    exact kt
  obtain ⟨_, _, ⟨T3, L3, k3, n3⟩, -, X3, ⟨Lc3, hQ3, l3, y3, z3⟩, st3⟩ := Jvm.LawKit.callS X2 hx (y := (⟨"java/lang/StringLatin1", "charAt", "([BI)C"⟩ : MethodName)) hown (mvT hZ (hw _ (List.mem_of_getElem? (i := 163) rfl))) (mvT hZ (hw _ (List.mem_of_getElem? (i := 164) rfl))) (mvT hZ (hw _ (List.mem_of_getElem? (i := 150) rfl))) (mvT hZ (hw _ (List.mem_of_getElem? (i := 165) rfl))) (by decide) (backOf (W := 0) (rmLCu l Z a0 hw [] sv ks fm h0 n0 Z0 V_sv S_SIOOBE_FORMATTER hfm) hZ (hw _ (List.mem_of_getElem? (i := 165) rfl)) (hw _ (List.mem_of_getElem? (i := 150) rfl)) (by decide) (by decide)) (g := (mkF m 12 #[.val (.ref o0), .val (.int 5)] [(.int 5), (.ref sv)])) rfl (by rw [hml]; rfl) (argsL := [(.ref sv), (.int 5)]) (rest := []) (lenOf pd__28_5bBI_29C rfl) rfl (by show 2 * 0 + _ ≤ _; exact Nat.le_of_eq rfl) (hb hby d24_12) (fun _ _ => ⟨rfl, e2, (by decide : 0 + 0 ≤ _), (by decide : 0 + 0 ≤ _)⟩)
  dsimp only [Pt.U, Pt.locs, Pt.cells, Pt.slots] at X3 l3 y3 z3 st3 hQ3
  obtain ⟨rfl, N3q, e3⟩ := hQ3
  obtain ⟨lc3, X3, N3⟩ := own_pack X3 l3 y3 z3 N1 N3q (C := 0) (S' := 0) rfl rfl
  refine own_thr (a := T3.setTop (mkF m 15 #[.val (.ref o0), .val (.int 5)] [(.int (nar .char (((32 : Int32) &&& (255 : Int32)).toUInt32.toUInt16.toUInt32.toInt32)))])) (fun t kt => st3 t kt) ?_
  exact own_end X3 hlk (v := some (.int (nar .char (nar .char (((32 : Int32) &&& (255 : Int32)).toUInt32.toUInt16.toUInt32.toInt32))))) (fun h => by rw [Bd.returns] at h; cases h) (fun fs hr => retN X3 hx (t := .char) Bd.returns (by simp) (hb hby d24_15) hr) (by rw [e3]; exact ⟨rfl, N3, rfl⟩) (by decide : 0 ≤ _) (by decide : 0 ≤ _)
theorem ef_rmLEqs (m : MethodId) (o0 : Addr) (o1 : Addr)  : entryFrame m #[(.ref o0), (.ref o1)] 3 = mkF m 0 #[.val (.ref o0), .val (.ref o1), .unset] [] := by first |  (simp [entryFrame, mkF, argsToLocals, Value.category]; done) | rfl
def Q_rmLEqs (Z : State) (o0 : Addr) (o1 : Addr) (k0 : ClassId) (k1 : ClassId) (h0 : Heap) (n0 : Nat) (v : Option Value) (h : Heap) (L : List Loc) : Prop := v = some (.int 1) ∧ Fr n0 L ∧ h = h0
set_option maxRecDepth 65536 in
set_option maxHeartbeats 40000000 in
theorem rmLEqs (l : Launch) (Z : State) (a0 : Array Value) (hw : ∀ d ∈ tables_1, d.before a0 Z = true) (ws : List Jvm.Cond) (o0 : Addr) (o1 : Addr) (k0 : ClassId) (k1 : ClassId) (h0 : Heap) (n0 : Nat) (Z0 : n0 ≤ h0.size) (V_o0 : Arv Z h0 o0 k0 .byte (14 : Int32) [(.int 45), (.int 45), (.int 113), (.int 117), (.int 101), (.int 117), (.int 101), (.int 32), (.int 60), (.int 110), (.int 97), (.int 109), (.int 101), (.int 62)] (.int 0)) (V_o1 : Arv Z h0 o1 k1 .byte (14 : Int32) [(.int 45), (.int 45), (.int 113), (.int 117), (.int 101), (.int 117), (.int 101), (.int 32), (.int 60), (.int 110), (.int 97), (.int 109), (.int 101), (.int 62)] (.int 0)) :
    MetFree l (⟨"java/lang/StringLatin1", "equals", "([B[B)Z"⟩ : MethodName) (head1 (Jvm.Cond.code (⟨"java/lang/StringLatin1", "equals", "([B[B)Z"⟩ : MethodName) jdk_43_method_13_code 3 (some .boolean) :: ws) ({ frames := 0, cells := 0, slots := 0, locals := 0 } : Room)) (fun a U => a = #[(.ref o0), (.ref o1)] ∧ Z.Warmed39 U.vm ∧ U.heap = h0) (fun _ _ _ _ _ => True) (fun _ U o U' => ∃ v L, o = .returned v ∧ Q_rmLEqs Z o0 o1 k0 k1 h0 n0 v U'.heap L ∧ FrameEnd U o U' L ({ frames := 0, cells := 0, slots := 0, locals := 0 } : Room).cells ({ frames := 0, cells := 0, slots := 0, locals := 0 } : Room).slots) := by
  refine MetFree.of_bodySF (plainFor_of_name pn_java_lang_StringLatin1) hisR ?_
  intro p e s m args below meth c s₁ Bd hml0 hP hK
  obtain ⟨rfl, hZ, hh⟩ := hP
  have hx := Bd.exec
  have hby := Bd.bytes
  have hml : c.maxLocals = 3 := hml0
  have hown : s.vm.findClass "java/lang/StringLatin1" = some m.cls := findClass_of_methodNamed Bd.named
  have hnm := (name_of_methodNamed Bd.named Bd.method).1
  have hlk := Bd.notSynchronized
  have X0 : Stand p l e ({ frames := 0, cells := 0, slots := 0, locals := 0 } : Room) s m #[(.ref o0), (.ref o1)] below meth c s₁ [] 0 0 := Stand.of_body Bd
  have e0 : s₁.heap = h0 := by rw [← hh, Bd.state]; rfl
  have N0 := Fr.nil n0
  show own_G p.tables e below s (Q_rmLEqs Z o0 o1 k0 k1 h0 n0) ({ frames := 0, cells := 0, slots := 0, locals := 0 } : Room).cells ({ frames := 0, cells := 0, slots := 0, locals := 0 } : Room).slots _
  refine own_thr (a := s₁.setTop (mkF m 0 #[.val (.ref o0), .val (.ref o1), .unset] [])) (fun t kt => castTop (ef_rmLEqs m o0 o1) kt) ?_
  refine own_thr (a := s₁.setTop (mkF m 1 #[.val (.ref o0), .val (.ref o1), .unset] [(.ref o0)])) (fun t kt => ?_) ?_
  · show Steps p.tables e below (s₁.setTop (mkF m 0 #[.val (.ref o0), .val (.ref o1), .unset] [])) _
    refine XS.aloadN X0.here hx rfl (hb hby d23_0) rfl rfl ?_
    exact kt
  obtain ⟨cl1, Ar1, -, S1, M1, -, -⟩ := id V_o0
  refine own_thr (a := s₁.setTop (mkF m 3 #[.val (.ref o0), .val (.ref o1), .unset] [(.ref o1), (.int 14)])) (fun t kt => ?_) ?_
  · show Steps p.tables e below (s₁.setTop (mkF m 1 #[.val (.ref o0), .val (.ref o1), .unset] [(.ref o0)])) _
    refine X0.arraylength hx (by rw [e0]; exact Ar1.1) (State.isArrayOf_alike hZ.alike Ar1.2.1) (g := (mkF m 1 #[.val (.ref o0), .val (.ref o1), .unset] [(.ref o0)])) rfl rfl (hb hby d23_1) _ ?_
    rw [len_of S1 M1]
    refine XS.aloadN X0.here hx rfl (hb hby d23_2) rfl rfl ?_
    exact kt
  obtain ⟨cl2, Ar2, -, S2, M2, -, -⟩ := id V_o1
  refine own_thr (a := s₁.setTop (mkF m 11 #[.val (.ref o0), .val (.ref o1), .val (.int 0)] [(.ref o0), (.int 0)])) (fun t kt => ?_) ?_
  · show Steps p.tables e below (s₁.setTop (mkF m 3 #[.val (.ref o0), .val (.ref o1), .unset] [(.ref o1), (.int 14)])) _
    refine X0.arraylength hx (by rw [e0]; exact Ar2.1) (State.isArrayOf_alike hZ.alike Ar2.2.1) (g := (mkF m 3 #[.val (.ref o0), .val (.ref o1), .unset] [(.ref o1), (.int 14)])) rfl rfl (hb hby d23_3) _ ?_
    rw [len_of S2 M2]
    refine XS.icmpNo X0.here hx rfl (hb hby d23_4) rfl (teq rfl).2 ?_
    refine XS.iconst X0.here hx rfl (hb hby d23_7) ?_
    refine XS.istoreN X0.here hx rfl (hb hby d23_8) rfl (l' := #[.val (.ref o0), .val (.ref o1), .val (.int 0)]) rfl ?_
    refine XS.iloadN X0.here hx rfl (hb hby d23_9) rfl ?_
    refine XS.aloadN X0.here hx rfl (hb hby d23_10) rfl rfl ?_
    exact kt
  obtain ⟨cl3, Ar3, -, S3, M3, -, -⟩ := id V_o0
  refine own_thr (a := s₁.setTop (mkF m 17 #[.val (.ref o0), .val (.ref o1), .val (.int 0)] [(.int 0), (.ref o0)])) (fun t kt => ?_) ?_
  · show Steps p.tables e below (s₁.setTop (mkF m 11 #[.val (.ref o0), .val (.ref o1), .val (.int 0)] [(.ref o0), (.int 0)])) _
    refine X0.arraylength hx (by rw [e0]; exact Ar3.1) (State.isArrayOf_alike hZ.alike Ar3.2.1) (g := (mkF m 11 #[.val (.ref o0), .val (.ref o1), .val (.int 0)] [(.ref o0), (.int 0)])) rfl rfl (hb hby d23_11) _ ?_
    rw [len_of S3 M3]
    refine XS.icmpNo X0.here hx rfl (hb hby d23_12) rfl (tlt (by decide)).2.1 ?_
    refine XS.aloadN X0.here hx rfl (hb hby d23_15) rfl rfl ?_
    refine XS.iloadN X0.here hx rfl (hb hby d23_16) rfl ?_
    exact kt
  obtain ⟨cl4, Ar4, -, S4, M4, H4, -⟩ := id V_o0
  have hin4 : ¬ ((0 : Int32) < 0 ∨ cl4.slots.size ≤ ((0 : Int32)).toNatClampNeg) := inb_of S4 ⟨by decide, by decide⟩
  have hat4 : cl4.slots[((0 : Int32)).toNatClampNeg]? = some (.int 45) := Has.at H4 hin4 rfl
  refine own_thr (a := s₁.setTop (mkF m 20 #[.val (.ref o0), .val (.ref o1), .val (.int 0)] [(.int 0), (.ref o1), (.int 45)])) (fun t kt => ?_) ?_
  · show Steps p.tables e below (s₁.setTop (mkF m 17 #[.val (.ref o0), .val (.ref o1), .val (.int 0)] [(.int 0), (.ref o0)])) _
    refine X0.baloadBytes hx (j := (0 : Int32)) (v := (.int 45)) (by rw [e0]; exact Ar4.1) (State.isArrayOf_alike hZ.alike Ar4.2.1) Ar4.2.2 hin4 hat4 (g := (mkF m 17 #[.val (.ref o0), .val (.ref o1), .val (.int 0)] [(.int 0), (.ref o0)])) rfl rfl (hb hby d23_17) _ ?_
    refine XS.aloadN X0.here hx rfl (hb hby d23_18) rfl rfl ?_
    refine XS.iloadN X0.here hx rfl (hb hby d23_19) rfl ?_
    exact kt
  obtain ⟨cl5, Ar5, -, S5, M5, H5, -⟩ := id V_o1
  have hin5 : ¬ ((0 : Int32) < 0 ∨ cl5.slots.size ≤ ((0 : Int32)).toNatClampNeg) := inb_of S5 ⟨by decide, by decide⟩
  have hat5 : cl5.slots[((0 : Int32)).toNatClampNeg]? = some (.int 45) := Has.at H5 hin5 rfl
  refine own_thr (a := s₁.setTop (mkF m 11 #[.val (.ref o0), .val (.ref o1), .val (.int 1)] [(.ref o0), (.int 1)])) (fun t kt => ?_) ?_
  · show Steps p.tables e below (s₁.setTop (mkF m 20 #[.val (.ref o0), .val (.ref o1), .val (.int 0)] [(.int 0), (.ref o1), (.int 45)])) _
    refine X0.baloadBytes hx (j := (0 : Int32)) (v := (.int 45)) (by rw [e0]; exact Ar5.1) (State.isArrayOf_alike hZ.alike Ar5.2.1) Ar5.2.2 hin5 hat5 (g := (mkF m 20 #[.val (.ref o0), .val (.ref o1), .val (.int 0)] [(.int 0), (.ref o1), (.int 45)])) rfl rfl (hb hby d23_20) _ ?_
    refine XS.icmpYes X0.here hx rfl (pc0 := 21) (pc' := 26) rfl (hb hby d23_21) rfl (teq rfl).1 (by decide) (by decide) ?_
    refine XS.iinc X0.here hx rfl (hb hby d23_26) rfl (l' := #[.val (.ref o0), .val (.ref o1), .val (.int 1)]) rfl ?_
    refine XS.goto X0.here hx rfl (pc0 := 29) (pc' := 9) rfl (hb hby d23_29) (by decide) (by decide) ?_
    refine XS.iloadN X0.here hx rfl (hb hby d23_9) rfl ?_
    refine XS.aloadN X0.here hx rfl (hb hby d23_10) rfl rfl ?_
    exact kt
  obtain ⟨cl6, Ar6, -, S6, M6, -, -⟩ := id V_o0
  refine own_thr (a := s₁.setTop (mkF m 17 #[.val (.ref o0), .val (.ref o1), .val (.int 1)] [(.int 1), (.ref o0)])) (fun t kt => ?_) ?_
  · show Steps p.tables e below (s₁.setTop (mkF m 11 #[.val (.ref o0), .val (.ref o1), .val (.int 1)] [(.ref o0), (.int 1)])) _
    refine X0.arraylength hx (by rw [e0]; exact Ar6.1) (State.isArrayOf_alike hZ.alike Ar6.2.1) (g := (mkF m 11 #[.val (.ref o0), .val (.ref o1), .val (.int 1)] [(.ref o0), (.int 1)])) rfl rfl (hb hby d23_11) _ ?_
    rw [len_of S6 M6]
    refine XS.icmpNo X0.here hx rfl (hb hby d23_12) rfl (tlt (by decide)).2.1 ?_
    refine XS.aloadN X0.here hx rfl (hb hby d23_15) rfl rfl ?_
    refine XS.iloadN X0.here hx rfl (hb hby d23_16) rfl ?_
    exact kt
  obtain ⟨cl7, Ar7, -, S7, M7, H7, -⟩ := id V_o0
  have hin7 : ¬ ((1 : Int32) < 0 ∨ cl7.slots.size ≤ ((1 : Int32)).toNatClampNeg) := inb_of S7 ⟨by decide, by decide⟩
  have hat7 : cl7.slots[((1 : Int32)).toNatClampNeg]? = some (.int 45) := Has.at H7 hin7 rfl
  refine own_thr (a := s₁.setTop (mkF m 20 #[.val (.ref o0), .val (.ref o1), .val (.int 1)] [(.int 1), (.ref o1), (.int 45)])) (fun t kt => ?_) ?_
  · show Steps p.tables e below (s₁.setTop (mkF m 17 #[.val (.ref o0), .val (.ref o1), .val (.int 1)] [(.int 1), (.ref o0)])) _
    refine X0.baloadBytes hx (j := (1 : Int32)) (v := (.int 45)) (by rw [e0]; exact Ar7.1) (State.isArrayOf_alike hZ.alike Ar7.2.1) Ar7.2.2 hin7 hat7 (g := (mkF m 17 #[.val (.ref o0), .val (.ref o1), .val (.int 1)] [(.int 1), (.ref o0)])) rfl rfl (hb hby d23_17) _ ?_
    refine XS.aloadN X0.here hx rfl (hb hby d23_18) rfl rfl ?_
    refine XS.iloadN X0.here hx rfl (hb hby d23_19) rfl ?_
    exact kt
  obtain ⟨cl8, Ar8, -, S8, M8, H8, -⟩ := id V_o1
  have hin8 : ¬ ((1 : Int32) < 0 ∨ cl8.slots.size ≤ ((1 : Int32)).toNatClampNeg) := inb_of S8 ⟨by decide, by decide⟩
  have hat8 : cl8.slots[((1 : Int32)).toNatClampNeg]? = some (.int 45) := Has.at H8 hin8 rfl
  refine own_thr (a := s₁.setTop (mkF m 11 #[.val (.ref o0), .val (.ref o1), .val (.int 2)] [(.ref o0), (.int 2)])) (fun t kt => ?_) ?_
  · show Steps p.tables e below (s₁.setTop (mkF m 20 #[.val (.ref o0), .val (.ref o1), .val (.int 1)] [(.int 1), (.ref o1), (.int 45)])) _
    refine X0.baloadBytes hx (j := (1 : Int32)) (v := (.int 45)) (by rw [e0]; exact Ar8.1) (State.isArrayOf_alike hZ.alike Ar8.2.1) Ar8.2.2 hin8 hat8 (g := (mkF m 20 #[.val (.ref o0), .val (.ref o1), .val (.int 1)] [(.int 1), (.ref o1), (.int 45)])) rfl rfl (hb hby d23_20) _ ?_
    refine XS.icmpYes X0.here hx rfl (pc0 := 21) (pc' := 26) rfl (hb hby d23_21) rfl (teq rfl).1 (by decide) (by decide) ?_
    refine XS.iinc X0.here hx rfl (hb hby d23_26) rfl (l' := #[.val (.ref o0), .val (.ref o1), .val (.int 2)]) rfl ?_
    refine XS.goto X0.here hx rfl (pc0 := 29) (pc' := 9) rfl (hb hby d23_29) (by decide) (by decide) ?_
    refine XS.iloadN X0.here hx rfl (hb hby d23_9) rfl ?_
    refine XS.aloadN X0.here hx rfl (hb hby d23_10) rfl rfl ?_
    exact kt
  obtain ⟨cl9, Ar9, -, S9, M9, -, -⟩ := id V_o0
  refine own_thr (a := s₁.setTop (mkF m 17 #[.val (.ref o0), .val (.ref o1), .val (.int 2)] [(.int 2), (.ref o0)])) (fun t kt => ?_) ?_
  · show Steps p.tables e below (s₁.setTop (mkF m 11 #[.val (.ref o0), .val (.ref o1), .val (.int 2)] [(.ref o0), (.int 2)])) _
    refine X0.arraylength hx (by rw [e0]; exact Ar9.1) (State.isArrayOf_alike hZ.alike Ar9.2.1) (g := (mkF m 11 #[.val (.ref o0), .val (.ref o1), .val (.int 2)] [(.ref o0), (.int 2)])) rfl rfl (hb hby d23_11) _ ?_
    rw [len_of S9 M9]
    refine XS.icmpNo X0.here hx rfl (hb hby d23_12) rfl (tlt (by decide)).2.1 ?_
    refine XS.aloadN X0.here hx rfl (hb hby d23_15) rfl rfl ?_
    refine XS.iloadN X0.here hx rfl (hb hby d23_16) rfl ?_
    exact kt
  obtain ⟨cl10, Ar10, -, S10, M10, H10, -⟩ := id V_o0
  have hin10 : ¬ ((2 : Int32) < 0 ∨ cl10.slots.size ≤ ((2 : Int32)).toNatClampNeg) := inb_of S10 ⟨by decide, by decide⟩
  have hat10 : cl10.slots[((2 : Int32)).toNatClampNeg]? = some (.int 113) := Has.at H10 hin10 rfl
  refine own_thr (a := s₁.setTop (mkF m 20 #[.val (.ref o0), .val (.ref o1), .val (.int 2)] [(.int 2), (.ref o1), (.int 113)])) (fun t kt => ?_) ?_
  · show Steps p.tables e below (s₁.setTop (mkF m 17 #[.val (.ref o0), .val (.ref o1), .val (.int 2)] [(.int 2), (.ref o0)])) _
    refine X0.baloadBytes hx (j := (2 : Int32)) (v := (.int 113)) (by rw [e0]; exact Ar10.1) (State.isArrayOf_alike hZ.alike Ar10.2.1) Ar10.2.2 hin10 hat10 (g := (mkF m 17 #[.val (.ref o0), .val (.ref o1), .val (.int 2)] [(.int 2), (.ref o0)])) rfl rfl (hb hby d23_17) _ ?_
    refine XS.aloadN X0.here hx rfl (hb hby d23_18) rfl rfl ?_
    refine XS.iloadN X0.here hx rfl (hb hby d23_19) rfl ?_
    exact kt
  obtain ⟨cl11, Ar11, -, S11, M11, H11, -⟩ := id V_o1
  have hin11 : ¬ ((2 : Int32) < 0 ∨ cl11.slots.size ≤ ((2 : Int32)).toNatClampNeg) := inb_of S11 ⟨by decide, by decide⟩
  have hat11 : cl11.slots[((2 : Int32)).toNatClampNeg]? = some (.int 113) := Has.at H11 hin11 rfl
  refine own_thr (a := s₁.setTop (mkF m 11 #[.val (.ref o0), .val (.ref o1), .val (.int 3)] [(.ref o0), (.int 3)])) (fun t kt => ?_) ?_
  · show Steps p.tables e below (s₁.setTop (mkF m 20 #[.val (.ref o0), .val (.ref o1), .val (.int 2)] [(.int 2), (.ref o1), (.int 113)])) _
    refine X0.baloadBytes hx (j := (2 : Int32)) (v := (.int 113)) (by rw [e0]; exact Ar11.1) (State.isArrayOf_alike hZ.alike Ar11.2.1) Ar11.2.2 hin11 hat11 (g := (mkF m 20 #[.val (.ref o0), .val (.ref o1), .val (.int 2)] [(.int 2), (.ref o1), (.int 113)])) rfl rfl (hb hby d23_20) _ ?_
    refine XS.icmpYes X0.here hx rfl (pc0 := 21) (pc' := 26) rfl (hb hby d23_21) rfl (teq rfl).1 (by decide) (by decide) ?_
    refine XS.iinc X0.here hx rfl (hb hby d23_26) rfl (l' := #[.val (.ref o0), .val (.ref o1), .val (.int 3)]) rfl ?_
    refine XS.goto X0.here hx rfl (pc0 := 29) (pc' := 9) rfl (hb hby d23_29) (by decide) (by decide) ?_
    refine XS.iloadN X0.here hx rfl (hb hby d23_9) rfl ?_
    refine XS.aloadN X0.here hx rfl (hb hby d23_10) rfl rfl ?_
    exact kt
  obtain ⟨cl12, Ar12, -, S12, M12, -, -⟩ := id V_o0
  refine own_thr (a := s₁.setTop (mkF m 17 #[.val (.ref o0), .val (.ref o1), .val (.int 3)] [(.int 3), (.ref o0)])) (fun t kt => ?_) ?_
  · show Steps p.tables e below (s₁.setTop (mkF m 11 #[.val (.ref o0), .val (.ref o1), .val (.int 3)] [(.ref o0), (.int 3)])) _
    refine X0.arraylength hx (by rw [e0]; exact Ar12.1) (State.isArrayOf_alike hZ.alike Ar12.2.1) (g := (mkF m 11 #[.val (.ref o0), .val (.ref o1), .val (.int 3)] [(.ref o0), (.int 3)])) rfl rfl (hb hby d23_11) _ ?_
    rw [len_of S12 M12]
    refine XS.icmpNo X0.here hx rfl (hb hby d23_12) rfl (tlt (by decide)).2.1 ?_
    refine XS.aloadN X0.here hx rfl (hb hby d23_15) rfl rfl ?_
    refine XS.iloadN X0.here hx rfl (hb hby d23_16) rfl ?_
    exact kt
  obtain ⟨cl13, Ar13, -, S13, M13, H13, -⟩ := id V_o0
  have hin13 : ¬ ((3 : Int32) < 0 ∨ cl13.slots.size ≤ ((3 : Int32)).toNatClampNeg) := inb_of S13 ⟨by decide, by decide⟩
  have hat13 : cl13.slots[((3 : Int32)).toNatClampNeg]? = some (.int 117) := Has.at H13 hin13 rfl
  refine own_thr (a := s₁.setTop (mkF m 20 #[.val (.ref o0), .val (.ref o1), .val (.int 3)] [(.int 3), (.ref o1), (.int 117)])) (fun t kt => ?_) ?_
  · show Steps p.tables e below (s₁.setTop (mkF m 17 #[.val (.ref o0), .val (.ref o1), .val (.int 3)] [(.int 3), (.ref o0)])) _
    refine X0.baloadBytes hx (j := (3 : Int32)) (v := (.int 117)) (by rw [e0]; exact Ar13.1) (State.isArrayOf_alike hZ.alike Ar13.2.1) Ar13.2.2 hin13 hat13 (g := (mkF m 17 #[.val (.ref o0), .val (.ref o1), .val (.int 3)] [(.int 3), (.ref o0)])) rfl rfl (hb hby d23_17) _ ?_
    refine XS.aloadN X0.here hx rfl (hb hby d23_18) rfl rfl ?_
    refine XS.iloadN X0.here hx rfl (hb hby d23_19) rfl ?_
    exact kt
  obtain ⟨cl14, Ar14, -, S14, M14, H14, -⟩ := id V_o1
  have hin14 : ¬ ((3 : Int32) < 0 ∨ cl14.slots.size ≤ ((3 : Int32)).toNatClampNeg) := inb_of S14 ⟨by decide, by decide⟩
  have hat14 : cl14.slots[((3 : Int32)).toNatClampNeg]? = some (.int 117) := Has.at H14 hin14 rfl
  refine own_thr (a := s₁.setTop (mkF m 11 #[.val (.ref o0), .val (.ref o1), .val (.int 4)] [(.ref o0), (.int 4)])) (fun t kt => ?_) ?_
  · show Steps p.tables e below (s₁.setTop (mkF m 20 #[.val (.ref o0), .val (.ref o1), .val (.int 3)] [(.int 3), (.ref o1), (.int 117)])) _
    refine X0.baloadBytes hx (j := (3 : Int32)) (v := (.int 117)) (by rw [e0]; exact Ar14.1) (State.isArrayOf_alike hZ.alike Ar14.2.1) Ar14.2.2 hin14 hat14 (g := (mkF m 20 #[.val (.ref o0), .val (.ref o1), .val (.int 3)] [(.int 3), (.ref o1), (.int 117)])) rfl rfl (hb hby d23_20) _ ?_
    refine XS.icmpYes X0.here hx rfl (pc0 := 21) (pc' := 26) rfl (hb hby d23_21) rfl (teq rfl).1 (by decide) (by decide) ?_
    refine XS.iinc X0.here hx rfl (hb hby d23_26) rfl (l' := #[.val (.ref o0), .val (.ref o1), .val (.int 4)]) rfl ?_
    refine XS.goto X0.here hx rfl (pc0 := 29) (pc' := 9) rfl (hb hby d23_29) (by decide) (by decide) ?_
    refine XS.iloadN X0.here hx rfl (hb hby d23_9) rfl ?_
    refine XS.aloadN X0.here hx rfl (hb hby d23_10) rfl rfl ?_
    exact kt
  obtain ⟨cl15, Ar15, -, S15, M15, -, -⟩ := id V_o0
  refine own_thr (a := s₁.setTop (mkF m 17 #[.val (.ref o0), .val (.ref o1), .val (.int 4)] [(.int 4), (.ref o0)])) (fun t kt => ?_) ?_
  · show Steps p.tables e below (s₁.setTop (mkF m 11 #[.val (.ref o0), .val (.ref o1), .val (.int 4)] [(.ref o0), (.int 4)])) _
    refine X0.arraylength hx (by rw [e0]; exact Ar15.1) (State.isArrayOf_alike hZ.alike Ar15.2.1) (g := (mkF m 11 #[.val (.ref o0), .val (.ref o1), .val (.int 4)] [(.ref o0), (.int 4)])) rfl rfl (hb hby d23_11) _ ?_
    rw [len_of S15 M15]
    refine XS.icmpNo X0.here hx rfl (hb hby d23_12) rfl (tlt (by decide)).2.1 ?_
    refine XS.aloadN X0.here hx rfl (hb hby d23_15) rfl rfl ?_
    refine XS.iloadN X0.here hx rfl (hb hby d23_16) rfl ?_
    exact kt
  obtain ⟨cl16, Ar16, -, S16, M16, H16, -⟩ := id V_o0
  have hin16 : ¬ ((4 : Int32) < 0 ∨ cl16.slots.size ≤ ((4 : Int32)).toNatClampNeg) := inb_of S16 ⟨by decide, by decide⟩
  have hat16 : cl16.slots[((4 : Int32)).toNatClampNeg]? = some (.int 101) := Has.at H16 hin16 rfl
  refine own_thr (a := s₁.setTop (mkF m 20 #[.val (.ref o0), .val (.ref o1), .val (.int 4)] [(.int 4), (.ref o1), (.int 101)])) (fun t kt => ?_) ?_
  · show Steps p.tables e below (s₁.setTop (mkF m 17 #[.val (.ref o0), .val (.ref o1), .val (.int 4)] [(.int 4), (.ref o0)])) _
    refine X0.baloadBytes hx (j := (4 : Int32)) (v := (.int 101)) (by rw [e0]; exact Ar16.1) (State.isArrayOf_alike hZ.alike Ar16.2.1) Ar16.2.2 hin16 hat16 (g := (mkF m 17 #[.val (.ref o0), .val (.ref o1), .val (.int 4)] [(.int 4), (.ref o0)])) rfl rfl (hb hby d23_17) _ ?_
    refine XS.aloadN X0.here hx rfl (hb hby d23_18) rfl rfl ?_
    refine XS.iloadN X0.here hx rfl (hb hby d23_19) rfl ?_
    exact kt
  obtain ⟨cl17, Ar17, -, S17, M17, H17, -⟩ := id V_o1
  have hin17 : ¬ ((4 : Int32) < 0 ∨ cl17.slots.size ≤ ((4 : Int32)).toNatClampNeg) := inb_of S17 ⟨by decide, by decide⟩
  have hat17 : cl17.slots[((4 : Int32)).toNatClampNeg]? = some (.int 101) := Has.at H17 hin17 rfl
  refine own_thr (a := s₁.setTop (mkF m 11 #[.val (.ref o0), .val (.ref o1), .val (.int 5)] [(.ref o0), (.int 5)])) (fun t kt => ?_) ?_
  · show Steps p.tables e below (s₁.setTop (mkF m 20 #[.val (.ref o0), .val (.ref o1), .val (.int 4)] [(.int 4), (.ref o1), (.int 101)])) _
    refine X0.baloadBytes hx (j := (4 : Int32)) (v := (.int 101)) (by rw [e0]; exact Ar17.1) (State.isArrayOf_alike hZ.alike Ar17.2.1) Ar17.2.2 hin17 hat17 (g := (mkF m 20 #[.val (.ref o0), .val (.ref o1), .val (.int 4)] [(.int 4), (.ref o1), (.int 101)])) rfl rfl (hb hby d23_20) _ ?_
    refine XS.icmpYes X0.here hx rfl (pc0 := 21) (pc' := 26) rfl (hb hby d23_21) rfl (teq rfl).1 (by decide) (by decide) ?_
    refine XS.iinc X0.here hx rfl (hb hby d23_26) rfl (l' := #[.val (.ref o0), .val (.ref o1), .val (.int 5)]) rfl ?_
    refine XS.goto X0.here hx rfl (pc0 := 29) (pc' := 9) rfl (hb hby d23_29) (by decide) (by decide) ?_
    refine XS.iloadN X0.here hx rfl (hb hby d23_9) rfl ?_
    refine XS.aloadN X0.here hx rfl (hb hby d23_10) rfl rfl ?_
    exact kt
  obtain ⟨cl18, Ar18, -, S18, M18, -, -⟩ := id V_o0
  refine own_thr (a := s₁.setTop (mkF m 17 #[.val (.ref o0), .val (.ref o1), .val (.int 5)] [(.int 5), (.ref o0)])) (fun t kt => ?_) ?_
  · show Steps p.tables e below (s₁.setTop (mkF m 11 #[.val (.ref o0), .val (.ref o1), .val (.int 5)] [(.ref o0), (.int 5)])) _
    refine X0.arraylength hx (by rw [e0]; exact Ar18.1) (State.isArrayOf_alike hZ.alike Ar18.2.1) (g := (mkF m 11 #[.val (.ref o0), .val (.ref o1), .val (.int 5)] [(.ref o0), (.int 5)])) rfl rfl (hb hby d23_11) _ ?_
    rw [len_of S18 M18]
    refine XS.icmpNo X0.here hx rfl (hb hby d23_12) rfl (tlt (by decide)).2.1 ?_
    refine XS.aloadN X0.here hx rfl (hb hby d23_15) rfl rfl ?_
    refine XS.iloadN X0.here hx rfl (hb hby d23_16) rfl ?_
    exact kt
  obtain ⟨cl19, Ar19, -, S19, M19, H19, -⟩ := id V_o0
  have hin19 : ¬ ((5 : Int32) < 0 ∨ cl19.slots.size ≤ ((5 : Int32)).toNatClampNeg) := inb_of S19 ⟨by decide, by decide⟩
  have hat19 : cl19.slots[((5 : Int32)).toNatClampNeg]? = some (.int 117) := Has.at H19 hin19 rfl
  refine own_thr (a := s₁.setTop (mkF m 20 #[.val (.ref o0), .val (.ref o1), .val (.int 5)] [(.int 5), (.ref o1), (.int 117)])) (fun t kt => ?_) ?_
  · show Steps p.tables e below (s₁.setTop (mkF m 17 #[.val (.ref o0), .val (.ref o1), .val (.int 5)] [(.int 5), (.ref o0)])) _
    refine X0.baloadBytes hx (j := (5 : Int32)) (v := (.int 117)) (by rw [e0]; exact Ar19.1) (State.isArrayOf_alike hZ.alike Ar19.2.1) Ar19.2.2 hin19 hat19 (g := (mkF m 17 #[.val (.ref o0), .val (.ref o1), .val (.int 5)] [(.int 5), (.ref o0)])) rfl rfl (hb hby d23_17) _ ?_
    refine XS.aloadN X0.here hx rfl (hb hby d23_18) rfl rfl ?_
    refine XS.iloadN X0.here hx rfl (hb hby d23_19) rfl ?_
    exact kt
  obtain ⟨cl20, Ar20, -, S20, M20, H20, -⟩ := id V_o1
  have hin20 : ¬ ((5 : Int32) < 0 ∨ cl20.slots.size ≤ ((5 : Int32)).toNatClampNeg) := inb_of S20 ⟨by decide, by decide⟩
  have hat20 : cl20.slots[((5 : Int32)).toNatClampNeg]? = some (.int 117) := Has.at H20 hin20 rfl
  refine own_thr (a := s₁.setTop (mkF m 11 #[.val (.ref o0), .val (.ref o1), .val (.int 6)] [(.ref o0), (.int 6)])) (fun t kt => ?_) ?_
  · show Steps p.tables e below (s₁.setTop (mkF m 20 #[.val (.ref o0), .val (.ref o1), .val (.int 5)] [(.int 5), (.ref o1), (.int 117)])) _
    refine X0.baloadBytes hx (j := (5 : Int32)) (v := (.int 117)) (by rw [e0]; exact Ar20.1) (State.isArrayOf_alike hZ.alike Ar20.2.1) Ar20.2.2 hin20 hat20 (g := (mkF m 20 #[.val (.ref o0), .val (.ref o1), .val (.int 5)] [(.int 5), (.ref o1), (.int 117)])) rfl rfl (hb hby d23_20) _ ?_
    refine XS.icmpYes X0.here hx rfl (pc0 := 21) (pc' := 26) rfl (hb hby d23_21) rfl (teq rfl).1 (by decide) (by decide) ?_
    refine XS.iinc X0.here hx rfl (hb hby d23_26) rfl (l' := #[.val (.ref o0), .val (.ref o1), .val (.int 6)]) rfl ?_
    refine XS.goto X0.here hx rfl (pc0 := 29) (pc' := 9) rfl (hb hby d23_29) (by decide) (by decide) ?_
    refine XS.iloadN X0.here hx rfl (hb hby d23_9) rfl ?_
    refine XS.aloadN X0.here hx rfl (hb hby d23_10) rfl rfl ?_
    exact kt
  obtain ⟨cl21, Ar21, -, S21, M21, -, -⟩ := id V_o0
  refine own_thr (a := s₁.setTop (mkF m 17 #[.val (.ref o0), .val (.ref o1), .val (.int 6)] [(.int 6), (.ref o0)])) (fun t kt => ?_) ?_
  · show Steps p.tables e below (s₁.setTop (mkF m 11 #[.val (.ref o0), .val (.ref o1), .val (.int 6)] [(.ref o0), (.int 6)])) _
    refine X0.arraylength hx (by rw [e0]; exact Ar21.1) (State.isArrayOf_alike hZ.alike Ar21.2.1) (g := (mkF m 11 #[.val (.ref o0), .val (.ref o1), .val (.int 6)] [(.ref o0), (.int 6)])) rfl rfl (hb hby d23_11) _ ?_
    rw [len_of S21 M21]
    refine XS.icmpNo X0.here hx rfl (hb hby d23_12) rfl (tlt (by decide)).2.1 ?_
    refine XS.aloadN X0.here hx rfl (hb hby d23_15) rfl rfl ?_
    refine XS.iloadN X0.here hx rfl (hb hby d23_16) rfl ?_
    exact kt
  obtain ⟨cl22, Ar22, -, S22, M22, H22, -⟩ := id V_o0
  have hin22 : ¬ ((6 : Int32) < 0 ∨ cl22.slots.size ≤ ((6 : Int32)).toNatClampNeg) := inb_of S22 ⟨by decide, by decide⟩
  have hat22 : cl22.slots[((6 : Int32)).toNatClampNeg]? = some (.int 101) := Has.at H22 hin22 rfl
  refine own_thr (a := s₁.setTop (mkF m 20 #[.val (.ref o0), .val (.ref o1), .val (.int 6)] [(.int 6), (.ref o1), (.int 101)])) (fun t kt => ?_) ?_
  · show Steps p.tables e below (s₁.setTop (mkF m 17 #[.val (.ref o0), .val (.ref o1), .val (.int 6)] [(.int 6), (.ref o0)])) _
    refine X0.baloadBytes hx (j := (6 : Int32)) (v := (.int 101)) (by rw [e0]; exact Ar22.1) (State.isArrayOf_alike hZ.alike Ar22.2.1) Ar22.2.2 hin22 hat22 (g := (mkF m 17 #[.val (.ref o0), .val (.ref o1), .val (.int 6)] [(.int 6), (.ref o0)])) rfl rfl (hb hby d23_17) _ ?_
    refine XS.aloadN X0.here hx rfl (hb hby d23_18) rfl rfl ?_
    refine XS.iloadN X0.here hx rfl (hb hby d23_19) rfl ?_
    exact kt
  obtain ⟨cl23, Ar23, -, S23, M23, H23, -⟩ := id V_o1
  have hin23 : ¬ ((6 : Int32) < 0 ∨ cl23.slots.size ≤ ((6 : Int32)).toNatClampNeg) := inb_of S23 ⟨by decide, by decide⟩
  have hat23 : cl23.slots[((6 : Int32)).toNatClampNeg]? = some (.int 101) := Has.at H23 hin23 rfl
  refine own_thr (a := s₁.setTop (mkF m 11 #[.val (.ref o0), .val (.ref o1), .val (.int 7)] [(.ref o0), (.int 7)])) (fun t kt => ?_) ?_
  · show Steps p.tables e below (s₁.setTop (mkF m 20 #[.val (.ref o0), .val (.ref o1), .val (.int 6)] [(.int 6), (.ref o1), (.int 101)])) _
    refine X0.baloadBytes hx (j := (6 : Int32)) (v := (.int 101)) (by rw [e0]; exact Ar23.1) (State.isArrayOf_alike hZ.alike Ar23.2.1) Ar23.2.2 hin23 hat23 (g := (mkF m 20 #[.val (.ref o0), .val (.ref o1), .val (.int 6)] [(.int 6), (.ref o1), (.int 101)])) rfl rfl (hb hby d23_20) _ ?_
    refine XS.icmpYes X0.here hx rfl (pc0 := 21) (pc' := 26) rfl (hb hby d23_21) rfl (teq rfl).1 (by decide) (by decide) ?_
    refine XS.iinc X0.here hx rfl (hb hby d23_26) rfl (l' := #[.val (.ref o0), .val (.ref o1), .val (.int 7)]) rfl ?_
    refine XS.goto X0.here hx rfl (pc0 := 29) (pc' := 9) rfl (hb hby d23_29) (by decide) (by decide) ?_
    refine XS.iloadN X0.here hx rfl (hb hby d23_9) rfl ?_
    refine XS.aloadN X0.here hx rfl (hb hby d23_10) rfl rfl ?_
    exact kt
  obtain ⟨cl24, Ar24, -, S24, M24, -, -⟩ := id V_o0
  refine own_thr (a := s₁.setTop (mkF m 17 #[.val (.ref o0), .val (.ref o1), .val (.int 7)] [(.int 7), (.ref o0)])) (fun t kt => ?_) ?_
  · show Steps p.tables e below (s₁.setTop (mkF m 11 #[.val (.ref o0), .val (.ref o1), .val (.int 7)] [(.ref o0), (.int 7)])) _
    refine X0.arraylength hx (by rw [e0]; exact Ar24.1) (State.isArrayOf_alike hZ.alike Ar24.2.1) (g := (mkF m 11 #[.val (.ref o0), .val (.ref o1), .val (.int 7)] [(.ref o0), (.int 7)])) rfl rfl (hb hby d23_11) _ ?_
    rw [len_of S24 M24]
    refine XS.icmpNo X0.here hx rfl (hb hby d23_12) rfl (tlt (by decide)).2.1 ?_
    refine XS.aloadN X0.here hx rfl (hb hby d23_15) rfl rfl ?_
    refine XS.iloadN X0.here hx rfl (hb hby d23_16) rfl ?_
    exact kt
  obtain ⟨cl25, Ar25, -, S25, M25, H25, -⟩ := id V_o0
  have hin25 : ¬ ((7 : Int32) < 0 ∨ cl25.slots.size ≤ ((7 : Int32)).toNatClampNeg) := inb_of S25 ⟨by decide, by decide⟩
  have hat25 : cl25.slots[((7 : Int32)).toNatClampNeg]? = some (.int 32) := Has.at H25 hin25 rfl
  refine own_thr (a := s₁.setTop (mkF m 20 #[.val (.ref o0), .val (.ref o1), .val (.int 7)] [(.int 7), (.ref o1), (.int 32)])) (fun t kt => ?_) ?_
  · show Steps p.tables e below (s₁.setTop (mkF m 17 #[.val (.ref o0), .val (.ref o1), .val (.int 7)] [(.int 7), (.ref o0)])) _
    refine X0.baloadBytes hx (j := (7 : Int32)) (v := (.int 32)) (by rw [e0]; exact Ar25.1) (State.isArrayOf_alike hZ.alike Ar25.2.1) Ar25.2.2 hin25 hat25 (g := (mkF m 17 #[.val (.ref o0), .val (.ref o1), .val (.int 7)] [(.int 7), (.ref o0)])) rfl rfl (hb hby d23_17) _ ?_
    refine XS.aloadN X0.here hx rfl (hb hby d23_18) rfl rfl ?_
    refine XS.iloadN X0.here hx rfl (hb hby d23_19) rfl ?_
    exact kt
  obtain ⟨cl26, Ar26, -, S26, M26, H26, -⟩ := id V_o1
  have hin26 : ¬ ((7 : Int32) < 0 ∨ cl26.slots.size ≤ ((7 : Int32)).toNatClampNeg) := inb_of S26 ⟨by decide, by decide⟩
  have hat26 : cl26.slots[((7 : Int32)).toNatClampNeg]? = some (.int 32) := Has.at H26 hin26 rfl
  refine own_thr (a := s₁.setTop (mkF m 11 #[.val (.ref o0), .val (.ref o1), .val (.int 8)] [(.ref o0), (.int 8)])) (fun t kt => ?_) ?_
  · show Steps p.tables e below (s₁.setTop (mkF m 20 #[.val (.ref o0), .val (.ref o1), .val (.int 7)] [(.int 7), (.ref o1), (.int 32)])) _
    refine X0.baloadBytes hx (j := (7 : Int32)) (v := (.int 32)) (by rw [e0]; exact Ar26.1) (State.isArrayOf_alike hZ.alike Ar26.2.1) Ar26.2.2 hin26 hat26 (g := (mkF m 20 #[.val (.ref o0), .val (.ref o1), .val (.int 7)] [(.int 7), (.ref o1), (.int 32)])) rfl rfl (hb hby d23_20) _ ?_
    refine XS.icmpYes X0.here hx rfl (pc0 := 21) (pc' := 26) rfl (hb hby d23_21) rfl (teq rfl).1 (by decide) (by decide) ?_
    refine XS.iinc X0.here hx rfl (hb hby d23_26) rfl (l' := #[.val (.ref o0), .val (.ref o1), .val (.int 8)]) rfl ?_
    refine XS.goto X0.here hx rfl (pc0 := 29) (pc' := 9) rfl (hb hby d23_29) (by decide) (by decide) ?_
    refine XS.iloadN X0.here hx rfl (hb hby d23_9) rfl ?_
    refine XS.aloadN X0.here hx rfl (hb hby d23_10) rfl rfl ?_
    exact kt
  obtain ⟨cl27, Ar27, -, S27, M27, -, -⟩ := id V_o0
  refine own_thr (a := s₁.setTop (mkF m 17 #[.val (.ref o0), .val (.ref o1), .val (.int 8)] [(.int 8), (.ref o0)])) (fun t kt => ?_) ?_
  · show Steps p.tables e below (s₁.setTop (mkF m 11 #[.val (.ref o0), .val (.ref o1), .val (.int 8)] [(.ref o0), (.int 8)])) _
    refine X0.arraylength hx (by rw [e0]; exact Ar27.1) (State.isArrayOf_alike hZ.alike Ar27.2.1) (g := (mkF m 11 #[.val (.ref o0), .val (.ref o1), .val (.int 8)] [(.ref o0), (.int 8)])) rfl rfl (hb hby d23_11) _ ?_
    rw [len_of S27 M27]
    refine XS.icmpNo X0.here hx rfl (hb hby d23_12) rfl (tlt (by decide)).2.1 ?_
    refine XS.aloadN X0.here hx rfl (hb hby d23_15) rfl rfl ?_
    refine XS.iloadN X0.here hx rfl (hb hby d23_16) rfl ?_
    exact kt
  obtain ⟨cl28, Ar28, -, S28, M28, H28, -⟩ := id V_o0
  have hin28 : ¬ ((8 : Int32) < 0 ∨ cl28.slots.size ≤ ((8 : Int32)).toNatClampNeg) := inb_of S28 ⟨by decide, by decide⟩
  have hat28 : cl28.slots[((8 : Int32)).toNatClampNeg]? = some (.int 60) := Has.at H28 hin28 rfl
  refine own_thr (a := s₁.setTop (mkF m 20 #[.val (.ref o0), .val (.ref o1), .val (.int 8)] [(.int 8), (.ref o1), (.int 60)])) (fun t kt => ?_) ?_
  · show Steps p.tables e below (s₁.setTop (mkF m 17 #[.val (.ref o0), .val (.ref o1), .val (.int 8)] [(.int 8), (.ref o0)])) _
    refine X0.baloadBytes hx (j := (8 : Int32)) (v := (.int 60)) (by rw [e0]; exact Ar28.1) (State.isArrayOf_alike hZ.alike Ar28.2.1) Ar28.2.2 hin28 hat28 (g := (mkF m 17 #[.val (.ref o0), .val (.ref o1), .val (.int 8)] [(.int 8), (.ref o0)])) rfl rfl (hb hby d23_17) _ ?_
    refine XS.aloadN X0.here hx rfl (hb hby d23_18) rfl rfl ?_
    refine XS.iloadN X0.here hx rfl (hb hby d23_19) rfl ?_
    exact kt
  obtain ⟨cl29, Ar29, -, S29, M29, H29, -⟩ := id V_o1
  have hin29 : ¬ ((8 : Int32) < 0 ∨ cl29.slots.size ≤ ((8 : Int32)).toNatClampNeg) := inb_of S29 ⟨by decide, by decide⟩
  have hat29 : cl29.slots[((8 : Int32)).toNatClampNeg]? = some (.int 60) := Has.at H29 hin29 rfl
  refine own_thr (a := s₁.setTop (mkF m 11 #[.val (.ref o0), .val (.ref o1), .val (.int 9)] [(.ref o0), (.int 9)])) (fun t kt => ?_) ?_
  · show Steps p.tables e below (s₁.setTop (mkF m 20 #[.val (.ref o0), .val (.ref o1), .val (.int 8)] [(.int 8), (.ref o1), (.int 60)])) _
    refine X0.baloadBytes hx (j := (8 : Int32)) (v := (.int 60)) (by rw [e0]; exact Ar29.1) (State.isArrayOf_alike hZ.alike Ar29.2.1) Ar29.2.2 hin29 hat29 (g := (mkF m 20 #[.val (.ref o0), .val (.ref o1), .val (.int 8)] [(.int 8), (.ref o1), (.int 60)])) rfl rfl (hb hby d23_20) _ ?_
    refine XS.icmpYes X0.here hx rfl (pc0 := 21) (pc' := 26) rfl (hb hby d23_21) rfl (teq rfl).1 (by decide) (by decide) ?_
    refine XS.iinc X0.here hx rfl (hb hby d23_26) rfl (l' := #[.val (.ref o0), .val (.ref o1), .val (.int 9)]) rfl ?_
    refine XS.goto X0.here hx rfl (pc0 := 29) (pc' := 9) rfl (hb hby d23_29) (by decide) (by decide) ?_
    refine XS.iloadN X0.here hx rfl (hb hby d23_9) rfl ?_
    refine XS.aloadN X0.here hx rfl (hb hby d23_10) rfl rfl ?_
    exact kt
  obtain ⟨cl30, Ar30, -, S30, M30, -, -⟩ := id V_o0
  refine own_thr (a := s₁.setTop (mkF m 17 #[.val (.ref o0), .val (.ref o1), .val (.int 9)] [(.int 9), (.ref o0)])) (fun t kt => ?_) ?_
  · show Steps p.tables e below (s₁.setTop (mkF m 11 #[.val (.ref o0), .val (.ref o1), .val (.int 9)] [(.ref o0), (.int 9)])) _
    refine X0.arraylength hx (by rw [e0]; exact Ar30.1) (State.isArrayOf_alike hZ.alike Ar30.2.1) (g := (mkF m 11 #[.val (.ref o0), .val (.ref o1), .val (.int 9)] [(.ref o0), (.int 9)])) rfl rfl (hb hby d23_11) _ ?_
    rw [len_of S30 M30]
    refine XS.icmpNo X0.here hx rfl (hb hby d23_12) rfl (tlt (by decide)).2.1 ?_
    refine XS.aloadN X0.here hx rfl (hb hby d23_15) rfl rfl ?_
    refine XS.iloadN X0.here hx rfl (hb hby d23_16) rfl ?_
    exact kt
  obtain ⟨cl31, Ar31, -, S31, M31, H31, -⟩ := id V_o0
  have hin31 : ¬ ((9 : Int32) < 0 ∨ cl31.slots.size ≤ ((9 : Int32)).toNatClampNeg) := inb_of S31 ⟨by decide, by decide⟩
  have hat31 : cl31.slots[((9 : Int32)).toNatClampNeg]? = some (.int 110) := Has.at H31 hin31 rfl
  refine own_thr (a := s₁.setTop (mkF m 20 #[.val (.ref o0), .val (.ref o1), .val (.int 9)] [(.int 9), (.ref o1), (.int 110)])) (fun t kt => ?_) ?_
  · show Steps p.tables e below (s₁.setTop (mkF m 17 #[.val (.ref o0), .val (.ref o1), .val (.int 9)] [(.int 9), (.ref o0)])) _
    refine X0.baloadBytes hx (j := (9 : Int32)) (v := (.int 110)) (by rw [e0]; exact Ar31.1) (State.isArrayOf_alike hZ.alike Ar31.2.1) Ar31.2.2 hin31 hat31 (g := (mkF m 17 #[.val (.ref o0), .val (.ref o1), .val (.int 9)] [(.int 9), (.ref o0)])) rfl rfl (hb hby d23_17) _ ?_
    refine XS.aloadN X0.here hx rfl (hb hby d23_18) rfl rfl ?_
    refine XS.iloadN X0.here hx rfl (hb hby d23_19) rfl ?_
    exact kt
  obtain ⟨cl32, Ar32, -, S32, M32, H32, -⟩ := id V_o1
  have hin32 : ¬ ((9 : Int32) < 0 ∨ cl32.slots.size ≤ ((9 : Int32)).toNatClampNeg) := inb_of S32 ⟨by decide, by decide⟩
  have hat32 : cl32.slots[((9 : Int32)).toNatClampNeg]? = some (.int 110) := Has.at H32 hin32 rfl
  refine own_thr (a := s₁.setTop (mkF m 11 #[.val (.ref o0), .val (.ref o1), .val (.int 10)] [(.ref o0), (.int 10)])) (fun t kt => ?_) ?_
  · show Steps p.tables e below (s₁.setTop (mkF m 20 #[.val (.ref o0), .val (.ref o1), .val (.int 9)] [(.int 9), (.ref o1), (.int 110)])) _
    refine X0.baloadBytes hx (j := (9 : Int32)) (v := (.int 110)) (by rw [e0]; exact Ar32.1) (State.isArrayOf_alike hZ.alike Ar32.2.1) Ar32.2.2 hin32 hat32 (g := (mkF m 20 #[.val (.ref o0), .val (.ref o1), .val (.int 9)] [(.int 9), (.ref o1), (.int 110)])) rfl rfl (hb hby d23_20) _ ?_
    refine XS.icmpYes X0.here hx rfl (pc0 := 21) (pc' := 26) rfl (hb hby d23_21) rfl (teq rfl).1 (by decide) (by decide) ?_
    refine XS.iinc X0.here hx rfl (hb hby d23_26) rfl (l' := #[.val (.ref o0), .val (.ref o1), .val (.int 10)]) rfl ?_
    refine XS.goto X0.here hx rfl (pc0 := 29) (pc' := 9) rfl (hb hby d23_29) (by decide) (by decide) ?_
    refine XS.iloadN X0.here hx rfl (hb hby d23_9) rfl ?_
    refine XS.aloadN X0.here hx rfl (hb hby d23_10) rfl rfl ?_
    exact kt
  obtain ⟨cl33, Ar33, -, S33, M33, -, -⟩ := id V_o0
  refine own_thr (a := s₁.setTop (mkF m 17 #[.val (.ref o0), .val (.ref o1), .val (.int 10)] [(.int 10), (.ref o0)])) (fun t kt => ?_) ?_
  · show Steps p.tables e below (s₁.setTop (mkF m 11 #[.val (.ref o0), .val (.ref o1), .val (.int 10)] [(.ref o0), (.int 10)])) _
    refine X0.arraylength hx (by rw [e0]; exact Ar33.1) (State.isArrayOf_alike hZ.alike Ar33.2.1) (g := (mkF m 11 #[.val (.ref o0), .val (.ref o1), .val (.int 10)] [(.ref o0), (.int 10)])) rfl rfl (hb hby d23_11) _ ?_
    rw [len_of S33 M33]
    refine XS.icmpNo X0.here hx rfl (hb hby d23_12) rfl (tlt (by decide)).2.1 ?_
    refine XS.aloadN X0.here hx rfl (hb hby d23_15) rfl rfl ?_
    refine XS.iloadN X0.here hx rfl (hb hby d23_16) rfl ?_
    exact kt
  obtain ⟨cl34, Ar34, -, S34, M34, H34, -⟩ := id V_o0
  have hin34 : ¬ ((10 : Int32) < 0 ∨ cl34.slots.size ≤ ((10 : Int32)).toNatClampNeg) := inb_of S34 ⟨by decide, by decide⟩
  have hat34 : cl34.slots[((10 : Int32)).toNatClampNeg]? = some (.int 97) := Has.at H34 hin34 rfl
  refine own_thr (a := s₁.setTop (mkF m 20 #[.val (.ref o0), .val (.ref o1), .val (.int 10)] [(.int 10), (.ref o1), (.int 97)])) (fun t kt => ?_) ?_
  · show Steps p.tables e below (s₁.setTop (mkF m 17 #[.val (.ref o0), .val (.ref o1), .val (.int 10)] [(.int 10), (.ref o0)])) _
    refine X0.baloadBytes hx (j := (10 : Int32)) (v := (.int 97)) (by rw [e0]; exact Ar34.1) (State.isArrayOf_alike hZ.alike Ar34.2.1) Ar34.2.2 hin34 hat34 (g := (mkF m 17 #[.val (.ref o0), .val (.ref o1), .val (.int 10)] [(.int 10), (.ref o0)])) rfl rfl (hb hby d23_17) _ ?_
    refine XS.aloadN X0.here hx rfl (hb hby d23_18) rfl rfl ?_
    refine XS.iloadN X0.here hx rfl (hb hby d23_19) rfl ?_
    exact kt
  obtain ⟨cl35, Ar35, -, S35, M35, H35, -⟩ := id V_o1
  have hin35 : ¬ ((10 : Int32) < 0 ∨ cl35.slots.size ≤ ((10 : Int32)).toNatClampNeg) := inb_of S35 ⟨by decide, by decide⟩
  have hat35 : cl35.slots[((10 : Int32)).toNatClampNeg]? = some (.int 97) := Has.at H35 hin35 rfl
  refine own_thr (a := s₁.setTop (mkF m 11 #[.val (.ref o0), .val (.ref o1), .val (.int 11)] [(.ref o0), (.int 11)])) (fun t kt => ?_) ?_
  · show Steps p.tables e below (s₁.setTop (mkF m 20 #[.val (.ref o0), .val (.ref o1), .val (.int 10)] [(.int 10), (.ref o1), (.int 97)])) _
    refine X0.baloadBytes hx (j := (10 : Int32)) (v := (.int 97)) (by rw [e0]; exact Ar35.1) (State.isArrayOf_alike hZ.alike Ar35.2.1) Ar35.2.2 hin35 hat35 (g := (mkF m 20 #[.val (.ref o0), .val (.ref o1), .val (.int 10)] [(.int 10), (.ref o1), (.int 97)])) rfl rfl (hb hby d23_20) _ ?_
    refine XS.icmpYes X0.here hx rfl (pc0 := 21) (pc' := 26) rfl (hb hby d23_21) rfl (teq rfl).1 (by decide) (by decide) ?_
    refine XS.iinc X0.here hx rfl (hb hby d23_26) rfl (l' := #[.val (.ref o0), .val (.ref o1), .val (.int 11)]) rfl ?_
    refine XS.goto X0.here hx rfl (pc0 := 29) (pc' := 9) rfl (hb hby d23_29) (by decide) (by decide) ?_
    refine XS.iloadN X0.here hx rfl (hb hby d23_9) rfl ?_
    refine XS.aloadN X0.here hx rfl (hb hby d23_10) rfl rfl ?_
    exact kt
  obtain ⟨cl36, Ar36, -, S36, M36, -, -⟩ := id V_o0
  refine own_thr (a := s₁.setTop (mkF m 17 #[.val (.ref o0), .val (.ref o1), .val (.int 11)] [(.int 11), (.ref o0)])) (fun t kt => ?_) ?_
  · show Steps p.tables e below (s₁.setTop (mkF m 11 #[.val (.ref o0), .val (.ref o1), .val (.int 11)] [(.ref o0), (.int 11)])) _
    refine X0.arraylength hx (by rw [e0]; exact Ar36.1) (State.isArrayOf_alike hZ.alike Ar36.2.1) (g := (mkF m 11 #[.val (.ref o0), .val (.ref o1), .val (.int 11)] [(.ref o0), (.int 11)])) rfl rfl (hb hby d23_11) _ ?_
    rw [len_of S36 M36]
    refine XS.icmpNo X0.here hx rfl (hb hby d23_12) rfl (tlt (by decide)).2.1 ?_
    refine XS.aloadN X0.here hx rfl (hb hby d23_15) rfl rfl ?_
    refine XS.iloadN X0.here hx rfl (hb hby d23_16) rfl ?_
    exact kt
  obtain ⟨cl37, Ar37, -, S37, M37, H37, -⟩ := id V_o0
  have hin37 : ¬ ((11 : Int32) < 0 ∨ cl37.slots.size ≤ ((11 : Int32)).toNatClampNeg) := inb_of S37 ⟨by decide, by decide⟩
  have hat37 : cl37.slots[((11 : Int32)).toNatClampNeg]? = some (.int 109) := Has.at H37 hin37 rfl
  refine own_thr (a := s₁.setTop (mkF m 20 #[.val (.ref o0), .val (.ref o1), .val (.int 11)] [(.int 11), (.ref o1), (.int 109)])) (fun t kt => ?_) ?_
  · show Steps p.tables e below (s₁.setTop (mkF m 17 #[.val (.ref o0), .val (.ref o1), .val (.int 11)] [(.int 11), (.ref o0)])) _
    refine X0.baloadBytes hx (j := (11 : Int32)) (v := (.int 109)) (by rw [e0]; exact Ar37.1) (State.isArrayOf_alike hZ.alike Ar37.2.1) Ar37.2.2 hin37 hat37 (g := (mkF m 17 #[.val (.ref o0), .val (.ref o1), .val (.int 11)] [(.int 11), (.ref o0)])) rfl rfl (hb hby d23_17) _ ?_
    refine XS.aloadN X0.here hx rfl (hb hby d23_18) rfl rfl ?_
    refine XS.iloadN X0.here hx rfl (hb hby d23_19) rfl ?_
    exact kt
  obtain ⟨cl38, Ar38, -, S38, M38, H38, -⟩ := id V_o1
  have hin38 : ¬ ((11 : Int32) < 0 ∨ cl38.slots.size ≤ ((11 : Int32)).toNatClampNeg) := inb_of S38 ⟨by decide, by decide⟩
  have hat38 : cl38.slots[((11 : Int32)).toNatClampNeg]? = some (.int 109) := Has.at H38 hin38 rfl
  refine own_thr (a := s₁.setTop (mkF m 11 #[.val (.ref o0), .val (.ref o1), .val (.int 12)] [(.ref o0), (.int 12)])) (fun t kt => ?_) ?_
  · show Steps p.tables e below (s₁.setTop (mkF m 20 #[.val (.ref o0), .val (.ref o1), .val (.int 11)] [(.int 11), (.ref o1), (.int 109)])) _
    refine X0.baloadBytes hx (j := (11 : Int32)) (v := (.int 109)) (by rw [e0]; exact Ar38.1) (State.isArrayOf_alike hZ.alike Ar38.2.1) Ar38.2.2 hin38 hat38 (g := (mkF m 20 #[.val (.ref o0), .val (.ref o1), .val (.int 11)] [(.int 11), (.ref o1), (.int 109)])) rfl rfl (hb hby d23_20) _ ?_
    refine XS.icmpYes X0.here hx rfl (pc0 := 21) (pc' := 26) rfl (hb hby d23_21) rfl (teq rfl).1 (by decide) (by decide) ?_
    refine XS.iinc X0.here hx rfl (hb hby d23_26) rfl (l' := #[.val (.ref o0), .val (.ref o1), .val (.int 12)]) rfl ?_
    refine XS.goto X0.here hx rfl (pc0 := 29) (pc' := 9) rfl (hb hby d23_29) (by decide) (by decide) ?_
    refine XS.iloadN X0.here hx rfl (hb hby d23_9) rfl ?_
    refine XS.aloadN X0.here hx rfl (hb hby d23_10) rfl rfl ?_
    exact kt
  obtain ⟨cl39, Ar39, -, S39, M39, -, -⟩ := id V_o0
  refine own_thr (a := s₁.setTop (mkF m 17 #[.val (.ref o0), .val (.ref o1), .val (.int 12)] [(.int 12), (.ref o0)])) (fun t kt => ?_) ?_
  · show Steps p.tables e below (s₁.setTop (mkF m 11 #[.val (.ref o0), .val (.ref o1), .val (.int 12)] [(.ref o0), (.int 12)])) _
    refine X0.arraylength hx (by rw [e0]; exact Ar39.1) (State.isArrayOf_alike hZ.alike Ar39.2.1) (g := (mkF m 11 #[.val (.ref o0), .val (.ref o1), .val (.int 12)] [(.ref o0), (.int 12)])) rfl rfl (hb hby d23_11) _ ?_
    rw [len_of S39 M39]
    refine XS.icmpNo X0.here hx rfl (hb hby d23_12) rfl (tlt (by decide)).2.1 ?_
    refine XS.aloadN X0.here hx rfl (hb hby d23_15) rfl rfl ?_
    refine XS.iloadN X0.here hx rfl (hb hby d23_16) rfl ?_
    exact kt
  obtain ⟨cl40, Ar40, -, S40, M40, H40, -⟩ := id V_o0
  have hin40 : ¬ ((12 : Int32) < 0 ∨ cl40.slots.size ≤ ((12 : Int32)).toNatClampNeg) := inb_of S40 ⟨by decide, by decide⟩
  have hat40 : cl40.slots[((12 : Int32)).toNatClampNeg]? = some (.int 101) := Has.at H40 hin40 rfl
  refine own_thr (a := s₁.setTop (mkF m 20 #[.val (.ref o0), .val (.ref o1), .val (.int 12)] [(.int 12), (.ref o1), (.int 101)])) (fun t kt => ?_) ?_
  · show Steps p.tables e below (s₁.setTop (mkF m 17 #[.val (.ref o0), .val (.ref o1), .val (.int 12)] [(.int 12), (.ref o0)])) _
    refine X0.baloadBytes hx (j := (12 : Int32)) (v := (.int 101)) (by rw [e0]; exact Ar40.1) (State.isArrayOf_alike hZ.alike Ar40.2.1) Ar40.2.2 hin40 hat40 (g := (mkF m 17 #[.val (.ref o0), .val (.ref o1), .val (.int 12)] [(.int 12), (.ref o0)])) rfl rfl (hb hby d23_17) _ ?_
    refine XS.aloadN X0.here hx rfl (hb hby d23_18) rfl rfl ?_
    refine XS.iloadN X0.here hx rfl (hb hby d23_19) rfl ?_
    exact kt
  obtain ⟨cl41, Ar41, -, S41, M41, H41, -⟩ := id V_o1
  have hin41 : ¬ ((12 : Int32) < 0 ∨ cl41.slots.size ≤ ((12 : Int32)).toNatClampNeg) := inb_of S41 ⟨by decide, by decide⟩
  have hat41 : cl41.slots[((12 : Int32)).toNatClampNeg]? = some (.int 101) := Has.at H41 hin41 rfl
  refine own_thr (a := s₁.setTop (mkF m 11 #[.val (.ref o0), .val (.ref o1), .val (.int 13)] [(.ref o0), (.int 13)])) (fun t kt => ?_) ?_
  · show Steps p.tables e below (s₁.setTop (mkF m 20 #[.val (.ref o0), .val (.ref o1), .val (.int 12)] [(.int 12), (.ref o1), (.int 101)])) _
    refine X0.baloadBytes hx (j := (12 : Int32)) (v := (.int 101)) (by rw [e0]; exact Ar41.1) (State.isArrayOf_alike hZ.alike Ar41.2.1) Ar41.2.2 hin41 hat41 (g := (mkF m 20 #[.val (.ref o0), .val (.ref o1), .val (.int 12)] [(.int 12), (.ref o1), (.int 101)])) rfl rfl (hb hby d23_20) _ ?_
    refine XS.icmpYes X0.here hx rfl (pc0 := 21) (pc' := 26) rfl (hb hby d23_21) rfl (teq rfl).1 (by decide) (by decide) ?_
    refine XS.iinc X0.here hx rfl (hb hby d23_26) rfl (l' := #[.val (.ref o0), .val (.ref o1), .val (.int 13)]) rfl ?_
    refine XS.goto X0.here hx rfl (pc0 := 29) (pc' := 9) rfl (hb hby d23_29) (by decide) (by decide) ?_
    refine XS.iloadN X0.here hx rfl (hb hby d23_9) rfl ?_
    refine XS.aloadN X0.here hx rfl (hb hby d23_10) rfl rfl ?_
    exact kt
  obtain ⟨cl42, Ar42, -, S42, M42, -, -⟩ := id V_o0
  refine own_thr (a := s₁.setTop (mkF m 17 #[.val (.ref o0), .val (.ref o1), .val (.int 13)] [(.int 13), (.ref o0)])) (fun t kt => ?_) ?_
  · show Steps p.tables e below (s₁.setTop (mkF m 11 #[.val (.ref o0), .val (.ref o1), .val (.int 13)] [(.ref o0), (.int 13)])) _
    refine X0.arraylength hx (by rw [e0]; exact Ar42.1) (State.isArrayOf_alike hZ.alike Ar42.2.1) (g := (mkF m 11 #[.val (.ref o0), .val (.ref o1), .val (.int 13)] [(.ref o0), (.int 13)])) rfl rfl (hb hby d23_11) _ ?_
    rw [len_of S42 M42]
    refine XS.icmpNo X0.here hx rfl (hb hby d23_12) rfl (tlt (by decide)).2.1 ?_
    refine XS.aloadN X0.here hx rfl (hb hby d23_15) rfl rfl ?_
    refine XS.iloadN X0.here hx rfl (hb hby d23_16) rfl ?_
    exact kt
  obtain ⟨cl43, Ar43, -, S43, M43, H43, -⟩ := id V_o0
  have hin43 : ¬ ((13 : Int32) < 0 ∨ cl43.slots.size ≤ ((13 : Int32)).toNatClampNeg) := inb_of S43 ⟨by decide, by decide⟩
  have hat43 : cl43.slots[((13 : Int32)).toNatClampNeg]? = some (.int 62) := Has.at H43 hin43 rfl
  refine own_thr (a := s₁.setTop (mkF m 20 #[.val (.ref o0), .val (.ref o1), .val (.int 13)] [(.int 13), (.ref o1), (.int 62)])) (fun t kt => ?_) ?_
  · show Steps p.tables e below (s₁.setTop (mkF m 17 #[.val (.ref o0), .val (.ref o1), .val (.int 13)] [(.int 13), (.ref o0)])) _
    refine X0.baloadBytes hx (j := (13 : Int32)) (v := (.int 62)) (by rw [e0]; exact Ar43.1) (State.isArrayOf_alike hZ.alike Ar43.2.1) Ar43.2.2 hin43 hat43 (g := (mkF m 17 #[.val (.ref o0), .val (.ref o1), .val (.int 13)] [(.int 13), (.ref o0)])) rfl rfl (hb hby d23_17) _ ?_
    refine XS.aloadN X0.here hx rfl (hb hby d23_18) rfl rfl ?_
    refine XS.iloadN X0.here hx rfl (hb hby d23_19) rfl ?_
    exact kt
  obtain ⟨cl44, Ar44, -, S44, M44, H44, -⟩ := id V_o1
  have hin44 : ¬ ((13 : Int32) < 0 ∨ cl44.slots.size ≤ ((13 : Int32)).toNatClampNeg) := inb_of S44 ⟨by decide, by decide⟩
  have hat44 : cl44.slots[((13 : Int32)).toNatClampNeg]? = some (.int 62) := Has.at H44 hin44 rfl
  refine own_thr (a := s₁.setTop (mkF m 11 #[.val (.ref o0), .val (.ref o1), .val (.int 14)] [(.ref o0), (.int 14)])) (fun t kt => ?_) ?_
  · show Steps p.tables e below (s₁.setTop (mkF m 20 #[.val (.ref o0), .val (.ref o1), .val (.int 13)] [(.int 13), (.ref o1), (.int 62)])) _
    refine X0.baloadBytes hx (j := (13 : Int32)) (v := (.int 62)) (by rw [e0]; exact Ar44.1) (State.isArrayOf_alike hZ.alike Ar44.2.1) Ar44.2.2 hin44 hat44 (g := (mkF m 20 #[.val (.ref o0), .val (.ref o1), .val (.int 13)] [(.int 13), (.ref o1), (.int 62)])) rfl rfl (hb hby d23_20) _ ?_
    refine XS.icmpYes X0.here hx rfl (pc0 := 21) (pc' := 26) rfl (hb hby d23_21) rfl (teq rfl).1 (by decide) (by decide) ?_
    refine XS.iinc X0.here hx rfl (hb hby d23_26) rfl (l' := #[.val (.ref o0), .val (.ref o1), .val (.int 14)]) rfl ?_
    refine XS.goto X0.here hx rfl (pc0 := 29) (pc' := 9) rfl (hb hby d23_29) (by decide) (by decide) ?_
    refine XS.iloadN X0.here hx rfl (hb hby d23_9) rfl ?_
    refine XS.aloadN X0.here hx rfl (hb hby d23_10) rfl rfl ?_
    exact kt
  obtain ⟨cl45, Ar45, -, S45, M45, -, -⟩ := id V_o0
  refine own_thr (a := s₁.setTop (mkF m 33 #[.val (.ref o0), .val (.ref o1), .val (.int 14)] [(.int 1)])) (fun t kt => ?_) ?_
  · show Steps p.tables e below (s₁.setTop (mkF m 11 #[.val (.ref o0), .val (.ref o1), .val (.int 14)] [(.ref o0), (.int 14)])) _
    refine X0.arraylength hx (by rw [e0]; exact Ar45.1) (State.isArrayOf_alike hZ.alike Ar45.2.1) (g := (mkF m 11 #[.val (.ref o0), .val (.ref o1), .val (.int 14)] [(.ref o0), (.int 14)])) rfl rfl (hb hby d23_11) _ ?_
    rw [len_of S45 M45]
    refine XS.icmpYes X0.here hx rfl (pc0 := 12) (pc' := 32) rfl (hb hby d23_12) rfl (flt (by decide)).2.1 (by decide) (by decide) ?_
    refine XS.iconst X0.here hx rfl (hb hby d23_32) ?_
    exact kt
  exact own_end X0 hlk (v := some (.int 1)) (fun h => by rw [Bd.returns] at h; cases h) (fun fs hr => retN X0 hx (t := .boolean) Bd.returns (by simp) (hb hby d23_33) hr) (by rw [e0]; exact ⟨rfl, N0, rfl⟩) (by decide : 0 ≤ _) (by decide : 0 ≤ _)
theorem ef_rmEQqs (m : MethodId) (o0 : Addr) (o1 : Addr)  : entryFrame m #[(.ref o0), (.ref o1)] 3 = mkF m 0 #[.val (.ref o0), .val (.ref o1), .unset] [] := by first |  (simp [entryFrame, mkF, argsToLocals, Value.category]; done) | rfl
def Q_rmEQqs (Z : State) (o0 : Addr) (o1 : Addr) (v0 : Addr) (v1 : Addr) (k0 : ClassId) (k1 : ClassId) (cs : Int32) (h0 : Heap) (n0 : Nat) (v : Option Value) (h : Heap) (L : List Loc) : Prop := v = some (.int 1) ∧ Fr n0 L ∧ h = h0
set_option maxRecDepth 65536 in
set_option maxHeartbeats 40000000 in
theorem rmEQqs (l : Launch) (Z : State) (a0 : Array Value) (hw : ∀ d ∈ tables_1, d.before a0 Z = true) (ws : List Jvm.Cond) (o0 : Addr) (o1 : Addr) (v0 : Addr) (v1 : Addr) (k0 : ClassId) (k1 : ClassId) (cs : Int32) (h0 : Heap) (n0 : Nat) (Z0 : n0 ≤ h0.size) (E_o0 : Exa Z h0 o0 "java/lang/String") (F_value_o0 : Fld Z h0 o0 "java/lang/String" "value" "[B" (.ref v0)) (F_coder_o0 : Fld Z h0 o0 "java/lang/String" "coder" "B" (.int 0)) (E_o1 : Exa Z h0 o1 "java/lang/String") (F_value_o1 : Fld Z h0 o1 "java/lang/String" "value" "[B" (.ref v1)) (F_coder_o1 : Fld Z h0 o1 "java/lang/String" "coder" "B" (.int 0)) (V_v0 : Arv Z h0 v0 k0 .byte (14 : Int32) [(.int 45), (.int 45), (.int 113), (.int 117), (.int 101), (.int 117), (.int 101), (.int 32), (.int 60), (.int 110), (.int 97), (.int 109), (.int 101), (.int 62)] (.int 0)) (V_v1 : Arv Z h0 v1 k1 .byte (14 : Int32) [(.int 45), (.int 45), (.int 113), (.int 117), (.int 101), (.int 117), (.int 101), (.int 32), (.int 60), (.int 110), (.int 97), (.int 109), (.int 101), (.int 62)] (.int 0)) (S_COMPACT_STRINGS : Sta Z h0 "java/lang/String" "COMPACT_STRINGS" "Z" (.int cs)) (hcs : ¬ cs = (0 : Int32)) :
    MetFree l (⟨"java/lang/String", "equals", "(Ljava/lang/Object;)Z"⟩ : MethodName) (head1 (Jvm.Cond.code (⟨"java/lang/String", "equals", "(Ljava/lang/Object;)Z"⟩ : MethodName) jdk_42_method_66_code 3 (some .boolean) :: ws) ({ frames := 1, cells := 0, slots := 0, locals := 14 } : Room)) (fun a U => a = #[(.ref o0), (.ref o1)] ∧ Z.Warmed39 U.vm ∧ U.heap = h0) (fun _ _ _ _ _ => True) (fun _ U o U' => ∃ v L, o = .returned v ∧ Q_rmEQqs Z o0 o1 v0 v1 k0 k1 cs h0 n0 v U'.heap L ∧ FrameEnd U o U' L ({ frames := 1, cells := 0, slots := 0, locals := 14 } : Room).cells ({ frames := 1, cells := 0, slots := 0, locals := 14 } : Room).slots) := by
  refine MetFree.of_bodySF (plainFor_of_name pn_java_lang_String) hisR ?_
  intro p e s m args below meth c s₁ Bd hml0 hP hK
  obtain ⟨rfl, hZ, hh⟩ := hP
  have hx := Bd.exec
  have hby := Bd.bytes
  have hml : c.maxLocals = 3 := hml0
  have hown : s.vm.findClass "java/lang/String" = some m.cls := findClass_of_methodNamed Bd.named
  have hnm := (name_of_methodNamed Bd.named Bd.method).1
  have hlk := Bd.notSynchronized
  have X0 : Stand p l e ({ frames := 1, cells := 0, slots := 0, locals := 14 } : Room) s m #[(.ref o0), (.ref o1)] below meth c s₁ [] 0 0 := Stand.of_body Bd
  have e0 : s₁.heap = h0 := by rw [← hh, Bd.state]; rfl
  have N0 := Fr.nil n0
  show own_G p.tables e below s (Q_rmEQqs Z o0 o1 v0 v1 k0 k1 cs h0 n0) ({ frames := 1, cells := 0, slots := 0, locals := 14 } : Room).cells ({ frames := 1, cells := 0, slots := 0, locals := 14 } : Room).slots _
  refine own_thr (a := s₁.setTop (mkF m 0 #[.val (.ref o0), .val (.ref o1), .unset] [])) (fun t kt => castTop (ef_rmEQqs m o0 o1) kt) ?_
  refine own_thr (a := s₁.setTop (mkF m 2 #[.val (.ref o0), .val (.ref o1), .unset] [(.ref o1), (.ref o0)])) (fun t kt => ?_) ?_
  · show Steps p.tables e below (s₁.setTop (mkF m 0 #[.val (.ref o0), .val (.ref o1), .unset] [])) _
    refine XS.aloadN X0.here hx rfl (hb hby d22_0) rfl rfl ?_
    refine XS.aloadN X0.here hx rfl (hb hby d22_1) rfl rfl ?_
    exact kt
  by_cases hc1 : ((.ref o0) : Value) = (.ref o1)
  · refine own_thr (a := s₁.setTop (mkF m 6 #[.val (.ref o0), .val (.ref o1), .unset] [(.int 1)])) (fun t kt => ?_) ?_
    · show Steps p.tables e below (s₁.setTop (mkF m 2 #[.val (.ref o0), .val (.ref o1), .unset] [(.ref o1), (.ref o0)])) _
      refine Jvm.RoadKit.acmp (g := (mkF m 2 #[.val (.ref o0), .val (.ref o1), .unset] [(.ref o1), (.ref o0)])) X0 hx rfl rfl rfl (pc0 := 2) (pc' := 5) (same := true) rfl (hb hby d22_2) rfl (decide_eq_true hc1) (by decide) (by decide) ?_
      refine XS.iconst X0.here hx rfl (hb hby d22_5) ?_
      exact kt
    exact own_end X0 hlk (v := some (.int 1)) (fun h => by rw [Bd.returns] at h; cases h) (fun fs hr => retN X0 hx (t := .boolean) Bd.returns (by simp) (hb hby d22_6) hr) (by rw [e0]; exact ⟨rfl, N0, rfl⟩) (by decide : 0 ≤ _) (by decide : 0 ≤ _)
  · refine own_thr (a := s₁.setTop (mkF m 8 #[.val (.ref o0), .val (.ref o1), .unset] [(.ref o1)])) (fun t kt => ?_) ?_
    · show Steps p.tables e below (s₁.setTop (mkF m 2 #[.val (.ref o0), .val (.ref o1), .unset] [(.ref o1), (.ref o0)])) _
      refine Jvm.RoadKit.acmp (g := (mkF m 2 #[.val (.ref o0), .val (.ref o1), .unset] [(.ref o1), (.ref o0)])) X0 hx rfl rfl rfl (pc0 := 2) (pc' := 7) (same := false) rfl (hb hby d22_2) rfl (decide_eq_false hc1) (by decide) (by decide) ?_
      refine XS.aloadN X0.here hx rfl (hb hby d22_7) rfl rfl ?_
      exact kt
    obtain ⟨T2, X2, e2, st2⟩ := instY X0 hx hZ hown (hw _ (List.mem_of_getElem? (i := 147) rfl)) e0 (Ins.self E_o1) (g := (mkF m 8 #[.val (.ref o0), .val (.ref o1), .unset] [(.ref o1)])) rfl rfl (hb hby d22_8)
    refine own_thr (a := T2.setTop (mkF m 11 #[.val (.ref o0), .val (.ref o1), .unset] [(.int 1)])) (fun t kt => st2 t kt) ?_
    refine own_thr (a := T2.setTop (mkF m 15 #[.val (.ref o0), .val (.ref o1), .unset] [(.ref o1)])) (fun t kt => ?_) ?_
    · show Steps p.tables e below (T2.setTop (mkF m 11 #[.val (.ref o0), .val (.ref o1), .unset] [(.int 1)])) _
      refine XS.ifNo X2.here hx rfl (hb hby d22_11) rfl ((if0 _ _).trans (feq (by decide)).1) ?_
      refine XS.aloadN X2.here hx rfl (hb hby d22_14) rfl rfl ?_
      exact kt
    obtain ⟨T3, X3, e3, st3⟩ := castY X2 hx hZ hown (hw _ (List.mem_of_getElem? (i := 147) rfl)) e2 (Ins.self E_o1) (g := (mkF m 15 #[.val (.ref o0), .val (.ref o1), .unset] [(.ref o1)])) rfl rfl (hb hby d22_15)
    refine own_thr (a := T3.setTop (mkF m 18 #[.val (.ref o0), .val (.ref o1), .unset] [(.ref o1)])) (fun t kt => st3 t kt) ?_
    refine own_thr (a := T3.setTop (mkF m 19 #[.val (.ref o0), .val (.ref o1), .val (.ref o1)] [])) (fun t kt => ?_) ?_
    · show Steps p.tables e below (T3.setTop (mkF m 18 #[.val (.ref o0), .val (.ref o1), .unset] [(.ref o1)])) _
      refine XS.astoreN X3.here hx rfl (hb hby d22_18) rfl rfl (l' := #[.val (.ref o0), .val (.ref o1), .val (.ref o1)]) rfl ?_
      exact kt
    obtain ⟨T4, X4, e4, st4⟩ := getS2 X3 hx hZ hown (host := "") (Or.inl (hw _ (List.mem_of_getElem? (i := 54) rfl))) Via.refl e3 S_COMPACT_STRINGS (g := (mkF m 19 #[.val (.ref o0), .val (.ref o1), .val (.ref o1)] [])) rfl (hb hby d22_19)
    refine own_thr (a := T4.setTop (mkF m 22 #[.val (.ref o0), .val (.ref o1), .val (.ref o1)] [(.int cs)])) (fun t kt => st4 t kt) ?_
    refine own_thr (a := T4.setTop (mkF m 26 #[.val (.ref o0), .val (.ref o1), .val (.ref o1)] [(.ref o0)])) (fun t kt => ?_) ?_
    · show Steps p.tables e below (T4.setTop (mkF m 22 #[.val (.ref o0), .val (.ref o1), .val (.ref o1)] [(.int cs)])) _
      refine XS.ifNo X4.here hx rfl (hb hby d22_22) rfl ((if0 _ _).trans (feq hcs).1) ?_
      refine XS.aloadN X4.here hx rfl (hb hby d22_25) rfl rfl ?_
      exact kt
    obtain ⟨T5, X5, e5, st5⟩ := getF X4 hx hZ hown (host := "") (Or.inl (hw _ (List.mem_of_getElem? (i := 55) rfl))) Via.refl e4 F_coder_o0 (g := (mkF m 26 #[.val (.ref o0), .val (.ref o1), .val (.ref o1)] [(.ref o0)])) rfl rfl (hb hby d22_26)
    refine own_thr (a := T5.setTop (mkF m 29 #[.val (.ref o0), .val (.ref o1), .val (.ref o1)] [(.int 0)])) (fun t kt => st5 t kt) ?_
    refine own_thr (a := T5.setTop (mkF m 30 #[.val (.ref o0), .val (.ref o1), .val (.ref o1)] [(.ref o1), (.int 0)])) (fun t kt => ?_) ?_
    · show Steps p.tables e below (T5.setTop (mkF m 29 #[.val (.ref o0), .val (.ref o1), .val (.ref o1)] [(.int 0)])) _
      refine XS.aloadN X5.here hx rfl (hb hby d22_29) rfl rfl ?_
      exact kt
    obtain ⟨T6, X6, e6, st6⟩ := getF X5 hx hZ hown (host := "") (Or.inl (hw _ (List.mem_of_getElem? (i := 55) rfl))) Via.refl e5 F_coder_o1 (g := (mkF m 30 #[.val (.ref o0), .val (.ref o1), .val (.ref o1)] [(.ref o1), (.int 0)])) rfl rfl (hb hby d22_30)
    refine own_thr (a := T6.setTop (mkF m 33 #[.val (.ref o0), .val (.ref o1), .val (.ref o1)] [(.int 0), (.int 0)])) (fun t kt => st6 t kt) ?_
    refine own_thr (a := T6.setTop (mkF m 37 #[.val (.ref o0), .val (.ref o1), .val (.ref o1)] [(.ref o0)])) (fun t kt => ?_) ?_
    · show Steps p.tables e below (T6.setTop (mkF m 33 #[.val (.ref o0), .val (.ref o1), .val (.ref o1)] [(.int 0), (.int 0)])) _
      refine XS.icmpNo X6.here hx rfl (hb hby d22_33) rfl (teq rfl).2 ?_
      refine XS.aloadN X6.here hx rfl (hb hby d22_36) rfl rfl ?_
      exact kt
    obtain ⟨T7, X7, e7, st7⟩ := getF X6 hx hZ hown (host := "") (Or.inl (hw _ (List.mem_of_getElem? (i := 47) rfl))) Via.refl e6 F_value_o0 (g := (mkF m 37 #[.val (.ref o0), .val (.ref o1), .val (.ref o1)] [(.ref o0)])) rfl rfl (hb hby d22_37)
    refine own_thr (a := T7.setTop (mkF m 40 #[.val (.ref o0), .val (.ref o1), .val (.ref o1)] [(.ref v0)])) (fun t kt => st7 t kt) ?_
    refine own_thr (a := T7.setTop (mkF m 41 #[.val (.ref o0), .val (.ref o1), .val (.ref o1)] [(.ref o1), (.ref v0)])) (fun t kt => ?_) ?_
    · show Steps p.tables e below (T7.setTop (mkF m 40 #[.val (.ref o0), .val (.ref o1), .val (.ref o1)] [(.ref v0)])) _
      refine XS.aloadN X7.here hx rfl (hb hby d22_40) rfl rfl ?_
      exact kt
    obtain ⟨T8, X8, e8, st8⟩ := getF X7 hx hZ hown (host := "") (Or.inl (hw _ (List.mem_of_getElem? (i := 47) rfl))) Via.refl e7 F_value_o1 (g := (mkF m 41 #[.val (.ref o0), .val (.ref o1), .val (.ref o1)] [(.ref o1), (.ref v0)])) rfl rfl (hb hby d22_41)
    refine own_thr (a := T8.setTop (mkF m 44 #[.val (.ref o0), .val (.ref o1), .val (.ref o1)] [(.ref v1), (.ref v0)])) (fun t kt => st8 t kt) ?_
    obtain ⟨_, _, ⟨T9, L9, k9, n9⟩, -, X9, ⟨Lc9, hQ9, l9, y9, z9⟩, st9⟩ := Jvm.LawKit.callS X8 hx (y := (⟨"java/lang/StringLatin1", "equals", "([B[B)Z"⟩ : MethodName)) hown (mvT hZ (hw _ (List.mem_of_getElem? (i := 148) rfl))) (mvT hZ (hw _ (List.mem_of_getElem? (i := 149) rfl))) (mvT hZ (hw _ (List.mem_of_getElem? (i := 150) rfl))) (mvT hZ (hw _ (List.mem_of_getElem? (i := 151) rfl))) (by decide) (backOf (W := 0) (rmLEqs l Z a0 hw [] v0 v1 k0 k1 h0 n0 Z0 V_v0 V_v1) hZ (hw _ (List.mem_of_getElem? (i := 151) rfl)) (hw _ (List.mem_of_getElem? (i := 150) rfl)) (by decide) (by decide)) (g := (mkF m 44 #[.val (.ref o0), .val (.ref o1), .val (.ref o1)] [(.ref v1), (.ref v0)])) rfl (by rw [hml]; rfl) (argsL := [(.ref v0), (.ref v1)]) (rest := []) (lenOf pd__28_5bB_5bB_29Z rfl) rfl (by show 2 * 0 + _ ≤ _; exact Nat.le_of_eq rfl) (hb hby d22_44) (fun _ _ => ⟨rfl, e8, (by decide : 0 + 0 ≤ _), (by decide : 0 + 0 ≤ _)⟩)
    dsimp only [Pt.U, Pt.locs, Pt.cells, Pt.slots] at X9 l9 y9 z9 st9 hQ9
    obtain ⟨rfl, N9q, e9⟩ := hQ9
    obtain ⟨lc9, X9, N9⟩ := own_pack X9 l9 y9 z9 N0 N9q (C := 0) (S' := 0) rfl rfl
    refine own_thr (a := T9.setTop (mkF m 47 #[.val (.ref o0), .val (.ref o1), .val (.ref o1)] [(.int 1)])) (fun t kt => st9 t kt) ?_
    refine own_thr (a := T9.setTop (mkF m 55 #[.val (.ref o0), .val (.ref o1), .val (.ref o1)] [(.int 1)])) (fun t kt => ?_) ?_
    · show Steps p.tables e below (T9.setTop (mkF m 47 #[.val (.ref o0), .val (.ref o1), .val (.ref o1)] [(.int 1)])) _
      refine XS.ifNo X9.here hx rfl (hb hby d22_47) rfl ((if0 _ _).trans (feq (by decide)).1) ?_
      refine XS.iconst X9.here hx rfl (hb hby d22_50) ?_
      refine XS.goto X9.here hx rfl (pc0 := 51) (pc' := 55) rfl (hb hby d22_51) (by decide) (by decide) ?_
      exact kt
    exact own_end X9 hlk (v := some (.int 1)) (fun h => by rw [Bd.returns] at h; cases h) (fun fs hr => retN X9 hx (t := .boolean) Bd.returns (by simp) (hb hby d22_55) hr) (by rw [e9]; exact ⟨rfl, N9, rfl⟩) (by decide : 0 ≤ _) (by decide : 0 ≤ _)
theorem ef_rmLEqf (m : MethodId) (o0 : Addr) (o1 : Addr)  : entryFrame m #[(.ref o0), (.ref o1)] 3 = mkF m 0 #[.val (.ref o0), .val (.ref o1), .unset] [] := by first |  (simp [entryFrame, mkF, argsToLocals, Value.category]; done) | rfl
def Q_rmLEqf (Z : State) (o0 : Addr) (o1 : Addr) (k0 : ClassId) (k1 : ClassId) (h0 : Heap) (n0 : Nat) (v : Option Value) (h : Heap) (L : List Loc) : Prop := v = some (.int 1) ∧ Fr n0 L ∧ h = h0
set_option maxRecDepth 65536 in
set_option maxHeartbeats 40000000 in
theorem rmLEqf (l : Launch) (Z : State) (a0 : Array Value) (hw : ∀ d ∈ tables_1, d.before a0 Z = true) (ws : List Jvm.Cond) (o0 : Addr) (o1 : Addr) (k0 : ClassId) (k1 : ClassId) (h0 : Heap) (n0 : Nat) (Z0 : n0 ≤ h0.size) (V_o0 : Arv Z h0 o0 k0 .byte (7 : Int32) [(.int 45), (.int 45), (.int 113), (.int 117), (.int 101), (.int 117), (.int 101)] (.int 0)) (V_o1 : Arv Z h0 o1 k1 .byte (7 : Int32) [(.int 45), (.int 45), (.int 113), (.int 117), (.int 101), (.int 117), (.int 101)] (.int 0)) :
    MetFree l (⟨"java/lang/StringLatin1", "equals", "([B[B)Z"⟩ : MethodName) (head1 (Jvm.Cond.code (⟨"java/lang/StringLatin1", "equals", "([B[B)Z"⟩ : MethodName) jdk_43_method_13_code 3 (some .boolean) :: ws) ({ frames := 0, cells := 0, slots := 0, locals := 0 } : Room)) (fun a U => a = #[(.ref o0), (.ref o1)] ∧ Z.Warmed39 U.vm ∧ U.heap = h0) (fun _ _ _ _ _ => True) (fun _ U o U' => ∃ v L, o = .returned v ∧ Q_rmLEqf Z o0 o1 k0 k1 h0 n0 v U'.heap L ∧ FrameEnd U o U' L ({ frames := 0, cells := 0, slots := 0, locals := 0 } : Room).cells ({ frames := 0, cells := 0, slots := 0, locals := 0 } : Room).slots) := by
  refine MetFree.of_bodySF (plainFor_of_name pn_java_lang_StringLatin1) hisR ?_
  intro p e s m args below meth c s₁ Bd hml0 hP hK
  obtain ⟨rfl, hZ, hh⟩ := hP
  have hx := Bd.exec
  have hby := Bd.bytes
  have hml : c.maxLocals = 3 := hml0
  have hown : s.vm.findClass "java/lang/StringLatin1" = some m.cls := findClass_of_methodNamed Bd.named
  have hnm := (name_of_methodNamed Bd.named Bd.method).1
  have hlk := Bd.notSynchronized
  have X0 : Stand p l e ({ frames := 0, cells := 0, slots := 0, locals := 0 } : Room) s m #[(.ref o0), (.ref o1)] below meth c s₁ [] 0 0 := Stand.of_body Bd
  have e0 : s₁.heap = h0 := by rw [← hh, Bd.state]; rfl
  have N0 := Fr.nil n0
  show own_G p.tables e below s (Q_rmLEqf Z o0 o1 k0 k1 h0 n0) ({ frames := 0, cells := 0, slots := 0, locals := 0 } : Room).cells ({ frames := 0, cells := 0, slots := 0, locals := 0 } : Room).slots _
  refine own_thr (a := s₁.setTop (mkF m 0 #[.val (.ref o0), .val (.ref o1), .unset] [])) (fun t kt => castTop (ef_rmLEqf m o0 o1) kt) ?_
  refine own_thr (a := s₁.setTop (mkF m 1 #[.val (.ref o0), .val (.ref o1), .unset] [(.ref o0)])) (fun t kt => ?_) ?_
  · show Steps p.tables e below (s₁.setTop (mkF m 0 #[.val (.ref o0), .val (.ref o1), .unset] [])) _
    refine XS.aloadN X0.here hx rfl (hb hby d23_0) rfl rfl ?_
    exact kt
  obtain ⟨cl1, Ar1, -, S1, M1, -, -⟩ := id V_o0
  refine own_thr (a := s₁.setTop (mkF m 3 #[.val (.ref o0), .val (.ref o1), .unset] [(.ref o1), (.int 7)])) (fun t kt => ?_) ?_
  · show Steps p.tables e below (s₁.setTop (mkF m 1 #[.val (.ref o0), .val (.ref o1), .unset] [(.ref o0)])) _
    refine X0.arraylength hx (by rw [e0]; exact Ar1.1) (State.isArrayOf_alike hZ.alike Ar1.2.1) (g := (mkF m 1 #[.val (.ref o0), .val (.ref o1), .unset] [(.ref o0)])) rfl rfl (hb hby d23_1) _ ?_
    rw [len_of S1 M1]
    refine XS.aloadN X0.here hx rfl (hb hby d23_2) rfl rfl ?_
    exact kt
  obtain ⟨cl2, Ar2, -, S2, M2, -, -⟩ := id V_o1
  refine own_thr (a := s₁.setTop (mkF m 11 #[.val (.ref o0), .val (.ref o1), .val (.int 0)] [(.ref o0), (.int 0)])) (fun t kt => ?_) ?_
  · show Steps p.tables e below (s₁.setTop (mkF m 3 #[.val (.ref o0), .val (.ref o1), .unset] [(.ref o1), (.int 7)])) _
    refine X0.arraylength hx (by rw [e0]; exact Ar2.1) (State.isArrayOf_alike hZ.alike Ar2.2.1) (g := (mkF m 3 #[.val (.ref o0), .val (.ref o1), .unset] [(.ref o1), (.int 7)])) rfl rfl (hb hby d23_3) _ ?_
    rw [len_of S2 M2]
    refine XS.icmpNo X0.here hx rfl (hb hby d23_4) rfl (teq rfl).2 ?_
    refine XS.iconst X0.here hx rfl (hb hby d23_7) ?_
    refine XS.istoreN X0.here hx rfl (hb hby d23_8) rfl (l' := #[.val (.ref o0), .val (.ref o1), .val (.int 0)]) rfl ?_
    refine XS.iloadN X0.here hx rfl (hb hby d23_9) rfl ?_
    refine XS.aloadN X0.here hx rfl (hb hby d23_10) rfl rfl ?_
    exact kt
  obtain ⟨cl3, Ar3, -, S3, M3, -, -⟩ := id V_o0
  refine own_thr (a := s₁.setTop (mkF m 17 #[.val (.ref o0), .val (.ref o1), .val (.int 0)] [(.int 0), (.ref o0)])) (fun t kt => ?_) ?_
  · show Steps p.tables e below (s₁.setTop (mkF m 11 #[.val (.ref o0), .val (.ref o1), .val (.int 0)] [(.ref o0), (.int 0)])) _
    refine X0.arraylength hx (by rw [e0]; exact Ar3.1) (State.isArrayOf_alike hZ.alike Ar3.2.1) (g := (mkF m 11 #[.val (.ref o0), .val (.ref o1), .val (.int 0)] [(.ref o0), (.int 0)])) rfl rfl (hb hby d23_11) _ ?_
    rw [len_of S3 M3]
    refine XS.icmpNo X0.here hx rfl (hb hby d23_12) rfl (tlt (by decide)).2.1 ?_
    refine XS.aloadN X0.here hx rfl (hb hby d23_15) rfl rfl ?_
    refine XS.iloadN X0.here hx rfl (hb hby d23_16) rfl ?_
    exact kt
  obtain ⟨cl4, Ar4, -, S4, M4, H4, -⟩ := id V_o0
  have hin4 : ¬ ((0 : Int32) < 0 ∨ cl4.slots.size ≤ ((0 : Int32)).toNatClampNeg) := inb_of S4 ⟨by decide, by decide⟩
  have hat4 : cl4.slots[((0 : Int32)).toNatClampNeg]? = some (.int 45) := Has.at H4 hin4 rfl
  refine own_thr (a := s₁.setTop (mkF m 20 #[.val (.ref o0), .val (.ref o1), .val (.int 0)] [(.int 0), (.ref o1), (.int 45)])) (fun t kt => ?_) ?_
  · show Steps p.tables e below (s₁.setTop (mkF m 17 #[.val (.ref o0), .val (.ref o1), .val (.int 0)] [(.int 0), (.ref o0)])) _
    refine X0.baloadBytes hx (j := (0 : Int32)) (v := (.int 45)) (by rw [e0]; exact Ar4.1) (State.isArrayOf_alike hZ.alike Ar4.2.1) Ar4.2.2 hin4 hat4 (g := (mkF m 17 #[.val (.ref o0), .val (.ref o1), .val (.int 0)] [(.int 0), (.ref o0)])) rfl rfl (hb hby d23_17) _ ?_
    refine XS.aloadN X0.here hx rfl (hb hby d23_18) rfl rfl ?_
    refine XS.iloadN X0.here hx rfl (hb hby d23_19) rfl ?_
    exact kt
  obtain ⟨cl5, Ar5, -, S5, M5, H5, -⟩ := id V_o1
  have hin5 : ¬ ((0 : Int32) < 0 ∨ cl5.slots.size ≤ ((0 : Int32)).toNatClampNeg) := inb_of S5 ⟨by decide, by decide⟩
  have hat5 : cl5.slots[((0 : Int32)).toNatClampNeg]? = some (.int 45) := Has.at H5 hin5 rfl
  refine own_thr (a := s₁.setTop (mkF m 11 #[.val (.ref o0), .val (.ref o1), .val (.int 1)] [(.ref o0), (.int 1)])) (fun t kt => ?_) ?_
  · show Steps p.tables e below (s₁.setTop (mkF m 20 #[.val (.ref o0), .val (.ref o1), .val (.int 0)] [(.int 0), (.ref o1), (.int 45)])) _
    refine X0.baloadBytes hx (j := (0 : Int32)) (v := (.int 45)) (by rw [e0]; exact Ar5.1) (State.isArrayOf_alike hZ.alike Ar5.2.1) Ar5.2.2 hin5 hat5 (g := (mkF m 20 #[.val (.ref o0), .val (.ref o1), .val (.int 0)] [(.int 0), (.ref o1), (.int 45)])) rfl rfl (hb hby d23_20) _ ?_
    refine XS.icmpYes X0.here hx rfl (pc0 := 21) (pc' := 26) rfl (hb hby d23_21) rfl (teq rfl).1 (by decide) (by decide) ?_
    refine XS.iinc X0.here hx rfl (hb hby d23_26) rfl (l' := #[.val (.ref o0), .val (.ref o1), .val (.int 1)]) rfl ?_
    refine XS.goto X0.here hx rfl (pc0 := 29) (pc' := 9) rfl (hb hby d23_29) (by decide) (by decide) ?_
    refine XS.iloadN X0.here hx rfl (hb hby d23_9) rfl ?_
    refine XS.aloadN X0.here hx rfl (hb hby d23_10) rfl rfl ?_
    exact kt
  obtain ⟨cl6, Ar6, -, S6, M6, -, -⟩ := id V_o0
  refine own_thr (a := s₁.setTop (mkF m 17 #[.val (.ref o0), .val (.ref o1), .val (.int 1)] [(.int 1), (.ref o0)])) (fun t kt => ?_) ?_
  · show Steps p.tables e below (s₁.setTop (mkF m 11 #[.val (.ref o0), .val (.ref o1), .val (.int 1)] [(.ref o0), (.int 1)])) _
    refine X0.arraylength hx (by rw [e0]; exact Ar6.1) (State.isArrayOf_alike hZ.alike Ar6.2.1) (g := (mkF m 11 #[.val (.ref o0), .val (.ref o1), .val (.int 1)] [(.ref o0), (.int 1)])) rfl rfl (hb hby d23_11) _ ?_
    rw [len_of S6 M6]
    refine XS.icmpNo X0.here hx rfl (hb hby d23_12) rfl (tlt (by decide)).2.1 ?_
    refine XS.aloadN X0.here hx rfl (hb hby d23_15) rfl rfl ?_
    refine XS.iloadN X0.here hx rfl (hb hby d23_16) rfl ?_
    exact kt
  obtain ⟨cl7, Ar7, -, S7, M7, H7, -⟩ := id V_o0
  have hin7 : ¬ ((1 : Int32) < 0 ∨ cl7.slots.size ≤ ((1 : Int32)).toNatClampNeg) := inb_of S7 ⟨by decide, by decide⟩
  have hat7 : cl7.slots[((1 : Int32)).toNatClampNeg]? = some (.int 45) := Has.at H7 hin7 rfl
  refine own_thr (a := s₁.setTop (mkF m 20 #[.val (.ref o0), .val (.ref o1), .val (.int 1)] [(.int 1), (.ref o1), (.int 45)])) (fun t kt => ?_) ?_
  · show Steps p.tables e below (s₁.setTop (mkF m 17 #[.val (.ref o0), .val (.ref o1), .val (.int 1)] [(.int 1), (.ref o0)])) _
    refine X0.baloadBytes hx (j := (1 : Int32)) (v := (.int 45)) (by rw [e0]; exact Ar7.1) (State.isArrayOf_alike hZ.alike Ar7.2.1) Ar7.2.2 hin7 hat7 (g := (mkF m 17 #[.val (.ref o0), .val (.ref o1), .val (.int 1)] [(.int 1), (.ref o0)])) rfl rfl (hb hby d23_17) _ ?_
    refine XS.aloadN X0.here hx rfl (hb hby d23_18) rfl rfl ?_
    refine XS.iloadN X0.here hx rfl (hb hby d23_19) rfl ?_
    exact kt
  obtain ⟨cl8, Ar8, -, S8, M8, H8, -⟩ := id V_o1
  have hin8 : ¬ ((1 : Int32) < 0 ∨ cl8.slots.size ≤ ((1 : Int32)).toNatClampNeg) := inb_of S8 ⟨by decide, by decide⟩
  have hat8 : cl8.slots[((1 : Int32)).toNatClampNeg]? = some (.int 45) := Has.at H8 hin8 rfl
  refine own_thr (a := s₁.setTop (mkF m 11 #[.val (.ref o0), .val (.ref o1), .val (.int 2)] [(.ref o0), (.int 2)])) (fun t kt => ?_) ?_
  · show Steps p.tables e below (s₁.setTop (mkF m 20 #[.val (.ref o0), .val (.ref o1), .val (.int 1)] [(.int 1), (.ref o1), (.int 45)])) _
    refine X0.baloadBytes hx (j := (1 : Int32)) (v := (.int 45)) (by rw [e0]; exact Ar8.1) (State.isArrayOf_alike hZ.alike Ar8.2.1) Ar8.2.2 hin8 hat8 (g := (mkF m 20 #[.val (.ref o0), .val (.ref o1), .val (.int 1)] [(.int 1), (.ref o1), (.int 45)])) rfl rfl (hb hby d23_20) _ ?_
    refine XS.icmpYes X0.here hx rfl (pc0 := 21) (pc' := 26) rfl (hb hby d23_21) rfl (teq rfl).1 (by decide) (by decide) ?_
    refine XS.iinc X0.here hx rfl (hb hby d23_26) rfl (l' := #[.val (.ref o0), .val (.ref o1), .val (.int 2)]) rfl ?_
    refine XS.goto X0.here hx rfl (pc0 := 29) (pc' := 9) rfl (hb hby d23_29) (by decide) (by decide) ?_
    refine XS.iloadN X0.here hx rfl (hb hby d23_9) rfl ?_
    refine XS.aloadN X0.here hx rfl (hb hby d23_10) rfl rfl ?_
    exact kt
  obtain ⟨cl9, Ar9, -, S9, M9, -, -⟩ := id V_o0
  refine own_thr (a := s₁.setTop (mkF m 17 #[.val (.ref o0), .val (.ref o1), .val (.int 2)] [(.int 2), (.ref o0)])) (fun t kt => ?_) ?_
  · show Steps p.tables e below (s₁.setTop (mkF m 11 #[.val (.ref o0), .val (.ref o1), .val (.int 2)] [(.ref o0), (.int 2)])) _
    refine X0.arraylength hx (by rw [e0]; exact Ar9.1) (State.isArrayOf_alike hZ.alike Ar9.2.1) (g := (mkF m 11 #[.val (.ref o0), .val (.ref o1), .val (.int 2)] [(.ref o0), (.int 2)])) rfl rfl (hb hby d23_11) _ ?_
    rw [len_of S9 M9]
    refine XS.icmpNo X0.here hx rfl (hb hby d23_12) rfl (tlt (by decide)).2.1 ?_
    refine XS.aloadN X0.here hx rfl (hb hby d23_15) rfl rfl ?_
    refine XS.iloadN X0.here hx rfl (hb hby d23_16) rfl ?_
    exact kt
  obtain ⟨cl10, Ar10, -, S10, M10, H10, -⟩ := id V_o0
  have hin10 : ¬ ((2 : Int32) < 0 ∨ cl10.slots.size ≤ ((2 : Int32)).toNatClampNeg) := inb_of S10 ⟨by decide, by decide⟩
  have hat10 : cl10.slots[((2 : Int32)).toNatClampNeg]? = some (.int 113) := Has.at H10 hin10 rfl
  refine own_thr (a := s₁.setTop (mkF m 20 #[.val (.ref o0), .val (.ref o1), .val (.int 2)] [(.int 2), (.ref o1), (.int 113)])) (fun t kt => ?_) ?_
  · show Steps p.tables e below (s₁.setTop (mkF m 17 #[.val (.ref o0), .val (.ref o1), .val (.int 2)] [(.int 2), (.ref o0)])) _
    refine X0.baloadBytes hx (j := (2 : Int32)) (v := (.int 113)) (by rw [e0]; exact Ar10.1) (State.isArrayOf_alike hZ.alike Ar10.2.1) Ar10.2.2 hin10 hat10 (g := (mkF m 17 #[.val (.ref o0), .val (.ref o1), .val (.int 2)] [(.int 2), (.ref o0)])) rfl rfl (hb hby d23_17) _ ?_
    refine XS.aloadN X0.here hx rfl (hb hby d23_18) rfl rfl ?_
    refine XS.iloadN X0.here hx rfl (hb hby d23_19) rfl ?_
    exact kt
  obtain ⟨cl11, Ar11, -, S11, M11, H11, -⟩ := id V_o1
  have hin11 : ¬ ((2 : Int32) < 0 ∨ cl11.slots.size ≤ ((2 : Int32)).toNatClampNeg) := inb_of S11 ⟨by decide, by decide⟩
  have hat11 : cl11.slots[((2 : Int32)).toNatClampNeg]? = some (.int 113) := Has.at H11 hin11 rfl
  refine own_thr (a := s₁.setTop (mkF m 11 #[.val (.ref o0), .val (.ref o1), .val (.int 3)] [(.ref o0), (.int 3)])) (fun t kt => ?_) ?_
  · show Steps p.tables e below (s₁.setTop (mkF m 20 #[.val (.ref o0), .val (.ref o1), .val (.int 2)] [(.int 2), (.ref o1), (.int 113)])) _
    refine X0.baloadBytes hx (j := (2 : Int32)) (v := (.int 113)) (by rw [e0]; exact Ar11.1) (State.isArrayOf_alike hZ.alike Ar11.2.1) Ar11.2.2 hin11 hat11 (g := (mkF m 20 #[.val (.ref o0), .val (.ref o1), .val (.int 2)] [(.int 2), (.ref o1), (.int 113)])) rfl rfl (hb hby d23_20) _ ?_
    refine XS.icmpYes X0.here hx rfl (pc0 := 21) (pc' := 26) rfl (hb hby d23_21) rfl (teq rfl).1 (by decide) (by decide) ?_
    refine XS.iinc X0.here hx rfl (hb hby d23_26) rfl (l' := #[.val (.ref o0), .val (.ref o1), .val (.int 3)]) rfl ?_
    refine XS.goto X0.here hx rfl (pc0 := 29) (pc' := 9) rfl (hb hby d23_29) (by decide) (by decide) ?_
    refine XS.iloadN X0.here hx rfl (hb hby d23_9) rfl ?_
    refine XS.aloadN X0.here hx rfl (hb hby d23_10) rfl rfl ?_
    exact kt
  obtain ⟨cl12, Ar12, -, S12, M12, -, -⟩ := id V_o0
  refine own_thr (a := s₁.setTop (mkF m 17 #[.val (.ref o0), .val (.ref o1), .val (.int 3)] [(.int 3), (.ref o0)])) (fun t kt => ?_) ?_
  · show Steps p.tables e below (s₁.setTop (mkF m 11 #[.val (.ref o0), .val (.ref o1), .val (.int 3)] [(.ref o0), (.int 3)])) _
    refine X0.arraylength hx (by rw [e0]; exact Ar12.1) (State.isArrayOf_alike hZ.alike Ar12.2.1) (g := (mkF m 11 #[.val (.ref o0), .val (.ref o1), .val (.int 3)] [(.ref o0), (.int 3)])) rfl rfl (hb hby d23_11) _ ?_
    rw [len_of S12 M12]
    refine XS.icmpNo X0.here hx rfl (hb hby d23_12) rfl (tlt (by decide)).2.1 ?_
    refine XS.aloadN X0.here hx rfl (hb hby d23_15) rfl rfl ?_
    refine XS.iloadN X0.here hx rfl (hb hby d23_16) rfl ?_
    exact kt
  obtain ⟨cl13, Ar13, -, S13, M13, H13, -⟩ := id V_o0
  have hin13 : ¬ ((3 : Int32) < 0 ∨ cl13.slots.size ≤ ((3 : Int32)).toNatClampNeg) := inb_of S13 ⟨by decide, by decide⟩
  have hat13 : cl13.slots[((3 : Int32)).toNatClampNeg]? = some (.int 117) := Has.at H13 hin13 rfl
  refine own_thr (a := s₁.setTop (mkF m 20 #[.val (.ref o0), .val (.ref o1), .val (.int 3)] [(.int 3), (.ref o1), (.int 117)])) (fun t kt => ?_) ?_
  · show Steps p.tables e below (s₁.setTop (mkF m 17 #[.val (.ref o0), .val (.ref o1), .val (.int 3)] [(.int 3), (.ref o0)])) _
    refine X0.baloadBytes hx (j := (3 : Int32)) (v := (.int 117)) (by rw [e0]; exact Ar13.1) (State.isArrayOf_alike hZ.alike Ar13.2.1) Ar13.2.2 hin13 hat13 (g := (mkF m 17 #[.val (.ref o0), .val (.ref o1), .val (.int 3)] [(.int 3), (.ref o0)])) rfl rfl (hb hby d23_17) _ ?_
    refine XS.aloadN X0.here hx rfl (hb hby d23_18) rfl rfl ?_
    refine XS.iloadN X0.here hx rfl (hb hby d23_19) rfl ?_
    exact kt
  obtain ⟨cl14, Ar14, -, S14, M14, H14, -⟩ := id V_o1
  have hin14 : ¬ ((3 : Int32) < 0 ∨ cl14.slots.size ≤ ((3 : Int32)).toNatClampNeg) := inb_of S14 ⟨by decide, by decide⟩
  have hat14 : cl14.slots[((3 : Int32)).toNatClampNeg]? = some (.int 117) := Has.at H14 hin14 rfl
  refine own_thr (a := s₁.setTop (mkF m 11 #[.val (.ref o0), .val (.ref o1), .val (.int 4)] [(.ref o0), (.int 4)])) (fun t kt => ?_) ?_
  · show Steps p.tables e below (s₁.setTop (mkF m 20 #[.val (.ref o0), .val (.ref o1), .val (.int 3)] [(.int 3), (.ref o1), (.int 117)])) _
    refine X0.baloadBytes hx (j := (3 : Int32)) (v := (.int 117)) (by rw [e0]; exact Ar14.1) (State.isArrayOf_alike hZ.alike Ar14.2.1) Ar14.2.2 hin14 hat14 (g := (mkF m 20 #[.val (.ref o0), .val (.ref o1), .val (.int 3)] [(.int 3), (.ref o1), (.int 117)])) rfl rfl (hb hby d23_20) _ ?_
    refine XS.icmpYes X0.here hx rfl (pc0 := 21) (pc' := 26) rfl (hb hby d23_21) rfl (teq rfl).1 (by decide) (by decide) ?_
    refine XS.iinc X0.here hx rfl (hb hby d23_26) rfl (l' := #[.val (.ref o0), .val (.ref o1), .val (.int 4)]) rfl ?_
    refine XS.goto X0.here hx rfl (pc0 := 29) (pc' := 9) rfl (hb hby d23_29) (by decide) (by decide) ?_
    refine XS.iloadN X0.here hx rfl (hb hby d23_9) rfl ?_
    refine XS.aloadN X0.here hx rfl (hb hby d23_10) rfl rfl ?_
    exact kt
  obtain ⟨cl15, Ar15, -, S15, M15, -, -⟩ := id V_o0
  refine own_thr (a := s₁.setTop (mkF m 17 #[.val (.ref o0), .val (.ref o1), .val (.int 4)] [(.int 4), (.ref o0)])) (fun t kt => ?_) ?_
  · show Steps p.tables e below (s₁.setTop (mkF m 11 #[.val (.ref o0), .val (.ref o1), .val (.int 4)] [(.ref o0), (.int 4)])) _
    refine X0.arraylength hx (by rw [e0]; exact Ar15.1) (State.isArrayOf_alike hZ.alike Ar15.2.1) (g := (mkF m 11 #[.val (.ref o0), .val (.ref o1), .val (.int 4)] [(.ref o0), (.int 4)])) rfl rfl (hb hby d23_11) _ ?_
    rw [len_of S15 M15]
    refine XS.icmpNo X0.here hx rfl (hb hby d23_12) rfl (tlt (by decide)).2.1 ?_
    refine XS.aloadN X0.here hx rfl (hb hby d23_15) rfl rfl ?_
    refine XS.iloadN X0.here hx rfl (hb hby d23_16) rfl ?_
    exact kt
  obtain ⟨cl16, Ar16, -, S16, M16, H16, -⟩ := id V_o0
  have hin16 : ¬ ((4 : Int32) < 0 ∨ cl16.slots.size ≤ ((4 : Int32)).toNatClampNeg) := inb_of S16 ⟨by decide, by decide⟩
  have hat16 : cl16.slots[((4 : Int32)).toNatClampNeg]? = some (.int 101) := Has.at H16 hin16 rfl
  refine own_thr (a := s₁.setTop (mkF m 20 #[.val (.ref o0), .val (.ref o1), .val (.int 4)] [(.int 4), (.ref o1), (.int 101)])) (fun t kt => ?_) ?_
  · show Steps p.tables e below (s₁.setTop (mkF m 17 #[.val (.ref o0), .val (.ref o1), .val (.int 4)] [(.int 4), (.ref o0)])) _
    refine X0.baloadBytes hx (j := (4 : Int32)) (v := (.int 101)) (by rw [e0]; exact Ar16.1) (State.isArrayOf_alike hZ.alike Ar16.2.1) Ar16.2.2 hin16 hat16 (g := (mkF m 17 #[.val (.ref o0), .val (.ref o1), .val (.int 4)] [(.int 4), (.ref o0)])) rfl rfl (hb hby d23_17) _ ?_
    refine XS.aloadN X0.here hx rfl (hb hby d23_18) rfl rfl ?_
    refine XS.iloadN X0.here hx rfl (hb hby d23_19) rfl ?_
    exact kt
  obtain ⟨cl17, Ar17, -, S17, M17, H17, -⟩ := id V_o1
  have hin17 : ¬ ((4 : Int32) < 0 ∨ cl17.slots.size ≤ ((4 : Int32)).toNatClampNeg) := inb_of S17 ⟨by decide, by decide⟩
  have hat17 : cl17.slots[((4 : Int32)).toNatClampNeg]? = some (.int 101) := Has.at H17 hin17 rfl
  refine own_thr (a := s₁.setTop (mkF m 11 #[.val (.ref o0), .val (.ref o1), .val (.int 5)] [(.ref o0), (.int 5)])) (fun t kt => ?_) ?_
  · show Steps p.tables e below (s₁.setTop (mkF m 20 #[.val (.ref o0), .val (.ref o1), .val (.int 4)] [(.int 4), (.ref o1), (.int 101)])) _
    refine X0.baloadBytes hx (j := (4 : Int32)) (v := (.int 101)) (by rw [e0]; exact Ar17.1) (State.isArrayOf_alike hZ.alike Ar17.2.1) Ar17.2.2 hin17 hat17 (g := (mkF m 20 #[.val (.ref o0), .val (.ref o1), .val (.int 4)] [(.int 4), (.ref o1), (.int 101)])) rfl rfl (hb hby d23_20) _ ?_
    refine XS.icmpYes X0.here hx rfl (pc0 := 21) (pc' := 26) rfl (hb hby d23_21) rfl (teq rfl).1 (by decide) (by decide) ?_
    refine XS.iinc X0.here hx rfl (hb hby d23_26) rfl (l' := #[.val (.ref o0), .val (.ref o1), .val (.int 5)]) rfl ?_
    refine XS.goto X0.here hx rfl (pc0 := 29) (pc' := 9) rfl (hb hby d23_29) (by decide) (by decide) ?_
    refine XS.iloadN X0.here hx rfl (hb hby d23_9) rfl ?_
    refine XS.aloadN X0.here hx rfl (hb hby d23_10) rfl rfl ?_
    exact kt
  obtain ⟨cl18, Ar18, -, S18, M18, -, -⟩ := id V_o0
  refine own_thr (a := s₁.setTop (mkF m 17 #[.val (.ref o0), .val (.ref o1), .val (.int 5)] [(.int 5), (.ref o0)])) (fun t kt => ?_) ?_
  · show Steps p.tables e below (s₁.setTop (mkF m 11 #[.val (.ref o0), .val (.ref o1), .val (.int 5)] [(.ref o0), (.int 5)])) _
    refine X0.arraylength hx (by rw [e0]; exact Ar18.1) (State.isArrayOf_alike hZ.alike Ar18.2.1) (g := (mkF m 11 #[.val (.ref o0), .val (.ref o1), .val (.int 5)] [(.ref o0), (.int 5)])) rfl rfl (hb hby d23_11) _ ?_
    rw [len_of S18 M18]
    refine XS.icmpNo X0.here hx rfl (hb hby d23_12) rfl (tlt (by decide)).2.1 ?_
    refine XS.aloadN X0.here hx rfl (hb hby d23_15) rfl rfl ?_
    refine XS.iloadN X0.here hx rfl (hb hby d23_16) rfl ?_
    exact kt
  obtain ⟨cl19, Ar19, -, S19, M19, H19, -⟩ := id V_o0
  have hin19 : ¬ ((5 : Int32) < 0 ∨ cl19.slots.size ≤ ((5 : Int32)).toNatClampNeg) := inb_of S19 ⟨by decide, by decide⟩
  have hat19 : cl19.slots[((5 : Int32)).toNatClampNeg]? = some (.int 117) := Has.at H19 hin19 rfl
  refine own_thr (a := s₁.setTop (mkF m 20 #[.val (.ref o0), .val (.ref o1), .val (.int 5)] [(.int 5), (.ref o1), (.int 117)])) (fun t kt => ?_) ?_
  · show Steps p.tables e below (s₁.setTop (mkF m 17 #[.val (.ref o0), .val (.ref o1), .val (.int 5)] [(.int 5), (.ref o0)])) _
    refine X0.baloadBytes hx (j := (5 : Int32)) (v := (.int 117)) (by rw [e0]; exact Ar19.1) (State.isArrayOf_alike hZ.alike Ar19.2.1) Ar19.2.2 hin19 hat19 (g := (mkF m 17 #[.val (.ref o0), .val (.ref o1), .val (.int 5)] [(.int 5), (.ref o0)])) rfl rfl (hb hby d23_17) _ ?_
    refine XS.aloadN X0.here hx rfl (hb hby d23_18) rfl rfl ?_
    refine XS.iloadN X0.here hx rfl (hb hby d23_19) rfl ?_
    exact kt
  obtain ⟨cl20, Ar20, -, S20, M20, H20, -⟩ := id V_o1
  have hin20 : ¬ ((5 : Int32) < 0 ∨ cl20.slots.size ≤ ((5 : Int32)).toNatClampNeg) := inb_of S20 ⟨by decide, by decide⟩
  have hat20 : cl20.slots[((5 : Int32)).toNatClampNeg]? = some (.int 117) := Has.at H20 hin20 rfl
  refine own_thr (a := s₁.setTop (mkF m 11 #[.val (.ref o0), .val (.ref o1), .val (.int 6)] [(.ref o0), (.int 6)])) (fun t kt => ?_) ?_
  · show Steps p.tables e below (s₁.setTop (mkF m 20 #[.val (.ref o0), .val (.ref o1), .val (.int 5)] [(.int 5), (.ref o1), (.int 117)])) _
    refine X0.baloadBytes hx (j := (5 : Int32)) (v := (.int 117)) (by rw [e0]; exact Ar20.1) (State.isArrayOf_alike hZ.alike Ar20.2.1) Ar20.2.2 hin20 hat20 (g := (mkF m 20 #[.val (.ref o0), .val (.ref o1), .val (.int 5)] [(.int 5), (.ref o1), (.int 117)])) rfl rfl (hb hby d23_20) _ ?_
    refine XS.icmpYes X0.here hx rfl (pc0 := 21) (pc' := 26) rfl (hb hby d23_21) rfl (teq rfl).1 (by decide) (by decide) ?_
    refine XS.iinc X0.here hx rfl (hb hby d23_26) rfl (l' := #[.val (.ref o0), .val (.ref o1), .val (.int 6)]) rfl ?_
    refine XS.goto X0.here hx rfl (pc0 := 29) (pc' := 9) rfl (hb hby d23_29) (by decide) (by decide) ?_
    refine XS.iloadN X0.here hx rfl (hb hby d23_9) rfl ?_
    refine XS.aloadN X0.here hx rfl (hb hby d23_10) rfl rfl ?_
    exact kt
  obtain ⟨cl21, Ar21, -, S21, M21, -, -⟩ := id V_o0
  refine own_thr (a := s₁.setTop (mkF m 17 #[.val (.ref o0), .val (.ref o1), .val (.int 6)] [(.int 6), (.ref o0)])) (fun t kt => ?_) ?_
  · show Steps p.tables e below (s₁.setTop (mkF m 11 #[.val (.ref o0), .val (.ref o1), .val (.int 6)] [(.ref o0), (.int 6)])) _
    refine X0.arraylength hx (by rw [e0]; exact Ar21.1) (State.isArrayOf_alike hZ.alike Ar21.2.1) (g := (mkF m 11 #[.val (.ref o0), .val (.ref o1), .val (.int 6)] [(.ref o0), (.int 6)])) rfl rfl (hb hby d23_11) _ ?_
    rw [len_of S21 M21]
    refine XS.icmpNo X0.here hx rfl (hb hby d23_12) rfl (tlt (by decide)).2.1 ?_
    refine XS.aloadN X0.here hx rfl (hb hby d23_15) rfl rfl ?_
    refine XS.iloadN X0.here hx rfl (hb hby d23_16) rfl ?_
    exact kt
  obtain ⟨cl22, Ar22, -, S22, M22, H22, -⟩ := id V_o0
  have hin22 : ¬ ((6 : Int32) < 0 ∨ cl22.slots.size ≤ ((6 : Int32)).toNatClampNeg) := inb_of S22 ⟨by decide, by decide⟩
  have hat22 : cl22.slots[((6 : Int32)).toNatClampNeg]? = some (.int 101) := Has.at H22 hin22 rfl
  refine own_thr (a := s₁.setTop (mkF m 20 #[.val (.ref o0), .val (.ref o1), .val (.int 6)] [(.int 6), (.ref o1), (.int 101)])) (fun t kt => ?_) ?_
  · show Steps p.tables e below (s₁.setTop (mkF m 17 #[.val (.ref o0), .val (.ref o1), .val (.int 6)] [(.int 6), (.ref o0)])) _
    refine X0.baloadBytes hx (j := (6 : Int32)) (v := (.int 101)) (by rw [e0]; exact Ar22.1) (State.isArrayOf_alike hZ.alike Ar22.2.1) Ar22.2.2 hin22 hat22 (g := (mkF m 17 #[.val (.ref o0), .val (.ref o1), .val (.int 6)] [(.int 6), (.ref o0)])) rfl rfl (hb hby d23_17) _ ?_
    refine XS.aloadN X0.here hx rfl (hb hby d23_18) rfl rfl ?_
    refine XS.iloadN X0.here hx rfl (hb hby d23_19) rfl ?_
    exact kt
  obtain ⟨cl23, Ar23, -, S23, M23, H23, -⟩ := id V_o1
  have hin23 : ¬ ((6 : Int32) < 0 ∨ cl23.slots.size ≤ ((6 : Int32)).toNatClampNeg) := inb_of S23 ⟨by decide, by decide⟩
  have hat23 : cl23.slots[((6 : Int32)).toNatClampNeg]? = some (.int 101) := Has.at H23 hin23 rfl
  refine own_thr (a := s₁.setTop (mkF m 11 #[.val (.ref o0), .val (.ref o1), .val (.int 7)] [(.ref o0), (.int 7)])) (fun t kt => ?_) ?_
  · show Steps p.tables e below (s₁.setTop (mkF m 20 #[.val (.ref o0), .val (.ref o1), .val (.int 6)] [(.int 6), (.ref o1), (.int 101)])) _
    refine X0.baloadBytes hx (j := (6 : Int32)) (v := (.int 101)) (by rw [e0]; exact Ar23.1) (State.isArrayOf_alike hZ.alike Ar23.2.1) Ar23.2.2 hin23 hat23 (g := (mkF m 20 #[.val (.ref o0), .val (.ref o1), .val (.int 6)] [(.int 6), (.ref o1), (.int 101)])) rfl rfl (hb hby d23_20) _ ?_
    refine XS.icmpYes X0.here hx rfl (pc0 := 21) (pc' := 26) rfl (hb hby d23_21) rfl (teq rfl).1 (by decide) (by decide) ?_
    refine XS.iinc X0.here hx rfl (hb hby d23_26) rfl (l' := #[.val (.ref o0), .val (.ref o1), .val (.int 7)]) rfl ?_
    refine XS.goto X0.here hx rfl (pc0 := 29) (pc' := 9) rfl (hb hby d23_29) (by decide) (by decide) ?_
    refine XS.iloadN X0.here hx rfl (hb hby d23_9) rfl ?_
    refine XS.aloadN X0.here hx rfl (hb hby d23_10) rfl rfl ?_
    exact kt
  obtain ⟨cl24, Ar24, -, S24, M24, -, -⟩ := id V_o0
  refine own_thr (a := s₁.setTop (mkF m 33 #[.val (.ref o0), .val (.ref o1), .val (.int 7)] [(.int 1)])) (fun t kt => ?_) ?_
  · show Steps p.tables e below (s₁.setTop (mkF m 11 #[.val (.ref o0), .val (.ref o1), .val (.int 7)] [(.ref o0), (.int 7)])) _
    refine X0.arraylength hx (by rw [e0]; exact Ar24.1) (State.isArrayOf_alike hZ.alike Ar24.2.1) (g := (mkF m 11 #[.val (.ref o0), .val (.ref o1), .val (.int 7)] [(.ref o0), (.int 7)])) rfl rfl (hb hby d23_11) _ ?_
    rw [len_of S24 M24]
    refine XS.icmpYes X0.here hx rfl (pc0 := 12) (pc' := 32) rfl (hb hby d23_12) rfl (flt (by decide)).2.1 (by decide) (by decide) ?_
    refine XS.iconst X0.here hx rfl (hb hby d23_32) ?_
    exact kt
  exact own_end X0 hlk (v := some (.int 1)) (fun h => by rw [Bd.returns] at h; cases h) (fun fs hr => retN X0 hx (t := .boolean) Bd.returns (by simp) (hb hby d23_33) hr) (by rw [e0]; exact ⟨rfl, N0, rfl⟩) (by decide : 0 ≤ _) (by decide : 0 ≤ _)
theorem ef_rmEQqf (m : MethodId) (o0 : Addr) (o1 : Addr)  : entryFrame m #[(.ref o0), (.ref o1)] 3 = mkF m 0 #[.val (.ref o0), .val (.ref o1), .unset] [] := by first |  (simp [entryFrame, mkF, argsToLocals, Value.category]; done) | rfl
def Q_rmEQqf (Z : State) (o0 : Addr) (o1 : Addr) (v0 : Addr) (v1 : Addr) (k0 : ClassId) (k1 : ClassId) (cs : Int32) (h0 : Heap) (n0 : Nat) (v : Option Value) (h : Heap) (L : List Loc) : Prop := v = some (.int 1) ∧ Fr n0 L ∧ h = h0
set_option maxRecDepth 65536 in
set_option maxHeartbeats 40000000 in
theorem rmEQqf (l : Launch) (Z : State) (a0 : Array Value) (hw : ∀ d ∈ tables_1, d.before a0 Z = true) (ws : List Jvm.Cond) (o0 : Addr) (o1 : Addr) (v0 : Addr) (v1 : Addr) (k0 : ClassId) (k1 : ClassId) (cs : Int32) (h0 : Heap) (n0 : Nat) (Z0 : n0 ≤ h0.size) (E_o0 : Exa Z h0 o0 "java/lang/String") (F_value_o0 : Fld Z h0 o0 "java/lang/String" "value" "[B" (.ref v0)) (F_coder_o0 : Fld Z h0 o0 "java/lang/String" "coder" "B" (.int 0)) (E_o1 : Exa Z h0 o1 "java/lang/String") (F_value_o1 : Fld Z h0 o1 "java/lang/String" "value" "[B" (.ref v1)) (F_coder_o1 : Fld Z h0 o1 "java/lang/String" "coder" "B" (.int 0)) (V_v0 : Arv Z h0 v0 k0 .byte (7 : Int32) [(.int 45), (.int 45), (.int 113), (.int 117), (.int 101), (.int 117), (.int 101)] (.int 0)) (V_v1 : Arv Z h0 v1 k1 .byte (7 : Int32) [(.int 45), (.int 45), (.int 113), (.int 117), (.int 101), (.int 117), (.int 101)] (.int 0)) (S_COMPACT_STRINGS : Sta Z h0 "java/lang/String" "COMPACT_STRINGS" "Z" (.int cs)) (hcs : ¬ cs = (0 : Int32)) :
    MetFree l (⟨"java/lang/String", "equals", "(Ljava/lang/Object;)Z"⟩ : MethodName) (head1 (Jvm.Cond.code (⟨"java/lang/String", "equals", "(Ljava/lang/Object;)Z"⟩ : MethodName) jdk_42_method_66_code 3 (some .boolean) :: ws) ({ frames := 1, cells := 0, slots := 0, locals := 14 } : Room)) (fun a U => a = #[(.ref o0), (.ref o1)] ∧ Z.Warmed39 U.vm ∧ U.heap = h0) (fun _ _ _ _ _ => True) (fun _ U o U' => ∃ v L, o = .returned v ∧ Q_rmEQqf Z o0 o1 v0 v1 k0 k1 cs h0 n0 v U'.heap L ∧ FrameEnd U o U' L ({ frames := 1, cells := 0, slots := 0, locals := 14 } : Room).cells ({ frames := 1, cells := 0, slots := 0, locals := 14 } : Room).slots) := by
  refine MetFree.of_bodySF (plainFor_of_name pn_java_lang_String) hisR ?_
  intro p e s m args below meth c s₁ Bd hml0 hP hK
  obtain ⟨rfl, hZ, hh⟩ := hP
  have hx := Bd.exec
  have hby := Bd.bytes
  have hml : c.maxLocals = 3 := hml0
  have hown : s.vm.findClass "java/lang/String" = some m.cls := findClass_of_methodNamed Bd.named
  have hnm := (name_of_methodNamed Bd.named Bd.method).1
  have hlk := Bd.notSynchronized
  have X0 : Stand p l e ({ frames := 1, cells := 0, slots := 0, locals := 14 } : Room) s m #[(.ref o0), (.ref o1)] below meth c s₁ [] 0 0 := Stand.of_body Bd
  have e0 : s₁.heap = h0 := by rw [← hh, Bd.state]; rfl
  have N0 := Fr.nil n0
  show own_G p.tables e below s (Q_rmEQqf Z o0 o1 v0 v1 k0 k1 cs h0 n0) ({ frames := 1, cells := 0, slots := 0, locals := 14 } : Room).cells ({ frames := 1, cells := 0, slots := 0, locals := 14 } : Room).slots _
  refine own_thr (a := s₁.setTop (mkF m 0 #[.val (.ref o0), .val (.ref o1), .unset] [])) (fun t kt => castTop (ef_rmEQqf m o0 o1) kt) ?_
  refine own_thr (a := s₁.setTop (mkF m 2 #[.val (.ref o0), .val (.ref o1), .unset] [(.ref o1), (.ref o0)])) (fun t kt => ?_) ?_
  · show Steps p.tables e below (s₁.setTop (mkF m 0 #[.val (.ref o0), .val (.ref o1), .unset] [])) _
    refine XS.aloadN X0.here hx rfl (hb hby d22_0) rfl rfl ?_
    refine XS.aloadN X0.here hx rfl (hb hby d22_1) rfl rfl ?_
    exact kt
  by_cases hc1 : ((.ref o0) : Value) = (.ref o1)
  · refine own_thr (a := s₁.setTop (mkF m 6 #[.val (.ref o0), .val (.ref o1), .unset] [(.int 1)])) (fun t kt => ?_) ?_
    · show Steps p.tables e below (s₁.setTop (mkF m 2 #[.val (.ref o0), .val (.ref o1), .unset] [(.ref o1), (.ref o0)])) _
      refine Jvm.RoadKit.acmp (g := (mkF m 2 #[.val (.ref o0), .val (.ref o1), .unset] [(.ref o1), (.ref o0)])) X0 hx rfl rfl rfl (pc0 := 2) (pc' := 5) (same := true) rfl (hb hby d22_2) rfl (decide_eq_true hc1) (by decide) (by decide) ?_
      refine XS.iconst X0.here hx rfl (hb hby d22_5) ?_
      exact kt
    exact own_end X0 hlk (v := some (.int 1)) (fun h => by rw [Bd.returns] at h; cases h) (fun fs hr => retN X0 hx (t := .boolean) Bd.returns (by simp) (hb hby d22_6) hr) (by rw [e0]; exact ⟨rfl, N0, rfl⟩) (by decide : 0 ≤ _) (by decide : 0 ≤ _)
  · refine own_thr (a := s₁.setTop (mkF m 8 #[.val (.ref o0), .val (.ref o1), .unset] [(.ref o1)])) (fun t kt => ?_) ?_
    · show Steps p.tables e below (s₁.setTop (mkF m 2 #[.val (.ref o0), .val (.ref o1), .unset] [(.ref o1), (.ref o0)])) _
      refine Jvm.RoadKit.acmp (g := (mkF m 2 #[.val (.ref o0), .val (.ref o1), .unset] [(.ref o1), (.ref o0)])) X0 hx rfl rfl rfl (pc0 := 2) (pc' := 7) (same := false) rfl (hb hby d22_2) rfl (decide_eq_false hc1) (by decide) (by decide) ?_
      refine XS.aloadN X0.here hx rfl (hb hby d22_7) rfl rfl ?_
      exact kt
    obtain ⟨T2, X2, e2, st2⟩ := instY X0 hx hZ hown (hw _ (List.mem_of_getElem? (i := 147) rfl)) e0 (Ins.self E_o1) (g := (mkF m 8 #[.val (.ref o0), .val (.ref o1), .unset] [(.ref o1)])) rfl rfl (hb hby d22_8)
    refine own_thr (a := T2.setTop (mkF m 11 #[.val (.ref o0), .val (.ref o1), .unset] [(.int 1)])) (fun t kt => st2 t kt) ?_
    refine own_thr (a := T2.setTop (mkF m 15 #[.val (.ref o0), .val (.ref o1), .unset] [(.ref o1)])) (fun t kt => ?_) ?_
    · show Steps p.tables e below (T2.setTop (mkF m 11 #[.val (.ref o0), .val (.ref o1), .unset] [(.int 1)])) _
      refine XS.ifNo X2.here hx rfl (hb hby d22_11) rfl ((if0 _ _).trans (feq (by decide)).1) ?_
      refine XS.aloadN X2.here hx rfl (hb hby d22_14) rfl rfl ?_
      exact kt
    obtain ⟨T3, X3, e3, st3⟩ := castY X2 hx hZ hown (hw _ (List.mem_of_getElem? (i := 147) rfl)) e2 (Ins.self E_o1) (g := (mkF m 15 #[.val (.ref o0), .val (.ref o1), .unset] [(.ref o1)])) rfl rfl (hb hby d22_15)
    refine own_thr (a := T3.setTop (mkF m 18 #[.val (.ref o0), .val (.ref o1), .unset] [(.ref o1)])) (fun t kt => st3 t kt) ?_
    refine own_thr (a := T3.setTop (mkF m 19 #[.val (.ref o0), .val (.ref o1), .val (.ref o1)] [])) (fun t kt => ?_) ?_
    · show Steps p.tables e below (T3.setTop (mkF m 18 #[.val (.ref o0), .val (.ref o1), .unset] [(.ref o1)])) _
      refine XS.astoreN X3.here hx rfl (hb hby d22_18) rfl rfl (l' := #[.val (.ref o0), .val (.ref o1), .val (.ref o1)]) rfl ?_
      exact kt
    obtain ⟨T4, X4, e4, st4⟩ := getS2 X3 hx hZ hown (host := "") (Or.inl (hw _ (List.mem_of_getElem? (i := 54) rfl))) Via.refl e3 S_COMPACT_STRINGS (g := (mkF m 19 #[.val (.ref o0), .val (.ref o1), .val (.ref o1)] [])) rfl (hb hby d22_19)
    refine own_thr (a := T4.setTop (mkF m 22 #[.val (.ref o0), .val (.ref o1), .val (.ref o1)] [(.int cs)])) (fun t kt => st4 t kt) ?_
    refine own_thr (a := T4.setTop (mkF m 26 #[.val (.ref o0), .val (.ref o1), .val (.ref o1)] [(.ref o0)])) (fun t kt => ?_) ?_
    · show Steps p.tables e below (T4.setTop (mkF m 22 #[.val (.ref o0), .val (.ref o1), .val (.ref o1)] [(.int cs)])) _
      refine XS.ifNo X4.here hx rfl (hb hby d22_22) rfl ((if0 _ _).trans (feq hcs).1) ?_
      refine XS.aloadN X4.here hx rfl (hb hby d22_25) rfl rfl ?_
      exact kt
    obtain ⟨T5, X5, e5, st5⟩ := getF X4 hx hZ hown (host := "") (Or.inl (hw _ (List.mem_of_getElem? (i := 55) rfl))) Via.refl e4 F_coder_o0 (g := (mkF m 26 #[.val (.ref o0), .val (.ref o1), .val (.ref o1)] [(.ref o0)])) rfl rfl (hb hby d22_26)
    refine own_thr (a := T5.setTop (mkF m 29 #[.val (.ref o0), .val (.ref o1), .val (.ref o1)] [(.int 0)])) (fun t kt => st5 t kt) ?_
    refine own_thr (a := T5.setTop (mkF m 30 #[.val (.ref o0), .val (.ref o1), .val (.ref o1)] [(.ref o1), (.int 0)])) (fun t kt => ?_) ?_
    · show Steps p.tables e below (T5.setTop (mkF m 29 #[.val (.ref o0), .val (.ref o1), .val (.ref o1)] [(.int 0)])) _
      refine XS.aloadN X5.here hx rfl (hb hby d22_29) rfl rfl ?_
      exact kt
    obtain ⟨T6, X6, e6, st6⟩ := getF X5 hx hZ hown (host := "") (Or.inl (hw _ (List.mem_of_getElem? (i := 55) rfl))) Via.refl e5 F_coder_o1 (g := (mkF m 30 #[.val (.ref o0), .val (.ref o1), .val (.ref o1)] [(.ref o1), (.int 0)])) rfl rfl (hb hby d22_30)
    refine own_thr (a := T6.setTop (mkF m 33 #[.val (.ref o0), .val (.ref o1), .val (.ref o1)] [(.int 0), (.int 0)])) (fun t kt => st6 t kt) ?_
    refine own_thr (a := T6.setTop (mkF m 37 #[.val (.ref o0), .val (.ref o1), .val (.ref o1)] [(.ref o0)])) (fun t kt => ?_) ?_
    · show Steps p.tables e below (T6.setTop (mkF m 33 #[.val (.ref o0), .val (.ref o1), .val (.ref o1)] [(.int 0), (.int 0)])) _
      refine XS.icmpNo X6.here hx rfl (hb hby d22_33) rfl (teq rfl).2 ?_
      refine XS.aloadN X6.here hx rfl (hb hby d22_36) rfl rfl ?_
      exact kt
    obtain ⟨T7, X7, e7, st7⟩ := getF X6 hx hZ hown (host := "") (Or.inl (hw _ (List.mem_of_getElem? (i := 47) rfl))) Via.refl e6 F_value_o0 (g := (mkF m 37 #[.val (.ref o0), .val (.ref o1), .val (.ref o1)] [(.ref o0)])) rfl rfl (hb hby d22_37)
    refine own_thr (a := T7.setTop (mkF m 40 #[.val (.ref o0), .val (.ref o1), .val (.ref o1)] [(.ref v0)])) (fun t kt => st7 t kt) ?_
    refine own_thr (a := T7.setTop (mkF m 41 #[.val (.ref o0), .val (.ref o1), .val (.ref o1)] [(.ref o1), (.ref v0)])) (fun t kt => ?_) ?_
    · show Steps p.tables e below (T7.setTop (mkF m 40 #[.val (.ref o0), .val (.ref o1), .val (.ref o1)] [(.ref v0)])) _
      refine XS.aloadN X7.here hx rfl (hb hby d22_40) rfl rfl ?_
      exact kt
    obtain ⟨T8, X8, e8, st8⟩ := getF X7 hx hZ hown (host := "") (Or.inl (hw _ (List.mem_of_getElem? (i := 47) rfl))) Via.refl e7 F_value_o1 (g := (mkF m 41 #[.val (.ref o0), .val (.ref o1), .val (.ref o1)] [(.ref o1), (.ref v0)])) rfl rfl (hb hby d22_41)
    refine own_thr (a := T8.setTop (mkF m 44 #[.val (.ref o0), .val (.ref o1), .val (.ref o1)] [(.ref v1), (.ref v0)])) (fun t kt => st8 t kt) ?_
    obtain ⟨_, _, ⟨T9, L9, k9, n9⟩, -, X9, ⟨Lc9, hQ9, l9, y9, z9⟩, st9⟩ := Jvm.LawKit.callS X8 hx (y := (⟨"java/lang/StringLatin1", "equals", "([B[B)Z"⟩ : MethodName)) hown (mvT hZ (hw _ (List.mem_of_getElem? (i := 148) rfl))) (mvT hZ (hw _ (List.mem_of_getElem? (i := 149) rfl))) (mvT hZ (hw _ (List.mem_of_getElem? (i := 150) rfl))) (mvT hZ (hw _ (List.mem_of_getElem? (i := 151) rfl))) (by decide) (backOf (W := 0) (rmLEqf l Z a0 hw [] v0 v1 k0 k1 h0 n0 Z0 V_v0 V_v1) hZ (hw _ (List.mem_of_getElem? (i := 151) rfl)) (hw _ (List.mem_of_getElem? (i := 150) rfl)) (by decide) (by decide)) (g := (mkF m 44 #[.val (.ref o0), .val (.ref o1), .val (.ref o1)] [(.ref v1), (.ref v0)])) rfl (by rw [hml]; rfl) (argsL := [(.ref v0), (.ref v1)]) (rest := []) (lenOf pd__28_5bB_5bB_29Z rfl) rfl (by show 2 * 0 + _ ≤ _; exact Nat.le_of_eq rfl) (hb hby d22_44) (fun _ _ => ⟨rfl, e8, (by decide : 0 + 0 ≤ _), (by decide : 0 + 0 ≤ _)⟩)
    dsimp only [Pt.U, Pt.locs, Pt.cells, Pt.slots] at X9 l9 y9 z9 st9 hQ9
    obtain ⟨rfl, N9q, e9⟩ := hQ9
    obtain ⟨lc9, X9, N9⟩ := own_pack X9 l9 y9 z9 N0 N9q (C := 0) (S' := 0) rfl rfl
    refine own_thr (a := T9.setTop (mkF m 47 #[.val (.ref o0), .val (.ref o1), .val (.ref o1)] [(.int 1)])) (fun t kt => st9 t kt) ?_
    refine own_thr (a := T9.setTop (mkF m 55 #[.val (.ref o0), .val (.ref o1), .val (.ref o1)] [(.int 1)])) (fun t kt => ?_) ?_
    · show Steps p.tables e below (T9.setTop (mkF m 47 #[.val (.ref o0), .val (.ref o1), .val (.ref o1)] [(.int 1)])) _
      refine XS.ifNo X9.here hx rfl (hb hby d22_47) rfl ((if0 _ _).trans (feq (by decide)).1) ?_
      refine XS.iconst X9.here hx rfl (hb hby d22_50) ?_
      refine XS.goto X9.here hx rfl (pc0 := 51) (pc' := 55) rfl (hb hby d22_51) (by decide) (by decide) ?_
      exact kt
    exact own_end X9 hlk (v := some (.int 1)) (fun h => by rw [Bd.returns] at h; cases h) (fun fs hr => retN X9 hx (t := .boolean) Bd.returns (by simp) (hb hby d22_55) hr) (by rw [e9]; exact ⟨rfl, N9, rfl⟩) (by decide : 0 ≤ _) (by decide : 0 ≤ _)
theorem ef_rmLNqf (m : MethodId) (o0 : Addr)  : entryFrame m #[(.ref o0)] 1 = mkF m 0 #[.val (.ref o0)] [] := by first |  (simp [entryFrame, mkF, argsToLocals, Value.category]; done) | rfl
def Q_rmLNqf (Z : State) (o0 : Addr) (sv : Addr) (ks : ClassId) (cs : Int32) (h0 : Heap) (n0 : Nat) (v : Option Value) (h : Heap) (L : List Loc) : Prop := v = some (.int 7) ∧ Fr n0 L ∧ h = h0
set_option maxRecDepth 65536 in
set_option maxHeartbeats 40000000 in
theorem rmLNqf (l : Launch) (Z : State) (a0 : Array Value) (hw : ∀ d ∈ tables_1, d.before a0 Z = true) (ws : List Jvm.Cond) (o0 : Addr) (sv : Addr) (ks : ClassId) (cs : Int32) (h0 : Heap) (n0 : Nat) (Z0 : n0 ≤ h0.size) (E_o0 : Exa Z h0 o0 "java/lang/String") (F_value_o0 : Fld Z h0 o0 "java/lang/String" "value" "[B" (.ref sv)) (F_coder_o0 : Fld Z h0 o0 "java/lang/String" "coder" "B" (.int 0)) (V_sv : Arv Z h0 sv ks .byte (7 : Int32) [(.int 45), (.int 45), (.int 113), (.int 117), (.int 101), (.int 117), (.int 101)] (.int 0)) (S_COMPACT_STRINGS : Sta Z h0 "java/lang/String" "COMPACT_STRINGS" "Z" (.int cs)) (hcs : ¬ cs = (0 : Int32)) :
    MetFree l (⟨"java/lang/String", "length", "()I"⟩ : MethodName) (head1 (Jvm.Cond.code (⟨"java/lang/String", "length", "()I"⟩ : MethodName) jdk_42_method_54_code 1 (some .int) :: ws) ({ frames := 1, cells := 0, slots := 0, locals := 13 } : Room)) (fun a U => a = #[(.ref o0)] ∧ Z.Warmed39 U.vm ∧ U.heap = h0) (fun _ _ _ _ _ => True) (fun _ U o U' => ∃ v L, o = .returned v ∧ Q_rmLNqf Z o0 sv ks cs h0 n0 v U'.heap L ∧ FrameEnd U o U' L ({ frames := 1, cells := 0, slots := 0, locals := 13 } : Room).cells ({ frames := 1, cells := 0, slots := 0, locals := 13 } : Room).slots) := by
  refine MetFree.of_bodySF (plainFor_of_name pn_java_lang_String) hisR ?_
  intro p e s m args below meth c s₁ Bd hml0 hP hK
  obtain ⟨rfl, hZ, hh⟩ := hP
  have hx := Bd.exec
  have hby := Bd.bytes
  have hml : c.maxLocals = 1 := hml0
  have hown : s.vm.findClass "java/lang/String" = some m.cls := findClass_of_methodNamed Bd.named
  have hnm := (name_of_methodNamed Bd.named Bd.method).1
  have hlk := Bd.notSynchronized
  have X0 : Stand p l e ({ frames := 1, cells := 0, slots := 0, locals := 13 } : Room) s m #[(.ref o0)] below meth c s₁ [] 0 0 := Stand.of_body Bd
  have e0 : s₁.heap = h0 := by rw [← hh, Bd.state]; rfl
  have N0 := Fr.nil n0
  show own_G p.tables e below s (Q_rmLNqf Z o0 sv ks cs h0 n0) ({ frames := 1, cells := 0, slots := 0, locals := 13 } : Room).cells ({ frames := 1, cells := 0, slots := 0, locals := 13 } : Room).slots _
  refine own_thr (a := s₁.setTop (mkF m 0 #[.val (.ref o0)] [])) (fun t kt => castTop (ef_rmLNqf m o0) kt) ?_
  refine own_thr (a := s₁.setTop (mkF m 1 #[.val (.ref o0)] [(.ref o0)])) (fun t kt => ?_) ?_
  · show Steps p.tables e below (s₁.setTop (mkF m 0 #[.val (.ref o0)] [])) _
    refine XS.aloadN X0.here hx rfl (hb hby d7_0) rfl rfl ?_
    exact kt
  obtain ⟨T1, X1, e1, st1⟩ := getF X0 hx hZ hown (host := "") (Or.inl (hw _ (List.mem_of_getElem? (i := 47) rfl))) Via.refl e0 F_value_o0 (g := (mkF m 1 #[.val (.ref o0)] [(.ref o0)])) rfl rfl (hb hby d7_1)
  refine own_thr (a := T1.setTop (mkF m 4 #[.val (.ref o0)] [(.ref sv)])) (fun t kt => st1 t kt) ?_
  obtain ⟨cl2, Ar2, -, S2, M2, -, -⟩ := id V_sv
  refine own_thr (a := T1.setTop (mkF m 6 #[.val (.ref o0)] [(.ref o0), (.int 7)])) (fun t kt => ?_) ?_
  · show Steps p.tables e below (T1.setTop (mkF m 4 #[.val (.ref o0)] [(.ref sv)])) _
    refine X1.arraylength hx (by rw [e1]; exact Ar2.1) (State.isArrayOf_alike hZ.alike Ar2.2.1) (g := (mkF m 4 #[.val (.ref o0)] [(.ref sv)])) rfl rfl (hb hby d7_4) _ ?_
    rw [len_of S2 M2]
    refine XS.aloadN X1.here hx rfl (hb hby d7_5) rfl rfl ?_
    exact kt
  obtain ⟨cq3, kq3, q3a, q3b, q3c⟩ := isOf hZ e1 E_o0
  obtain ⟨_, _, ⟨T3, L3, k3, n3⟩, -, X3, ⟨Lc3, hQ3, l3, y3, z3⟩, st3⟩ := X1.virtualBack hx (y := (⟨"java/lang/String", "coder", "()B"⟩ : MethodName)) (z := (⟨"java/lang/String", "coder", "()B"⟩ : MethodName)) hown (mvT hZ (hw _ (List.mem_of_getElem? (i := 49) rfl))) (mvT hZ (hw _ (List.mem_of_getElem? (i := 50) rfl))) (notFace_of_selects (args := #[]) (mvT hZ (hw _ (List.mem_of_getElem? (i := 52) rfl)))) (mvT hZ (hw _ (List.mem_of_getElem? (i := 52) rfl))) (mvT hZ (hw _ (List.mem_of_getElem? (i := 51) rfl))) (by decide) (backOf (W := 1) (rmCO l Z a0 hw [] o0 cs h0 n0 Z0 F_coder_o0 S_COMPACT_STRINGS hcs) hZ (hw _ (List.mem_of_getElem? (i := 53) rfl)) (hw _ (List.mem_of_getElem? (i := 24) rfl)) (by decide) (by decide)) q3a q3c (g := (mkF m 6 #[.val (.ref o0)] [(.ref o0), (.int 7)])) rfl (by rw [hml]; rfl) (Steps.refl _) (argsL := []) (rest := [(.int 7)]) (lenOf pd__28_29B rfl) rfl (by show 2 * 0 + _ ≤ _; exact Nat.le_of_eq rfl) (hb hby d7_6) (fun _ _ => ⟨rfl, e1, (by decide : 0 + 0 ≤ _), (by decide : 0 + 0 ≤ _)⟩)
  dsimp only [Pt.U, Pt.locs, Pt.cells, Pt.slots] at X3 l3 y3 z3 st3 hQ3
  obtain ⟨rfl, N3q, e3⟩ := hQ3
  obtain ⟨lc3, X3, N3⟩ := own_pack X3 l3 y3 z3 N0 N3q (C := 0) (S' := 0) rfl rfl
  refine own_thr (a := T3.setTop (mkF m 9 #[.val (.ref o0)] [(.int 0), (.int 7)])) (fun t kt => st3.trans kt) ?_
  refine own_thr (a := T3.setTop (mkF m 10 #[.val (.ref o0)] [(.int 7)])) (fun t kt => ?_) ?_
  · show Steps p.tables e below (T3.setTop (mkF m 9 #[.val (.ref o0)] [(.int 0), (.int 7)])) _
    refine XS.ishr X3.here hx rfl (hb hby d7_9) rfl ?_
    exact kt
  exact own_end X3 hlk (v := some (.int 7)) (fun h => by rw [Bd.returns] at h; cases h) (fun fs hr => retI X3 hx Bd.returns (hb hby d7_10) hr) (by rw [e3]; exact ⟨rfl, N3, rfl⟩) (by decide : 0 ≤ _) (by decide : 0 ≤ _)
theorem ef_rmLNqs (m : MethodId) (o0 : Addr)  : entryFrame m #[(.ref o0)] 1 = mkF m 0 #[.val (.ref o0)] [] := by first |  (simp [entryFrame, mkF, argsToLocals, Value.category]; done) | rfl
def Q_rmLNqs (Z : State) (o0 : Addr) (sv : Addr) (ks : ClassId) (cs : Int32) (h0 : Heap) (n0 : Nat) (v : Option Value) (h : Heap) (L : List Loc) : Prop := v = some (.int 14) ∧ Fr n0 L ∧ h = h0
set_option maxRecDepth 65536 in
set_option maxHeartbeats 40000000 in
theorem rmLNqs (l : Launch) (Z : State) (a0 : Array Value) (hw : ∀ d ∈ tables_1, d.before a0 Z = true) (ws : List Jvm.Cond) (o0 : Addr) (sv : Addr) (ks : ClassId) (cs : Int32) (h0 : Heap) (n0 : Nat) (Z0 : n0 ≤ h0.size) (E_o0 : Exa Z h0 o0 "java/lang/String") (F_value_o0 : Fld Z h0 o0 "java/lang/String" "value" "[B" (.ref sv)) (F_coder_o0 : Fld Z h0 o0 "java/lang/String" "coder" "B" (.int 0)) (V_sv : Arv Z h0 sv ks .byte (14 : Int32) [(.int 45), (.int 45), (.int 113), (.int 117), (.int 101), (.int 117), (.int 101), (.int 32), (.int 60), (.int 110), (.int 97), (.int 109), (.int 101), (.int 62)] (.int 0)) (S_COMPACT_STRINGS : Sta Z h0 "java/lang/String" "COMPACT_STRINGS" "Z" (.int cs)) (hcs : ¬ cs = (0 : Int32)) :
    MetFree l (⟨"java/lang/String", "length", "()I"⟩ : MethodName) (head1 (Jvm.Cond.code (⟨"java/lang/String", "length", "()I"⟩ : MethodName) jdk_42_method_54_code 1 (some .int) :: ws) ({ frames := 1, cells := 0, slots := 0, locals := 13 } : Room)) (fun a U => a = #[(.ref o0)] ∧ Z.Warmed39 U.vm ∧ U.heap = h0) (fun _ _ _ _ _ => True) (fun _ U o U' => ∃ v L, o = .returned v ∧ Q_rmLNqs Z o0 sv ks cs h0 n0 v U'.heap L ∧ FrameEnd U o U' L ({ frames := 1, cells := 0, slots := 0, locals := 13 } : Room).cells ({ frames := 1, cells := 0, slots := 0, locals := 13 } : Room).slots) := by
  refine MetFree.of_bodySF (plainFor_of_name pn_java_lang_String) hisR ?_
  intro p e s m args below meth c s₁ Bd hml0 hP hK
  obtain ⟨rfl, hZ, hh⟩ := hP
  have hx := Bd.exec
  have hby := Bd.bytes
  have hml : c.maxLocals = 1 := hml0
  have hown : s.vm.findClass "java/lang/String" = some m.cls := findClass_of_methodNamed Bd.named
  have hnm := (name_of_methodNamed Bd.named Bd.method).1
  have hlk := Bd.notSynchronized
  have X0 : Stand p l e ({ frames := 1, cells := 0, slots := 0, locals := 13 } : Room) s m #[(.ref o0)] below meth c s₁ [] 0 0 := Stand.of_body Bd
  have e0 : s₁.heap = h0 := by rw [← hh, Bd.state]; rfl
  have N0 := Fr.nil n0
  show own_G p.tables e below s (Q_rmLNqs Z o0 sv ks cs h0 n0) ({ frames := 1, cells := 0, slots := 0, locals := 13 } : Room).cells ({ frames := 1, cells := 0, slots := 0, locals := 13 } : Room).slots _
  refine own_thr (a := s₁.setTop (mkF m 0 #[.val (.ref o0)] [])) (fun t kt => castTop (ef_rmLNqs m o0) kt) ?_
  refine own_thr (a := s₁.setTop (mkF m 1 #[.val (.ref o0)] [(.ref o0)])) (fun t kt => ?_) ?_
  · show Steps p.tables e below (s₁.setTop (mkF m 0 #[.val (.ref o0)] [])) _
    refine XS.aloadN X0.here hx rfl (hb hby d7_0) rfl rfl ?_
    exact kt
  obtain ⟨T1, X1, e1, st1⟩ := getF X0 hx hZ hown (host := "") (Or.inl (hw _ (List.mem_of_getElem? (i := 47) rfl))) Via.refl e0 F_value_o0 (g := (mkF m 1 #[.val (.ref o0)] [(.ref o0)])) rfl rfl (hb hby d7_1)
  refine own_thr (a := T1.setTop (mkF m 4 #[.val (.ref o0)] [(.ref sv)])) (fun t kt => st1 t kt) ?_
  obtain ⟨cl2, Ar2, -, S2, M2, -, -⟩ := id V_sv
  refine own_thr (a := T1.setTop (mkF m 6 #[.val (.ref o0)] [(.ref o0), (.int 14)])) (fun t kt => ?_) ?_
  · show Steps p.tables e below (T1.setTop (mkF m 4 #[.val (.ref o0)] [(.ref sv)])) _
    refine X1.arraylength hx (by rw [e1]; exact Ar2.1) (State.isArrayOf_alike hZ.alike Ar2.2.1) (g := (mkF m 4 #[.val (.ref o0)] [(.ref sv)])) rfl rfl (hb hby d7_4) _ ?_
    rw [len_of S2 M2]
    refine XS.aloadN X1.here hx rfl (hb hby d7_5) rfl rfl ?_
    exact kt
  obtain ⟨cq3, kq3, q3a, q3b, q3c⟩ := isOf hZ e1 E_o0
  obtain ⟨_, _, ⟨T3, L3, k3, n3⟩, -, X3, ⟨Lc3, hQ3, l3, y3, z3⟩, st3⟩ := X1.virtualBack hx (y := (⟨"java/lang/String", "coder", "()B"⟩ : MethodName)) (z := (⟨"java/lang/String", "coder", "()B"⟩ : MethodName)) hown (mvT hZ (hw _ (List.mem_of_getElem? (i := 49) rfl))) (mvT hZ (hw _ (List.mem_of_getElem? (i := 50) rfl))) (notFace_of_selects (args := #[]) (mvT hZ (hw _ (List.mem_of_getElem? (i := 52) rfl)))) (mvT hZ (hw _ (List.mem_of_getElem? (i := 52) rfl))) (mvT hZ (hw _ (List.mem_of_getElem? (i := 51) rfl))) (by decide) (backOf (W := 1) (rmCO l Z a0 hw [] o0 cs h0 n0 Z0 F_coder_o0 S_COMPACT_STRINGS hcs) hZ (hw _ (List.mem_of_getElem? (i := 53) rfl)) (hw _ (List.mem_of_getElem? (i := 24) rfl)) (by decide) (by decide)) q3a q3c (g := (mkF m 6 #[.val (.ref o0)] [(.ref o0), (.int 14)])) rfl (by rw [hml]; rfl) (Steps.refl _) (argsL := []) (rest := [(.int 14)]) (lenOf pd__28_29B rfl) rfl (by show 2 * 0 + _ ≤ _; exact Nat.le_of_eq rfl) (hb hby d7_6) (fun _ _ => ⟨rfl, e1, (by decide : 0 + 0 ≤ _), (by decide : 0 + 0 ≤ _)⟩)
  dsimp only [Pt.U, Pt.locs, Pt.cells, Pt.slots] at X3 l3 y3 z3 st3 hQ3
  obtain ⟨rfl, N3q, e3⟩ := hQ3
  obtain ⟨lc3, X3, N3⟩ := own_pack X3 l3 y3 z3 N0 N3q (C := 0) (S' := 0) rfl rfl
  refine own_thr (a := T3.setTop (mkF m 9 #[.val (.ref o0)] [(.int 0), (.int 14)])) (fun t kt => st3.trans kt) ?_
  refine own_thr (a := T3.setTop (mkF m 10 #[.val (.ref o0)] [(.int 14)])) (fun t kt => ?_) ?_
  · show Steps p.tables e below (T3.setTop (mkF m 9 #[.val (.ref o0)] [(.int 0), (.int 14)])) _
    refine XS.ishr X3.here hx rfl (hb hby d7_9) rfl ?_
    exact kt
  exact own_end X3 hlk (v := some (.int 14)) (fun h => by rw [Bd.returns] at h; cases h) (fun fs hr => retI X3 hx Bd.returns (hb hby d7_10) hr) (by rw [e3]; exact ⟨rfl, N3, rfl⟩) (by decide : 0 ≤ _) (by decide : 0 ≤ _)
theorem ef_rmPCq (m : MethodId) (fm : Value) (hfm : fm.isRef = true) : entryFrame m #[(.int 7), (.int 14), fm] 3 = mkF m 0 #[.val (.int 7), .val (.int 14), .val fm] [] := by first | (rcases ref_cases hfm with rfl | ⟨zfm, rfl⟩ <;> simp [entryFrame, mkF, argsToLocals, Value.category]; done) |  (simp [entryFrame, mkF, argsToLocals, Value.category]; done) | rfl
def Q_rmPCq (Z : State) (fm : Value) (h0 : Heap) (n0 : Nat) (v : Option Value) (h : Heap) (L : List Loc) : Prop := v = some (.int 7) ∧ Fr n0 L ∧ h = h0
set_option maxRecDepth 65536 in
set_option maxHeartbeats 40000000 in
theorem rmPCq (l : Launch) (Z : State) (a0 : Array Value) (hw : ∀ d ∈ tables_1, d.before a0 Z = true) (ws : List Jvm.Cond) (fm : Value) (h0 : Heap) (n0 : Nat) (Z0 : n0 ≤ h0.size) (hfm : fm.isRef = true) :
    MetFree l (⟨"jdk/internal/util/Preconditions", "checkIndex", "(IILjava/util/function/BiFunction;)I"⟩ : MethodName) (head1 (Jvm.Cond.code (⟨"jdk/internal/util/Preconditions", "checkIndex", "(IILjava/util/function/BiFunction;)I"⟩ : MethodName) jdk_41_method_11_code 3 (some .int) :: ws) ({ frames := 0, cells := 0, slots := 0, locals := 0 } : Room)) (fun a U => a = #[(.int 7), (.int 14), fm] ∧ Z.Warmed39 U.vm ∧ U.heap = h0) (fun _ _ _ _ _ => True) (fun _ U o U' => ∃ v L, o = .returned v ∧ Q_rmPCq Z fm h0 n0 v U'.heap L ∧ FrameEnd U o U' L ({ frames := 0, cells := 0, slots := 0, locals := 0 } : Room).cells ({ frames := 0, cells := 0, slots := 0, locals := 0 } : Room).slots) := by
  refine MetFree.of_bodySF (plainFor_of_name pn_jdk_internal_util_Preconditions) hisR ?_
  intro p e s m args below meth c s₁ Bd hml0 hP hK
  obtain ⟨rfl, hZ, hh⟩ := hP
  have hx := Bd.exec
  have hby := Bd.bytes
  have hml : c.maxLocals = 3 := hml0
  have hown : s.vm.findClass "jdk/internal/util/Preconditions" = some m.cls := findClass_of_methodNamed Bd.named
  have hnm := (name_of_methodNamed Bd.named Bd.method).1
  have hlk := Bd.notSynchronized
  have X0 : Stand p l e ({ frames := 0, cells := 0, slots := 0, locals := 0 } : Room) s m #[(.int 7), (.int 14), fm] below meth c s₁ [] 0 0 := Stand.of_body Bd
  have e0 : s₁.heap = h0 := by rw [← hh, Bd.state]; rfl
  have N0 := Fr.nil n0
  show own_G p.tables e below s (Q_rmPCq Z fm h0 n0) ({ frames := 0, cells := 0, slots := 0, locals := 0 } : Room).cells ({ frames := 0, cells := 0, slots := 0, locals := 0 } : Room).slots _
  refine own_thr (a := s₁.setTop (mkF m 0 #[.val (.int 7), .val (.int 14), .val fm] [])) (fun t kt => castTop (ef_rmPCq m fm hfm) kt) ?_
  refine own_thr (a := s₁.setTop (mkF m 17 #[.val (.int 7), .val (.int 14), .val fm] [(.int 7)])) (fun t kt => ?_) ?_
  · show Steps p.tables e below (s₁.setTop (mkF m 0 #[.val (.int 7), .val (.int 14), .val fm] [])) _
    refine XS.iloadN X0.here hx rfl (hb hby d28_0) rfl ?_
    refine XS.ifNo X0.here hx rfl (hb hby d28_1) rfl ((if0 _ _).trans (flt (by decide)).1) ?_
    refine XS.iloadN X0.here hx rfl (hb hby d28_4) rfl ?_
    refine XS.iloadN X0.here hx rfl (hb hby d28_5) rfl ?_
    refine XS.icmpYes X0.here hx rfl (pc0 := 6) (pc' := 16) rfl (hb hby d28_6) rfl (tlt (by decide)).1 (by decide) (by decide) ?_
    refine XS.iloadN X0.here hx rfl (hb hby d28_16) rfl ?_
    exact kt
  exact own_end X0 hlk (v := some (.int 7)) (fun h => by rw [Bd.returns] at h; cases h) (fun fs hr => retI X0 hx Bd.returns (hb hby d28_17) hr) (by rw [e0]; exact ⟨rfl, N0, rfl⟩) (by decide : 0 ≤ _) (by decide : 0 ≤ _)
theorem ef_rmCIq (m : MethodId)   : entryFrame m #[(.int 7), (.int 14)] 2 = mkF m 0 #[.val (.int 7), .val (.int 14)] [] := by first |  (simp [entryFrame, mkF, argsToLocals, Value.category]; done) | rfl
def Q_rmCIq (Z : State)  (fm : Value) (h0 : Heap) (n0 : Nat) (v : Option Value) (h : Heap) (L : List Loc) : Prop := v = none ∧ Fr n0 L ∧ h = h0
set_option maxRecDepth 65536 in
set_option maxHeartbeats 40000000 in
theorem rmCIq (l : Launch) (Z : State) (a0 : Array Value) (hw : ∀ d ∈ tables_1, d.before a0 Z = true) (ws : List Jvm.Cond)  (fm : Value) (h0 : Heap) (n0 : Nat) (Z0 : n0 ≤ h0.size) (S_SIOOBE_FORMATTER : Sta Z h0 "jdk/internal/util/Preconditions" "SIOOBE_FORMATTER" "Ljava/util/function/BiFunction;" fm) (hfm : fm.isRef = true) :
    MetFree l (⟨"java/lang/String", "checkIndex", "(II)V"⟩ : MethodName) (head1 (Jvm.Cond.code (⟨"java/lang/String", "checkIndex", "(II)V"⟩ : MethodName) jdk_42_method_155_code 2 none :: ws) ({ frames := 1, cells := 0, slots := 0, locals := 14 } : Room)) (fun a U => a = #[(.int 7), (.int 14)] ∧ Z.Warmed39 U.vm ∧ U.heap = h0) (fun _ _ _ _ _ => True) (fun _ U o U' => ∃ v L, o = .returned v ∧ Q_rmCIq Z  fm h0 n0 v U'.heap L ∧ FrameEnd U o U' L ({ frames := 1, cells := 0, slots := 0, locals := 14 } : Room).cells ({ frames := 1, cells := 0, slots := 0, locals := 14 } : Room).slots) := by
  refine MetFree.of_bodySF (plainFor_of_name pn_java_lang_String) hisR ?_
  intro p e s m args below meth c s₁ Bd hml0 hP hK
  obtain ⟨rfl, hZ, hh⟩ := hP
  have hx := Bd.exec
  have hby := Bd.bytes
  have hml : c.maxLocals = 2 := hml0
  have hown : s.vm.findClass "java/lang/String" = some m.cls := findClass_of_methodNamed Bd.named
  have hnm := (name_of_methodNamed Bd.named Bd.method).1
  have hlk := Bd.notSynchronized
  have X0 : Stand p l e ({ frames := 1, cells := 0, slots := 0, locals := 14 } : Room) s m #[(.int 7), (.int 14)] below meth c s₁ [] 0 0 := Stand.of_body Bd
  have e0 : s₁.heap = h0 := by rw [← hh, Bd.state]; rfl
  have N0 := Fr.nil n0
  show own_G p.tables e below s (Q_rmCIq Z  fm h0 n0) ({ frames := 1, cells := 0, slots := 0, locals := 14 } : Room).cells ({ frames := 1, cells := 0, slots := 0, locals := 14 } : Room).slots _
  refine own_thr (a := s₁.setTop (mkF m 0 #[.val (.int 7), .val (.int 14)] [])) (fun t kt => castTop (ef_rmCIq m ) kt) ?_
  refine own_thr (a := s₁.setTop (mkF m 2 #[.val (.int 7), .val (.int 14)] [(.int 14), (.int 7)])) (fun t kt => ?_) ?_
  · show Steps p.tables e below (s₁.setTop (mkF m 0 #[.val (.int 7), .val (.int 14)] [])) _
    refine XS.iloadN X0.here hx rfl (hb hby d27_0) rfl ?_
    refine XS.iloadN X0.here hx rfl (hb hby d27_1) rfl ?_
    exact kt
  obtain ⟨T1, X1, e1, st1⟩ := getS2 X0 hx hZ hown (host := "") (Or.inl (hw _ (List.mem_of_getElem? (i := 169) rfl))) Via.refl e0 S_SIOOBE_FORMATTER (g := (mkF m 2 #[.val (.int 7), .val (.int 14)] [(.int 14), (.int 7)])) rfl (hb hby d27_2)
  refine own_thr (a := T1.setTop (mkF m 5 #[.val (.int 7), .val (.int 14)] [fm, (.int 14), (.int 7)])) (fun t kt => st1 t kt) ?_
  obtain ⟨_, _, ⟨T2, L2, k2, n2⟩, -, X2, ⟨Lc2, hQ2, l2, y2, z2⟩, st2⟩ := Jvm.LawKit.callS X1 hx (y := (⟨"jdk/internal/util/Preconditions", "checkIndex", "(IILjava/util/function/BiFunction;)I"⟩ : MethodName)) hown (mvT hZ (hw _ (List.mem_of_getElem? (i := 171) rfl))) (mvT hZ (hw _ (List.mem_of_getElem? (i := 172) rfl))) (mvT hZ (hw _ (List.mem_of_getElem? (i := 170) rfl))) (mvT hZ (hw _ (List.mem_of_getElem? (i := 173) rfl))) (by decide) (backOf (W := 0) (rmPCq l Z a0 hw [] fm h0 n0 Z0 hfm) hZ (hw _ (List.mem_of_getElem? (i := 173) rfl)) (hw _ (List.mem_of_getElem? (i := 170) rfl)) (by decide) (by decide)) (g := (mkF m 5 #[.val (.int 7), .val (.int 14)] [fm, (.int 14), (.int 7)])) rfl (by rw [hml]; rfl) (argsL := [(.int 7), (.int 14), fm]) (rest := []) (lenOf pd__28IILjava_2futil_2ffunction_2fBiFunction_3b_29I rfl) rfl (by show 2 * 0 + _ ≤ _; exact Nat.le_of_eq rfl) (hb hby d27_5) (fun _ _ => ⟨rfl, e1, (by decide : 0 + 0 ≤ _), (by decide : 0 + 0 ≤ _)⟩)
  dsimp only [Pt.U, Pt.locs, Pt.cells, Pt.slots] at X2 l2 y2 z2 st2 hQ2
  obtain ⟨rfl, N2q, e2⟩ := hQ2
  obtain ⟨lc2, X2, N2⟩ := own_pack X2 l2 y2 z2 N0 N2q (C := 0) (S' := 0) rfl rfl
  refine own_thr (a := T2.setTop (mkF m 8 #[.val (.int 7), .val (.int 14)] [(.int 7)])) (fun t kt => st2 t kt) ?_
  refine own_thr (a := T2.setTop (mkF m 9 #[.val (.int 7), .val (.int 14)] [])) (fun t kt => ?_) ?_
  · show Steps p.tables e below (T2.setTop (mkF m 8 #[.val (.int 7), .val (.int 14)] [(.int 7)])) _
    refine XS.pop X2.here hx rfl (hb hby d27_8) rfl rfl ?_
    exact kt
  exact own_end X2 hlk (v := none) (fun _ => rfl) (fun fs hr => X2.returnOut hx Bd.returns (hb hby d27_9) hr) (by rw [e2]; exact ⟨rfl, N2, rfl⟩) (by decide : 0 ≤ _) (by decide : 0 ≤ _)
theorem ef_rmLCq (m : MethodId) (o0 : Addr)  : entryFrame m #[(.ref o0), (.int 7)] 2 = mkF m 0 #[.val (.ref o0), .val (.int 7)] [] := by first |  (simp [entryFrame, mkF, argsToLocals, Value.category]; done) | rfl
def Q_rmLCq (Z : State) (o0 : Addr) (k0 : ClassId) (fm : Value) (h0 : Heap) (n0 : Nat) (v : Option Value) (h : Heap) (L : List Loc) : Prop := v = some (.int (nar .char (((32 : Int32) &&& (255 : Int32)).toUInt32.toUInt16.toUInt32.toInt32))) ∧ Fr n0 L ∧ h = h0
set_option maxRecDepth 65536 in
set_option maxHeartbeats 40000000 in
theorem rmLCq (l : Launch) (Z : State) (a0 : Array Value) (hw : ∀ d ∈ tables_1, d.before a0 Z = true) (ws : List Jvm.Cond) (o0 : Addr) (k0 : ClassId) (fm : Value) (h0 : Heap) (n0 : Nat) (Z0 : n0 ≤ h0.size) (V_o0 : Arv Z h0 o0 k0 .byte (14 : Int32) [(.int 45), (.int 45), (.int 113), (.int 117), (.int 101), (.int 117), (.int 101), (.int 32), (.int 60), (.int 110), (.int 97), (.int 109), (.int 101), (.int 62)] (.int 0)) (S_SIOOBE_FORMATTER : Sta Z h0 "jdk/internal/util/Preconditions" "SIOOBE_FORMATTER" "Ljava/util/function/BiFunction;" fm) (hfm : fm.isRef = true) :
    MetFree l (⟨"java/lang/StringLatin1", "charAt", "([BI)C"⟩ : MethodName) (head1 (Jvm.Cond.code (⟨"java/lang/StringLatin1", "charAt", "([BI)C"⟩ : MethodName) jdk_43_method_2_code 2 (some .char) :: ws) ({ frames := 2, cells := 0, slots := 0, locals := 27 } : Room)) (fun a U => a = #[(.ref o0), (.int 7)] ∧ Z.Warmed39 U.vm ∧ U.heap = h0) (fun _ _ _ _ _ => True) (fun _ U o U' => ∃ v L, o = .returned v ∧ Q_rmLCq Z o0 k0 fm h0 n0 v U'.heap L ∧ FrameEnd U o U' L ({ frames := 2, cells := 0, slots := 0, locals := 27 } : Room).cells ({ frames := 2, cells := 0, slots := 0, locals := 27 } : Room).slots) := by
  refine MetFree.of_bodySF (plainFor_of_name pn_java_lang_StringLatin1) hisR ?_
  intro p e s m args below meth c s₁ Bd hml0 hP hK
  obtain ⟨rfl, hZ, hh⟩ := hP
  have hx := Bd.exec
  have hby := Bd.bytes
  have hml : c.maxLocals = 2 := hml0
  have hown : s.vm.findClass "java/lang/StringLatin1" = some m.cls := findClass_of_methodNamed Bd.named
  have hnm := (name_of_methodNamed Bd.named Bd.method).1
  have hlk := Bd.notSynchronized
  have X0 : Stand p l e ({ frames := 2, cells := 0, slots := 0, locals := 27 } : Room) s m #[(.ref o0), (.int 7)] below meth c s₁ [] 0 0 := Stand.of_body Bd
  have e0 : s₁.heap = h0 := by rw [← hh, Bd.state]; rfl
  have N0 := Fr.nil n0
  show own_G p.tables e below s (Q_rmLCq Z o0 k0 fm h0 n0) ({ frames := 2, cells := 0, slots := 0, locals := 27 } : Room).cells ({ frames := 2, cells := 0, slots := 0, locals := 27 } : Room).slots _
  refine own_thr (a := s₁.setTop (mkF m 0 #[.val (.ref o0), .val (.int 7)] [])) (fun t kt => castTop (ef_rmLCq m o0) kt) ?_
  refine own_thr (a := s₁.setTop (mkF m 2 #[.val (.ref o0), .val (.int 7)] [(.ref o0), (.int 7)])) (fun t kt => ?_) ?_
  · show Steps p.tables e below (s₁.setTop (mkF m 0 #[.val (.ref o0), .val (.int 7)] [])) _
    refine XS.iloadN X0.here hx rfl (hb hby d26_0) rfl ?_
    refine XS.aloadN X0.here hx rfl (hb hby d26_1) rfl rfl ?_
    exact kt
  obtain ⟨cl1, Ar1, -, S1, M1, -, -⟩ := id V_o0
  refine own_thr (a := s₁.setTop (mkF m 3 #[.val (.ref o0), .val (.int 7)] [(.int 14), (.int 7)])) (fun t kt => ?_) ?_
  · show Steps p.tables e below (s₁.setTop (mkF m 2 #[.val (.ref o0), .val (.int 7)] [(.ref o0), (.int 7)])) _
    refine X0.arraylength hx (by rw [e0]; exact Ar1.1) (State.isArrayOf_alike hZ.alike Ar1.2.1) (g := (mkF m 2 #[.val (.ref o0), .val (.int 7)] [(.ref o0), (.int 7)])) rfl rfl (hb hby d26_2) _ ?_
    rw [len_of S1 M1]
    exact kt
  obtain ⟨_, _, ⟨T2, L2, k2, n2⟩, -, X2, ⟨Lc2, hQ2, l2, y2, z2⟩, st2⟩ := Jvm.LawKit.callS X0 hx (y := (⟨"java/lang/String", "checkIndex", "(II)V"⟩ : MethodName)) hown (mvT hZ (hw _ (List.mem_of_getElem? (i := 166) rfl))) (mvT hZ (hw _ (List.mem_of_getElem? (i := 167) rfl))) (mvT hZ (hw _ (List.mem_of_getElem? (i := 24) rfl))) (mvT hZ (hw _ (List.mem_of_getElem? (i := 168) rfl))) (by decide) (backOf (W := 0) (rmCIq l Z a0 hw []  fm h0 n0 Z0 S_SIOOBE_FORMATTER hfm) hZ (hw _ (List.mem_of_getElem? (i := 168) rfl)) (hw _ (List.mem_of_getElem? (i := 24) rfl)) (by decide) (by decide)) (g := (mkF m 3 #[.val (.ref o0), .val (.int 7)] [(.int 14), (.int 7)])) rfl (by rw [hml]; rfl) (argsL := [(.int 7), (.int 14)]) (rest := []) (lenOf pd__28II_29V rfl) rfl (by show 2 * 0 + _ ≤ _; exact Nat.le_of_eq rfl) (hb hby d26_3) (fun _ _ => ⟨rfl, e0, (by decide : 0 + 0 ≤ _), (by decide : 0 + 0 ≤ _)⟩)
  dsimp only [Pt.U, Pt.locs, Pt.cells, Pt.slots] at X2 l2 y2 z2 st2 hQ2
  obtain ⟨rfl, N2q, e2⟩ := hQ2
  obtain ⟨lc2, X2, N2⟩ := own_pack X2 l2 y2 z2 N0 N2q (C := 0) (S' := 0) rfl rfl
  refine own_thr (a := T2.setTop (mkF m 6 #[.val (.ref o0), .val (.int 7)] [])) (fun t kt => st2 t kt) ?_
  refine own_thr (a := T2.setTop (mkF m 8 #[.val (.ref o0), .val (.int 7)] [(.int 7), (.ref o0)])) (fun t kt => ?_) ?_
  · show Steps p.tables e below (T2.setTop (mkF m 6 #[.val (.ref o0), .val (.int 7)] [])) _
    refine XS.aloadN X2.here hx rfl (hb hby d26_6) rfl rfl ?_
    refine XS.iloadN X2.here hx rfl (hb hby d26_7) rfl ?_
    exact kt
  obtain ⟨cl3, Ar3, -, S3, M3, H3, -⟩ := id V_o0
  have hin3 : ¬ ((7 : Int32) < 0 ∨ cl3.slots.size ≤ ((7 : Int32)).toNatClampNeg) := inb_of S3 ⟨by decide, by decide⟩
  have hat3 : cl3.slots[((7 : Int32)).toNatClampNeg]? = some (.int 32) := Has.at H3 hin3 rfl
  refine own_thr (a := T2.setTop (mkF m 14 #[.val (.ref o0), .val (.int 7)] [(.int (((32 : Int32) &&& (255 : Int32)).toUInt32.toUInt16.toUInt32.toInt32))])) (fun t kt => ?_) ?_
  · show Steps p.tables e below (T2.setTop (mkF m 8 #[.val (.ref o0), .val (.int 7)] [(.int 7), (.ref o0)])) _
    refine X2.baloadBytes hx (j := (7 : Int32)) (v := (.int 32)) (by rw [e2]; exact Ar3.1) (State.isArrayOf_alike hZ.alike Ar3.2.1) Ar3.2.2 hin3 hat3 (g := (mkF m 8 #[.val (.ref o0), .val (.int 7)] [(.int 7), (.ref o0)])) rfl rfl (hb hby d26_8) _ ?_
    refine XS.sipush X2.here hx rfl (hb hby d26_9) ?_
    refine XS.iand X2.here hx rfl (hb hby d26_12) rfl ?_
    refine XS.i2c X2.here hx rfl (hb hby d26_13) rfl ?_
    exact kt
  exact own_end X2 hlk (v := some (.int (nar .char (((32 : Int32) &&& (255 : Int32)).toUInt32.toUInt16.toUInt32.toInt32)))) (fun h => by rw [Bd.returns] at h; cases h) (fun fs hr => retN X2 hx (t := .char) Bd.returns (by simp) (hb hby d26_14) hr) (by rw [e2]; exact ⟨rfl, N2, rfl⟩) (by decide : 0 ≤ _) (by decide : 0 ≤ _)
theorem ef_rmCAq (m : MethodId) (o0 : Addr)  : entryFrame m #[(.ref o0), (.int 7)] 2 = mkF m 0 #[.val (.ref o0), .val (.int 7)] [] := by first |  (simp [entryFrame, mkF, argsToLocals, Value.category]; done) | rfl
def Q_rmCAq (Z : State) (o0 : Addr) (sv : Addr) (ks : ClassId) (cs : Int32) (fm : Value) (h0 : Heap) (n0 : Nat) (v : Option Value) (h : Heap) (L : List Loc) : Prop := v = some (.int (nar .char (nar .char (((32 : Int32) &&& (255 : Int32)).toUInt32.toUInt16.toUInt32.toInt32)))) ∧ Fr n0 L ∧ h = h0
set_option maxRecDepth 65536 in
set_option maxHeartbeats 40000000 in
theorem rmCAq (l : Launch) (Z : State) (a0 : Array Value) (hw : ∀ d ∈ tables_1, d.before a0 Z = true) (ws : List Jvm.Cond) (o0 : Addr) (sv : Addr) (ks : ClassId) (cs : Int32) (fm : Value) (h0 : Heap) (n0 : Nat) (Z0 : n0 ≤ h0.size) (E_o0 : Exa Z h0 o0 "java/lang/String") (F_value_o0 : Fld Z h0 o0 "java/lang/String" "value" "[B" (.ref sv)) (F_coder_o0 : Fld Z h0 o0 "java/lang/String" "coder" "B" (.int 0)) (V_sv : Arv Z h0 sv ks .byte (14 : Int32) [(.int 45), (.int 45), (.int 113), (.int 117), (.int 101), (.int 117), (.int 101), (.int 32), (.int 60), (.int 110), (.int 97), (.int 109), (.int 101), (.int 62)] (.int 0)) (S_COMPACT_STRINGS : Sta Z h0 "java/lang/String" "COMPACT_STRINGS" "Z" (.int cs)) (S_SIOOBE_FORMATTER : Sta Z h0 "jdk/internal/util/Preconditions" "SIOOBE_FORMATTER" "Ljava/util/function/BiFunction;" fm) (hcs : ¬ cs = (0 : Int32)) (hfm : fm.isRef = true) :
    MetFree l (⟨"java/lang/String", "charAt", "(I)C"⟩ : MethodName) (head1 (Jvm.Cond.code (⟨"java/lang/String", "charAt", "(I)C"⟩ : MethodName) jdk_42_method_56_code 2 (some .char) :: ws) ({ frames := 3, cells := 0, slots := 0, locals := 40 } : Room)) (fun a U => a = #[(.ref o0), (.int 7)] ∧ Z.Warmed39 U.vm ∧ U.heap = h0) (fun _ _ _ _ _ => True) (fun _ U o U' => ∃ v L, o = .returned v ∧ Q_rmCAq Z o0 sv ks cs fm h0 n0 v U'.heap L ∧ FrameEnd U o U' L ({ frames := 3, cells := 0, slots := 0, locals := 40 } : Room).cells ({ frames := 3, cells := 0, slots := 0, locals := 40 } : Room).slots) := by
  refine MetFree.of_bodySF (plainFor_of_name pn_java_lang_String) hisR ?_
  intro p e s m args below meth c s₁ Bd hml0 hP hK
  obtain ⟨rfl, hZ, hh⟩ := hP
  have hx := Bd.exec
  have hby := Bd.bytes
  have hml : c.maxLocals = 2 := hml0
  have hown : s.vm.findClass "java/lang/String" = some m.cls := findClass_of_methodNamed Bd.named
  have hnm := (name_of_methodNamed Bd.named Bd.method).1
  have hlk := Bd.notSynchronized
  have X0 : Stand p l e ({ frames := 3, cells := 0, slots := 0, locals := 40 } : Room) s m #[(.ref o0), (.int 7)] below meth c s₁ [] 0 0 := Stand.of_body Bd
  have e0 : s₁.heap = h0 := by rw [← hh, Bd.state]; rfl
  have N0 := Fr.nil n0
  show own_G p.tables e below s (Q_rmCAq Z o0 sv ks cs fm h0 n0) ({ frames := 3, cells := 0, slots := 0, locals := 40 } : Room).cells ({ frames := 3, cells := 0, slots := 0, locals := 40 } : Room).slots _
  refine own_thr (a := s₁.setTop (mkF m 0 #[.val (.ref o0), .val (.int 7)] [])) (fun t kt => castTop (ef_rmCAq m o0) kt) ?_
  refine own_thr (a := s₁.setTop (mkF m 1 #[.val (.ref o0), .val (.int 7)] [(.ref o0)])) (fun t kt => ?_) ?_
  · show Steps p.tables e below (s₁.setTop (mkF m 0 #[.val (.ref o0), .val (.int 7)] [])) _
    refine XS.aloadN X0.here hx rfl (hb hby d24_0) rfl rfl ?_
    exact kt
  obtain ⟨cq1, kq1, q1a, q1b, q1c⟩ := isOf hZ e0 E_o0
  obtain ⟨_, _, ⟨T1, L1, k1, n1⟩, -, X1, ⟨Lc1, hQ1, l1, y1, z1⟩, st1⟩ := X0.virtualBack hx (y := (⟨"java/lang/String", "isLatin1", "()Z"⟩ : MethodName)) (z := (⟨"java/lang/String", "isLatin1", "()Z"⟩ : MethodName)) hown (mvT hZ (hw _ (List.mem_of_getElem? (i := 158) rfl))) (mvT hZ (hw _ (List.mem_of_getElem? (i := 159) rfl))) (notFace_of_selects (args := #[]) (mvT hZ (hw _ (List.mem_of_getElem? (i := 161) rfl)))) (mvT hZ (hw _ (List.mem_of_getElem? (i := 161) rfl))) (mvT hZ (hw _ (List.mem_of_getElem? (i := 160) rfl))) (by decide) (backOf (W := 0) (rmS1L l Z a0 hw [] o0 cs h0 n0 Z0 F_coder_o0 S_COMPACT_STRINGS hcs) hZ (hw _ (List.mem_of_getElem? (i := 162) rfl)) (hw _ (List.mem_of_getElem? (i := 24) rfl)) (by decide) (by decide)) q1a q1c (g := (mkF m 1 #[.val (.ref o0), .val (.int 7)] [(.ref o0)])) rfl (by rw [hml]; rfl) (Steps.refl _) (argsL := []) (rest := []) (lenOf pd__28_29Z rfl) rfl (by show 2 * 0 + _ ≤ _; exact Nat.le_of_eq rfl) (hb hby d24_1) (fun _ _ => ⟨rfl, e0, (by decide : 0 + 0 ≤ _), (by decide : 0 + 0 ≤ _)⟩)
  dsimp only [Pt.U, Pt.locs, Pt.cells, Pt.slots] at X1 l1 y1 z1 st1 hQ1
  obtain ⟨rfl, N1q, e1⟩ := hQ1
  obtain ⟨lc1, X1, N1⟩ := own_pack X1 l1 y1 z1 N0 N1q (C := 0) (S' := 0) rfl rfl
  refine own_thr (a := T1.setTop (mkF m 4 #[.val (.ref o0), .val (.int 7)] [(.int 1)])) (fun t kt => st1.trans kt) ?_
  refine own_thr (a := T1.setTop (mkF m 8 #[.val (.ref o0), .val (.int 7)] [(.ref o0)])) (fun t kt => ?_) ?_
  · show Steps p.tables e below (T1.setTop (mkF m 4 #[.val (.ref o0), .val (.int 7)] [(.int 1)])) _
    refine XS.ifNo X1.here hx rfl (hb hby d24_4) rfl ((if0 _ _).trans (feq (by decide)).1) ?_
    refine XS.aloadN X1.here hx rfl (hb hby d24_7) rfl rfl ?_
    exact kt
  obtain ⟨T2, X2, e2, st2⟩ := getF X1 hx hZ hown (host := "") (Or.inl (hw _ (List.mem_of_getElem? (i := 47) rfl))) Via.refl e1 F_value_o0 (g := (mkF m 8 #[.val (.ref o0), .val (.int 7)] [(.ref o0)])) rfl rfl (hb hby d24_8)
  refine own_thr (a := T2.setTop (mkF m 11 #[.val (.ref o0), .val (.int 7)] [(.ref sv)])) (fun t kt => st2 t kt) ?_
  refine own_thr (a := T2.setTop (mkF m 12 #[.val (.ref o0), .val (.int 7)] [(.int 7), (.ref sv)])) (fun t kt => ?_) ?_
  · show Steps p.tables e below (T2.setTop (mkF m 11 #[.val (.ref o0), .val (.int 7)] [(.ref sv)])) _
    refine XS.iloadN X2.here hx rfl (hb hby d24_11) rfl ?_
    exact kt
  obtain ⟨_, _, ⟨T3, L3, k3, n3⟩, -, X3, ⟨Lc3, hQ3, l3, y3, z3⟩, st3⟩ := Jvm.LawKit.callS X2 hx (y := (⟨"java/lang/StringLatin1", "charAt", "([BI)C"⟩ : MethodName)) hown (mvT hZ (hw _ (List.mem_of_getElem? (i := 163) rfl))) (mvT hZ (hw _ (List.mem_of_getElem? (i := 164) rfl))) (mvT hZ (hw _ (List.mem_of_getElem? (i := 150) rfl))) (mvT hZ (hw _ (List.mem_of_getElem? (i := 165) rfl))) (by decide) (backOf (W := 0) (rmLCq l Z a0 hw [] sv ks fm h0 n0 Z0 V_sv S_SIOOBE_FORMATTER hfm) hZ (hw _ (List.mem_of_getElem? (i := 165) rfl)) (hw _ (List.mem_of_getElem? (i := 150) rfl)) (by decide) (by decide)) (g := (mkF m 12 #[.val (.ref o0), .val (.int 7)] [(.int 7), (.ref sv)])) rfl (by rw [hml]; rfl) (argsL := [(.ref sv), (.int 7)]) (rest := []) (lenOf pd__28_5bBI_29C rfl) rfl (by show 2 * 0 + _ ≤ _; exact Nat.le_of_eq rfl) (hb hby d24_12) (fun _ _ => ⟨rfl, e2, (by decide : 0 + 0 ≤ _), (by decide : 0 + 0 ≤ _)⟩)
  dsimp only [Pt.U, Pt.locs, Pt.cells, Pt.slots] at X3 l3 y3 z3 st3 hQ3
  obtain ⟨rfl, N3q, e3⟩ := hQ3
  obtain ⟨lc3, X3, N3⟩ := own_pack X3 l3 y3 z3 N1 N3q (C := 0) (S' := 0) rfl rfl
  refine own_thr (a := T3.setTop (mkF m 15 #[.val (.ref o0), .val (.int 7)] [(.int (nar .char (((32 : Int32) &&& (255 : Int32)).toUInt32.toUInt16.toUInt32.toInt32)))])) (fun t kt => st3 t kt) ?_
  exact own_end X3 hlk (v := some (.int (nar .char (nar .char (((32 : Int32) &&& (255 : Int32)).toUInt32.toUInt16.toUInt32.toInt32))))) (fun h => by rw [Bd.returns] at h; cases h) (fun fs hr => retN X3 hx (t := .char) Bd.returns (by simp) (hb hby d24_15) hr) (by rw [e3]; exact ⟨rfl, N3, rfl⟩) (by decide : 0 ≤ _) (by decide : 0 ≤ _)
theorem own_len {s : State} {args : Array Value} {ca : Addr} {cl : Cell} {t : Term} {ty : FieldType} {n : Int32} (ev : t.eval args s none [] s = some (.ref ca)) (A : Arr s s.heap ca cl ty) (h : (Jvm.Cond.eq (Term.length t) (Term.int n)).value args s none s [] = some true) : cl.slots.size.toInt32 = n ∧ cl.slots.size < 2 ^ 31 := by
  have hA : s.arrayAt? ca = some cl := Arr.fin (Vm.Alike.refl _) A
  simp only [Cond.value, Term.eval, ev, Option.bind_eq_bind, Option.bind_some, hA] at h
  by_cases hl : cl.slots.size < 2147483648
  · simp [hl] at h; exact ⟨h, hl⟩
  · simp [hl] at h
theorem own_lenN {s : State} {args : Array Value} {ca : Addr} {cl : Cell} {t : Term} {ty : FieldType} {n : Int32} (ev : t.eval args s none [] s = some (.ref ca)) (A : Arr s s.heap ca cl ty) (h : (Jvm.Cond.eq (Term.length t) (Term.int n)).value args s none s [] = some true) (N : Nat) (hN : n.toInt = N) : cl.slots.size = N := by
  obtain ⟨h1, h2⟩ := own_len ev A h
  have h3 := len_toInt h2
  rw [h1] at h3
  omega
theorem own_eqI {args : Array Value} {s : State} {idx : List Nat} {a b : Term} {k : Int32} (h : (Jvm.Cond.eq a b).value args s none s idx = some true) (hb : b.eval args s none idx s = some (.int k)) : a.eval args s none idx s = some (.int k) := by
  obtain ⟨x, y, h1, h2, k1, k2⟩ := cmp_v (Or.inl h)
  cases hb.symm.trans h2
  obtain ⟨z, rfl⟩ := k2
  simp [Cond.value, h1, h2] at h
  subst h; exact h1
theorem own_eqJ {args : Array Value} {s : State} {idx : List Nat} {a b : Term} {k : Int64} (h : (Jvm.Cond.eq a b).value args s none s idx = some true) (hb : b.eval args s none idx s = some (.long k)) : a.eval args s none idx s = some (.long k) := by
  obtain ⟨x, y, h1, h2, k1, k2⟩ := cmp_v (Or.inl h)
  cases hb.symm.trans h2
  obtain ⟨z, rfl⟩ := k2
  simp [Cond.value, h1, h2] at h
  subst h; exact h1
theorem own_eqR {args : Array Value} {s : State} {idx : List Nat} {a b : Term} {k : Addr} (h : (Jvm.Cond.eq a b).value args s none s idx = some true) (hb : b.eval args s none idx s = some (.ref k)) : a.eval args s none idx s = some (.ref k) := by
  obtain ⟨x, y, h1, h2, k1, k2⟩ := cmp_v (Or.inl h)
  cases hb.symm.trans h2
  have hx : x.isRef = true := k2.2
  have q := gotT (eq_R h1 h2 hx rfl) h
  subst q; exact h1
theorem own_elR {args : Array Value} {s : State} {t u : Term} {a r : Addr} {cl : Cell} {ty : FieldType} {j : Int32} (h : (Jvm.Cond.eq (.elem t (.int j)) u).value args s none s [] = some true) (ht : t.eval args s none [] s = some (.ref a)) (A : Arr s s.heap a cl ty) (hu : u.eval args s none [] s = some (.ref r)) : cl.slots[j.toNatClampNeg]? = some (.ref r) :=
  (elem_in (own_eqR h hu) ht rfl A.1).2
theorem own_elJ {args : Array Value} {s : State} {t : Term} {a : Addr} {cl : Cell} {ty : FieldType} {j : Int32} {k : Int64} (h : (Jvm.Cond.eq (.elem t (.int j)) (.long k)).value args s none s [] = some true) (ht : t.eval args s none [] s = some (.ref a)) (A : Arr s s.heap a cl ty) : cl.slots[j.toNatClampNeg]? = some (.long k) :=
  (elem_in (own_eqJ h rfl) ht rfl A.1).2
theorem own_fldI {args : Array Value} {s : State} {t : Term} {C n d : String} {x : Addr} {k : Int32} (h : (Jvm.Cond.eq (.field t C n d) (.int k)).value args s none s [] = some true) (ht : t.eval args s none [] s = some (.ref x)) : Fld s s.heap x C n d (.int k) :=
  Fld.start ((fld_at ht).symm.trans (own_eqI h rfl))
theorem own_elI {args : Array Value} {s : State} {t : Term} {a : Addr} {cl : Cell} {ty : FieldType} {j : Int32} {k : Int32} (h : (Jvm.Cond.eq (.elem t (.int j)) (.int k)).value args s none s [] = some true) (ht : t.eval args s none [] s = some (.ref a)) (A : Arr s s.heap a cl ty) : cl.slots[j.toNatClampNeg]? = some (.int k) :=
  (elem_in (own_eqI h rfl) ht rfl A.1).2
theorem own_not0 {s : State} {args : Array Value} {C n d : String} {cs : Int32} (ev : (Term.static C n d).eval args s none [] s = some (.int cs)) (h : (Jvm.Cond.not (.eq (.static C n d) (.int 0))).value args s none s [] = some true) : ¬ cs = (0 : Int32) := by
  have h1 := not_v h
  intro e
  have h2 : (Jvm.Cond.eq (.static C n d) (.int 0)).value args s none s [] = some true := eq_i ev (Term.int_eval 0) (by rw [e])
  rw [h2] at h1
  cases h1
theorem own_held {tb : Tables} {e : Env} {args : Array Value} {s : State} (h : Calls_1 tb e args s) : ∀ p ∈ own_EL, Jvm.Lit.constHeld s p.1 p.2 := by
  intro p hp
  exact h.1 p (by revert p; decide)
theorem pd__28Ljava_2flang_2fObject_3b_29Z : parseMethodDescriptor "(Ljava/lang/Object;)Z" = some ⟨[(.object "java/lang/Object")], some .boolean⟩ := by decide +kernel
theorem pd__28I_29C : parseMethodDescriptor "(I)C" = some ⟨[.int], some .char⟩ := by decide +kernel
theorem pn_com_example_durable_dispatch_durabledispatch_cli_OptionSynopsisPinLaw : plainName "com/example/durable_dispatch/durabledispatch/cli/OptionSynopsisPinLaw" = true := by first | (simp [plainName, overriddenIn]; done) | decide +kernel
theorem ef_rm0 (m : MethodId) (p0 : Int32)  : entryFrame m #[(.int p0)] maxLocals = mkF m 0 #[.val (.int p0), .unset, .unset, .unset, .unset, .unset, .unset, .unset] [] := by first |  (simp [entryFrame, mkF, argsToLocals, Value.category, maxLocals]; done) | rfl
def Q0 (Z : State) (p0 : Int32) (ou : Addr) (flu : Addr) (fvu : Addr) (kfu : ClassId) (plu : Addr) (pvu : Addr) (kpu : ClassId) (oq : Addr) (flq : Addr) (fvq : Addr) (kfq : ClassId) (plq : Addr) (pvq : Addr) (kpq : ClassId) (cs : Int32) (fm : Value) (h0 : Heap) (n0 : Nat) (v : Option Value) (h : Heap) (L : List Loc) : Prop := v = some (.int 1) ∧ Fr n0 L
set_option maxRecDepth 65536 in
set_option maxHeartbeats 40000000 in
theorem rm0 (l : Launch) (Z : State) (a0 : Array Value) (hw : ∀ d ∈ tables_1, d.before a0 Z = true) (ws : List Jvm.Cond) (p0 : Int32) (ou : Addr) (flu : Addr) (fvu : Addr) (kfu : ClassId) (plu : Addr) (pvu : Addr) (kpu : ClassId) (oq : Addr) (flq : Addr) (fvq : Addr) (kfq : ClassId) (plq : Addr) (pvq : Addr) (kpq : ClassId) (cs : Int32) (fm : Value) (h0 : Heap) (n0 : Nat) (Z0 : n0 ≤ h0.size) (S_ou : Sta Z h0 "com/example/durable_dispatch/durabledispatch/cli/Option" "URL" "Lcom/example/durable_dispatch/durabledispatch/cli/Option;" (.ref ou)) (E_ou : Exa Z h0 ou "com/example/durable_dispatch/durabledispatch/cli/Option") (F_flu : Fld Z h0 ou "com/example/durable_dispatch/durabledispatch/cli/Option" "flag" "Ljava/lang/String;" (.ref flu)) (F_plu : Fld Z h0 ou "com/example/durable_dispatch/durabledispatch/cli/Option" "placeholder" "Ljava/lang/String;" (.ref plu)) (E_flu : Exa Z h0 flu "java/lang/String") (F_fvu : Fld Z h0 flu "java/lang/String" "value" "[B" (.ref fvu)) (F_fluc : Fld Z h0 flu "java/lang/String" "coder" "B" (.int 0)) (V_fvu : Arv Z h0 fvu kfu .byte (5 : Int32) [(.int 45), (.int 45), (.int 117), (.int 114), (.int 108)] (.int 0)) (E_plu : Exa Z h0 plu "java/lang/String") (F_pvu : Fld Z h0 plu "java/lang/String" "value" "[B" (.ref pvu)) (F_pluc : Fld Z h0 plu "java/lang/String" "coder" "B" (.int 0)) (V_pvu : Arv Z h0 pvu kpu .byte (10 : Int32) [(.int 60), (.int 74), (.int 68), (.int 66), (.int 67), (.int 32), (.int 85), (.int 82), (.int 76), (.int 62)] (.int 0)) (S_oq : Sta Z h0 "com/example/durable_dispatch/durabledispatch/cli/Option" "QUEUE" "Lcom/example/durable_dispatch/durabledispatch/cli/Option;" (.ref oq)) (E_oq : Exa Z h0 oq "com/example/durable_dispatch/durabledispatch/cli/Option") (F_flq : Fld Z h0 oq "com/example/durable_dispatch/durabledispatch/cli/Option" "flag" "Ljava/lang/String;" (.ref flq)) (F_plq : Fld Z h0 oq "com/example/durable_dispatch/durabledispatch/cli/Option" "placeholder" "Ljava/lang/String;" (.ref plq)) (E_flq : Exa Z h0 flq "java/lang/String") (F_fvq : Fld Z h0 flq "java/lang/String" "value" "[B" (.ref fvq)) (F_flqc : Fld Z h0 flq "java/lang/String" "coder" "B" (.int 0)) (V_fvq : Arv Z h0 fvq kfq .byte (7 : Int32) [(.int 45), (.int 45), (.int 113), (.int 117), (.int 101), (.int 117), (.int 101)] (.int 0)) (E_plq : Exa Z h0 plq "java/lang/String") (F_pvq : Fld Z h0 plq "java/lang/String" "value" "[B" (.ref pvq)) (F_plqc : Fld Z h0 plq "java/lang/String" "coder" "B" (.int 0)) (V_pvq : Arv Z h0 pvq kpq .byte (6 : Int32) [(.int 60), (.int 110), (.int 97), (.int 109), (.int 101), (.int 62)] (.int 0)) (S_cs : Sta Z Z.heap "java/lang/String" "COMPACT_STRINGS" "Z" (.int cs)) (hcs : ¬ cs = (0 : Int32)) (S_fm : Sta Z Z.heap "jdk/internal/util/Preconditions" "SIOOBE_FORMATTER" "Ljava/util/function/BiFunction;" fm) (hfm : fm.isRef = true) (hO : Old Z n0 h0) :
    MetFree l x (head1 (Jvm.Cond.code x code maxLocals ret :: ws) room_1) (fun a U => a = #[(.int p0)] ∧ Z.Warmed39 U.vm ∧ U.heap = h0 ∧ CHv Z own_EL U.vm h0) (fun _ _ _ _ _ => True) (fun _ U o U' => ∃ v L, o = .returned v ∧ Q0 Z p0 ou flu fvu kfu plu pvu kpu oq flq fvq kfq plq pvq kpq cs fm h0 n0 v U'.heap L ∧ CHr Z own_EL U.vm U.heap U'.vm U'.heap ∧ ReturnedEndW U o U' L room_1.cells room_1.slots) := by
  refine MetFree.of_bodySF (plainFor_of_name pn_com_example_durable_dispatch_durabledispatch_cli_OptionSynopsisPinLaw) hisR ?_
  intro p e s m args below meth c s₁ Bd hml0 hP hK
  obtain ⟨rfl, hZ, hh, hCH0⟩ := hP
  have hx := Bd.exec
  have hby := Bd.bytes
  have hml : c.maxLocals = 8 := hml0
  have hown : s.vm.findClass "com/example/durable_dispatch/durabledispatch/cli/OptionSynopsisPinLaw" = some m.cls := findClass_of_methodNamed Bd.named
  have hnm := (name_of_methodNamed Bd.named Bd.method).1
  have hlk := Bd.notSynchronized
  have X0 : Stand p l e room_1 (s.setVm s.vm) m #[(.int p0)] below meth c s₁ [] 0 0 := Stand.of_body Bd
  have e0 : s₁.heap = h0 := by rw [← hh, Bd.state]; rfl
  have N0 := Fr.nil n0
  show own_GH p.tables e below s Z own_EL (Q0 Z p0 ou flu fvu kfu plu pvu kpu oq flq fvq kfq plq pvq kpq cs fm h0 n0) room_1.cells room_1.slots _
  have hS0 : s.Since s.vm 0 := (State.WarmedH.refl s).since 0
  have hEL := own_EW hw
  have CH0 : CHr Z own_EL s.vm h0 s.vm h0 := CHr.refl hCH0
  refine own_thrH (a := s₁.setTop (mkF m 0 #[.val (.int p0), .unset, .unset, .unset, .unset, .unset, .unset, .unset] [])) (fun t kt => castTop (ef_rm0 m p0) kt) ?_
  refine own_thrH (a := s₁.setTop (mkF m 3 #[.val (.int p0), .unset, .unset, .unset, .unset, .unset, .unset, .unset] [(.int (p0 &&& (1 : Int32)))])) (fun t kt => ?_) ?_
  · show Steps p.tables e below (s₁.setTop (mkF m 0 #[.val (.int p0), .unset, .unset, .unset, .unset, .unset, .unset, .unset] [])) _
    refine XS.iloadN X0.here hx rfl (hb hby at_0) rfl ?_
    refine XS.iconst X0.here hx rfl (hb hby at_1) ?_
    refine XS.iand X0.here hx rfl (hb hby at_2) rfl ?_
    exact kt
  by_cases hc1 : (p0 &&& (1 : Int32)) = (0 : Int32)
  · refine own_thrH (a := s₁.setTop (mkF m 16 #[.val (.int p0), .val (.int 1), .unset, .unset, .unset, .unset, .unset, .unset] [])) (fun t kt => ?_) ?_
    · show Steps p.tables e below (s₁.setTop (mkF m 3 #[.val (.int p0), .unset, .unset, .unset, .unset, .unset, .unset, .unset] [(.int (p0 &&& (1 : Int32)))])) _
      refine XS.ifNo X0.here hx rfl (hb hby at_3) rfl ((if0 _ _).trans (teq hc1).2) ?_
      refine XS.iconst X0.here hx rfl (hb hby at_6) ?_
      refine XS.goto X0.here hx rfl (pc0 := 7) (pc' := 11) rfl (hb hby at_7) (by decide) (by decide) ?_
      refine XS.istoreN X0.here hx rfl (hb hby at_11) rfl (l' := #[.val (.int p0), .val (.int 1), .unset, .unset, .unset, .unset, .unset, .unset]) rfl ?_
      refine XS.iloadN X0.here hx rfl (hb hby at_12) rfl ?_
      refine XS.ifNo X0.here hx rfl (hb hby at_13) rfl ((if0 _ _).trans (feq (by decide)).1) ?_
      exact kt
    obtain ⟨T2, X2, e2, st2⟩ := getS2 X0 hx hZ hown (host := "") (Or.inl (hw _ (List.mem_of_getElem? (i := 0) rfl))) Via.refl e0 S_ou (g := (mkF m 16 #[.val (.int p0), .val (.int 1), .unset, .unset, .unset, .unset, .unset, .unset] [])) rfl (hb hby at_16)
    refine own_thrH (a := T2.setTop (mkF m 19 #[.val (.int p0), .val (.int 1), .unset, .unset, .unset, .unset, .unset, .unset] [(.ref ou)])) (fun t kt => st2 t kt) ?_
    refine own_thrH (a := T2.setTop (mkF m 27 #[.val (.int p0), .val (.int 1), .val (.ref ou), .unset, .unset, .unset, .unset, .unset] [(.ref ou)])) (fun t kt => ?_) ?_
    · show Steps p.tables e below (T2.setTop (mkF m 19 #[.val (.int p0), .val (.int 1), .unset, .unset, .unset, .unset, .unset, .unset] [(.ref ou)])) _
      refine XS.goto X2.here hx rfl (pc0 := 19) (pc' := 25) rfl (hb hby at_19) (by decide) (by decide) ?_
      refine XS.astoreN X2.here hx rfl (hb hby at_25) rfl rfl (l' := #[.val (.int p0), .val (.int 1), .val (.ref ou), .unset, .unset, .unset, .unset, .unset]) rfl ?_
      refine XS.aloadN X2.here hx rfl (hb hby at_26) rfl rfl ?_
      exact kt
    obtain ⟨cq3, kq3, q3a, q3b, q3c⟩ := isOf hZ e2 E_ou
    obtain ⟨_, _, ⟨T3, L3, k3, n3⟩, -, X3, hSq3, hgr3, ⟨Lc3, hQ3, l3, y3, z3, ch3⟩, st3⟩ := X2.virtualBackS hx (y := (⟨"com/example/durable_dispatch/durabledispatch/cli/Option", "synopsis", "()Ljava/lang/String;"⟩ : MethodName)) (z := (⟨"com/example/durable_dispatch/durabledispatch/cli/Option", "synopsis", "()Ljava/lang/String;"⟩ : MethodName)) hown (mvT hZ (hw _ (List.mem_of_getElem? (i := 3) rfl))) (mvT hZ (hw _ (List.mem_of_getElem? (i := 4) rfl))) (notFace_of_selects (args := #[]) (mvT hZ (hw _ (List.mem_of_getElem? (i := 6) rfl)))) (mvT hZ (hw _ (List.mem_of_getElem? (i := 6) rfl))) (mvT hZ (hw _ (List.mem_of_getElem? (i := 5) rfl))) (by decide) (backOfSH (W := 0) (rmSYu l Z a0 hw [] ou flu fvu kfu plu pvu kpu cs h0 n0 Z0 E_ou F_flu F_plu E_flu F_fvu F_fluc V_fvu E_plu F_pvu F_pluc V_pvu S_cs hcs hO) hZ (hw _ (List.mem_of_getElem? (i := 7) rfl)) (hw _ (List.mem_of_getElem? (i := 1) rfl)) (by decide) (by decide) hEL CH0.1) q3a q3c (g := (mkF m 27 #[.val (.int p0), .val (.int 1), .val (.ref ou), .unset, .unset, .unset, .unset, .unset] [(.ref ou)])) rfl (by rw [hml]; rfl) (Steps.refl _) (argsL := []) (rest := []) (lenOf pd__28_29Ljava_2flang_2fString_3b rfl) rfl (by show 2 * 0 + _ ≤ _; exact Nat.le_of_eq rfl) (hb hby at_27) (fun _ _ => ⟨rfl, e2, (by decide : 0 + 6 ≤ _), (by decide : 0 + 48 ≤ _)⟩)
    dsimp only [Pt.U, Pt.locs, Pt.cells, Pt.slots] at X3 l3 y3 z3 st3 hQ3 hSq3 hgr3 ch3
    have hS3 := hS0.trans hSq3 (Nat.le_trans (by rw [e2]; exact (Nat.zero_le _)) hgr3)
    have hZ3 : Z.Warmed39 (s.setVm T3.vm).vm := State.Warmed39.trans (t := s.setVm s.vm) hZ hSq3.1
    have hown3 : (s.setVm T3.vm).vm.findClass "com/example/durable_dispatch/durabledispatch/cli/OptionSynopsisPinLaw" = some m.cls := by rw [show (s.setVm T3.vm).vm = T3.vm from rfl, hSq3.1.alike.findClass]; exact hown
    have X3 : Stand p l e _ (s.setVm T3.vm) m _ below meth c T3 _ _ _ := X3
    obtain ⟨r3, rfl, N3q, K3, o3_e, o3_c, sv3, ks3, o3_v, o3_a⟩ := hQ3
    have Z4 : n0 ≤ T3.heap.size := Nat.le_trans Z0 K3.1
    have Z4h : h0.size ≤ T3.heap.size := Nat.le_trans (Nat.le_refl h0.size) K3.1
    have CHc3 := CH0.trans ch3
    obtain ⟨lc3, X3, N3⟩ := own_pack X3 l3 y3 z3 N0 N3q (C := 6) (S' := 48) rfl rfl
    refine own_thrH (a := T3.setTop (mkF m 30 #[.val (.int p0), .val (.int 1), .val (.ref ou), .unset, .unset, .unset, .unset, .unset] [(.ref r3)])) (fun t kt => st3.trans kt) ?_
    refine own_thrH (a := T3.setTop (mkF m 32 #[.val (.int p0), .val (.int 1), .val (.ref ou), .val (.ref r3), .unset, .unset, .unset, .unset] [(.ref ou)])) (fun t kt => ?_) ?_
    · show Steps p.tables e below (T3.setTop (mkF m 30 #[.val (.int p0), .val (.int 1), .val (.ref ou), .unset, .unset, .unset, .unset, .unset] [(.ref r3)])) _
      refine XS.astoreN X3.here hx rfl (hb hby at_30) rfl rfl (l' := #[.val (.int p0), .val (.int 1), .val (.ref ou), .val (.ref r3), .unset, .unset, .unset, .unset]) rfl ?_
      refine XS.aloadN X3.here hx rfl (hb hby at_31) rfl rfl ?_
      exact kt
    obtain ⟨cq5, kq5, q5a, q5b, q5c⟩ := isOf hZ3 rfl (E_ou.keep K3)
    obtain ⟨_, _, ⟨T5, L5, k5, n5⟩, -, X5, ⟨Lc5, hQ5, l5, y5, z5⟩, st5⟩ := X3.virtualBack hx (y := (⟨"com/example/durable_dispatch/durabledispatch/cli/Option", "flag", "()Ljava/lang/String;"⟩ : MethodName)) (z := (⟨"com/example/durable_dispatch/durabledispatch/cli/Option", "flag", "()Ljava/lang/String;"⟩ : MethodName)) hown3 (mvT hZ3 (hw _ (List.mem_of_getElem? (i := 135) rfl))) (mvT hZ3 (hw _ (List.mem_of_getElem? (i := 136) rfl))) (notFace_of_selects (args := #[]) (mvT hZ3 (hw _ (List.mem_of_getElem? (i := 138) rfl)))) (mvT hZ3 (hw _ (List.mem_of_getElem? (i := 138) rfl))) (mvT hZ3 (hw _ (List.mem_of_getElem? (i := 137) rfl))) (by decide) (backOf (W := 0) (rmFL l Z a0 hw [] ou flu T3.heap n0 Z4 (F_flu.keep K3 nin0)) hZ3 (hw _ (List.mem_of_getElem? (i := 139) rfl)) (hw _ (List.mem_of_getElem? (i := 1) rfl)) (by decide) (by decide)) q5a q5c (g := (mkF m 32 #[.val (.int p0), .val (.int 1), .val (.ref ou), .val (.ref r3), .unset, .unset, .unset, .unset] [(.ref ou)])) rfl (by rw [hml]; rfl) (Steps.refl _) (argsL := []) (rest := []) (lenOf pd__28_29Ljava_2flang_2fString_3b rfl) rfl (by show 2 * 0 + _ ≤ _; exact Nat.le_of_eq rfl) (hb hby at_32) (fun _ _ => ⟨rfl, rfl, (by decide : 6 + 0 ≤ _), (by decide : 48 + 0 ≤ _)⟩)
    dsimp only [Pt.U, Pt.locs, Pt.cells, Pt.slots] at X5 l5 y5 z5 st5 hQ5
    obtain ⟨rfl, N5q, e5⟩ := hQ5
    obtain ⟨lc5, X5, N5⟩ := own_pack X5 l5 y5 z5 N3 N5q (C := 6) (S' := 48) rfl rfl
    refine own_thrH (a := T5.setTop (mkF m 35 #[.val (.int p0), .val (.int 1), .val (.ref ou), .val (.ref r3), .unset, .unset, .unset, .unset] [(.ref flu)])) (fun t kt => st5.trans kt) ?_
    refine own_thrH (a := T5.setTop (mkF m 41 #[.val (.int p0), .val (.int 1), .val (.ref ou), .val (.ref r3), .val (.ref flu), .unset, .unset, .unset] [])) (fun t kt => ?_) ?_
    · show Steps p.tables e below (T5.setTop (mkF m 35 #[.val (.int p0), .val (.int 1), .val (.ref ou), .val (.ref r3), .unset, .unset, .unset, .unset] [(.ref flu)])) _
      refine XS.astore X5.here hx rfl (hb hby at_35) rfl rfl (l' := #[.val (.int p0), .val (.int 1), .val (.ref ou), .val (.ref r3), .val (.ref flu), .unset, .unset, .unset]) rfl ?_
      refine XS.iloadN X5.here hx rfl (hb hby at_37) rfl ?_
      refine XS.ifNo X5.here hx rfl (hb hby at_38) rfl ((if0 _ _).trans (feq (by decide)).1) ?_
      exact kt
    obtain ⟨b6, T6, h6, kk6, d6, kc6, X6, e6, E6, hS6, hk6, hZ6, hown6, oE6, oC6, oV6, oA6, -, -, ch6, -, sfq6, st6⟩ := ldcCH X5 hx hZ3 hown3 (hw _ (List.mem_of_getElem? (i := 140) rfl)) (fun a ha => hw a (own_sa a ha)) e5 hS3 (Nat.le_refl _) hEL (by decide) CHc3.1 (vs := [(.int 45), (.int 45), (.int 117), (.int 114), (.int 108), (.int 32), (.int 60), (.int 74), (.int 68), (.int 66), (.int 67), (.int 32), (.int 85), (.int 82), (.int 76), (.int 62)]) (z := (16 : Int32)) ⟨by decide, rfl⟩ (by decide) rfl (g := (mkF m 41 #[.val (.int p0), .val (.int 1), .val (.ref ou), .val (.ref r3), .val (.ref flu), .unset, .unset, .unset] [])) rfl (hb hby at_41) (n := 64) (by decide) (by decide) (by decide : 6 + 2 ≤ _) (by decide : 48 + 68 ≤ _)
    have Z7 : n0 ≤ h6.size := Nat.le_trans Z4 E6.1
    have Z7h : h0.size ≤ h6.size := Nat.le_trans Z4h E6.1
    have CHl6 := CHc3.trans ch6
    refine own_thrH (a := T6.setTop (mkF m 43 #[.val (.int p0), .val (.int 1), .val (.ref ou), .val (.ref r3), .val (.ref flu), .unset, .unset, .unset] [(.ref b6)])) (fun t kt => st6 t kt) ?_
    refine own_thrH (a := T6.setTop (mkF m 54 #[.val (.int p0), .val (.int 1), .val (.ref ou), .val (.ref r3), .val (.ref flu), .val (.ref b6), .unset, .unset] [])) (fun t kt => ?_) ?_
    · show Steps p.tables e below (T6.setTop (mkF m 43 #[.val (.int p0), .val (.int 1), .val (.ref ou), .val (.ref r3), .val (.ref flu), .unset, .unset, .unset] [(.ref b6)])) _
      refine XS.goto X6.here hx rfl (pc0 := 43) (pc' := 48) rfl (hb hby at_43) (by decide) (by decide) ?_
      refine XS.astore X6.here hx rfl (hb hby at_48) rfl rfl (l' := #[.val (.int p0), .val (.int 1), .val (.ref ou), .val (.ref r3), .val (.ref flu), .val (.ref b6), .unset, .unset]) rfl ?_
      refine XS.iloadN X6.here hx rfl (hb hby at_50) rfl ?_
      refine XS.ifNo X6.here hx rfl (hb hby at_51) rfl ((if0 _ _).trans (feq (by decide)).1) ?_
      exact kt
    obtain ⟨b8, T8, h8, kk8, d8, kc8, X8, e8, E8, hS8, hk8, hZ8, hown8, oE8, oC8, oV8, oA8, -, -, ch8, -, sfq8, st8⟩ := ldcCH X6 hx hZ6 hown6 (hw _ (List.mem_of_getElem? (i := 141) rfl)) (fun a ha => hw a (own_sa a ha)) e6 hS6 hk6 hEL (by decide) CHl6.1 (vs := [(.int 45), (.int 45), (.int 117), (.int 114), (.int 108)]) (z := (5 : Int32)) ⟨by decide, rfl⟩ (by decide) rfl (g := (mkF m 54 #[.val (.int p0), .val (.int 1), .val (.ref ou), .val (.ref r3), .val (.ref flu), .val (.ref b6), .unset, .unset] [])) rfl (hb hby at_54) (n := 20) (by decide) (by decide) (by decide : 8 + 2 ≤ _) (by decide : 116 + 24 ≤ _)
    have Z9 : n0 ≤ h8.size := Nat.le_trans Z7 E8.1
    have Z9h : h0.size ≤ h8.size := Nat.le_trans Z7h E8.1
    have CHl8 := CHl6.trans ch8
    refine own_thrH (a := T8.setTop (mkF m 56 #[.val (.int p0), .val (.int 1), .val (.ref ou), .val (.ref r3), .val (.ref flu), .val (.ref b6), .unset, .unset] [(.ref b8)])) (fun t kt => st8 t kt) ?_
    have S10 := S_cs.ext (((hO.keep K3 all0).ext E6).ext E8).2
    refine own_thrH (a := T8.setTop (mkF m 66 #[.val (.int p0), .val (.int 1), .val (.ref ou), .val (.ref r3), .val (.ref flu), .val (.ref b6), .val (.ref b8), .unset] [(.ref b6), (.ref r3)])) (fun t kt => ?_) ?_
    · show Steps p.tables e below (T8.setTop (mkF m 56 #[.val (.int p0), .val (.int 1), .val (.ref ou), .val (.ref r3), .val (.ref flu), .val (.ref b6), .unset, .unset] [(.ref b8)])) _
      refine XS.goto X8.here hx rfl (pc0 := 56) (pc' := 61) rfl (hb hby at_56) (by decide) (by decide) ?_
      refine XS.astore X8.here hx rfl (hb hby at_61) rfl rfl (l' := #[.val (.int p0), .val (.int 1), .val (.ref ou), .val (.ref r3), .val (.ref flu), .val (.ref b6), .val (.ref b8), .unset]) rfl ?_
      refine XS.aloadN X8.here hx rfl (hb hby at_63) rfl rfl ?_
      refine XS.aload X8.here hx rfl (hb hby at_64) rfl rfl ?_
      exact kt
    obtain ⟨cq11, kq11, q11a, q11b, q11c⟩ := isOf hZ8 e8 ((o3_e.ext E6).ext E8)
    obtain ⟨_, _, ⟨T11, L11, k11, n11⟩, -, X11, ⟨Lc11, hQ11, l11, y11, z11⟩, st11⟩ := X8.virtualBack hx (y := (⟨"java/lang/String", "equals", "(Ljava/lang/Object;)Z"⟩ : MethodName)) (z := (⟨"java/lang/String", "equals", "(Ljava/lang/Object;)Z"⟩ : MethodName)) hown8 (mvT hZ8 (hw _ (List.mem_of_getElem? (i := 142) rfl))) (mvT hZ8 (hw _ (List.mem_of_getElem? (i := 143) rfl))) (notFace_of_selects (args := #[]) (mvT hZ8 (hw _ (List.mem_of_getElem? (i := 145) rfl)))) (mvT hZ8 (hw _ (List.mem_of_getElem? (i := 145) rfl))) (mvT hZ8 (hw _ (List.mem_of_getElem? (i := 144) rfl))) (by decide) (backOf (W := 0) (rmEQus l Z a0 hw [] r3 b6 sv3 d6 ks3 kc6 cs h8 n0 Z9 ((o3_e.ext E6).ext E8) ((o3_v.ext E6).ext E8) ((o3_c.ext E6).ext E8) (oE6.ext E8) (oV6.ext E8) (oC6.ext E8) ((o3_a.ext E6).ext E8) (oA6.ext E8) S10 hcs) hZ8 (hw _ (List.mem_of_getElem? (i := 146) rfl)) (hw _ (List.mem_of_getElem? (i := 24) rfl)) (by decide) (by decide)) q11a q11c (g := (mkF m 66 #[.val (.int p0), .val (.int 1), .val (.ref ou), .val (.ref r3), .val (.ref flu), .val (.ref b6), .val (.ref b8), .unset] [(.ref b6), (.ref r3)])) rfl (by rw [hml]; rfl) (Steps.refl _) (argsL := [(.ref b6)]) (rest := []) (lenOf pd__28Ljava_2flang_2fObject_3b_29Z rfl) rfl (by show 2 * 0 + _ ≤ _; exact Nat.le_of_eq rfl) (hb hby at_66) (fun _ _ => ⟨rfl, e8, (by decide : 10 + 0 ≤ _), (by decide : 140 + 0 ≤ _)⟩)
    dsimp only [Pt.U, Pt.locs, Pt.cells, Pt.slots] at X11 l11 y11 z11 st11 hQ11
    obtain ⟨rfl, N11q, e11⟩ := hQ11
    obtain ⟨lc11, X11, N11⟩ := own_pack X11 l11 y11 z11 N5 N11q (C := 10) (S' := 140) rfl rfl
    refine own_thrH (a := T11.setTop (mkF m 69 #[.val (.int p0), .val (.int 1), .val (.ref ou), .val (.ref r3), .val (.ref flu), .val (.ref b6), .val (.ref b8), .unset] [(.int 1)])) (fun t kt => st11.trans kt) ?_
    have S12 := S_cs.ext (((hO.keep K3 all0).ext E6).ext E8).2
    refine own_thrH (a := T11.setTop (mkF m 78 #[.val (.int p0), .val (.int 1), .val (.ref ou), .val (.ref r3), .val (.ref flu), .val (.ref b6), .val (.ref b8), .unset] [(.ref b8), (.ref flu)])) (fun t kt => ?_) ?_
    · show Steps p.tables e below (T11.setTop (mkF m 69 #[.val (.int p0), .val (.int 1), .val (.ref ou), .val (.ref r3), .val (.ref flu), .val (.ref b6), .val (.ref b8), .unset] [(.int 1)])) _
      refine XS.ifYes X11.here hx rfl (pc0 := 69) (pc' := 74) rfl (hb hby at_69) rfl ((if0 _ _).trans (feq (by decide)).2) (by decide) (by decide) ?_
      refine XS.aload X11.here hx rfl (hb hby at_74) rfl rfl ?_
      refine XS.aload X11.here hx rfl (hb hby at_76) rfl rfl ?_
      exact kt
    obtain ⟨cq13, kq13, q13a, q13b, q13c⟩ := isOf hZ8 e11 (((E_flu.keep K3).ext E6).ext E8)
    obtain ⟨_, _, ⟨T13, L13, k13, n13⟩, -, X13, ⟨Lc13, hQ13, l13, y13, z13⟩, st13⟩ := X11.virtualBack hx (y := (⟨"java/lang/String", "equals", "(Ljava/lang/Object;)Z"⟩ : MethodName)) (z := (⟨"java/lang/String", "equals", "(Ljava/lang/Object;)Z"⟩ : MethodName)) hown8 (mvT hZ8 (hw _ (List.mem_of_getElem? (i := 142) rfl))) (mvT hZ8 (hw _ (List.mem_of_getElem? (i := 143) rfl))) (notFace_of_selects (args := #[]) (mvT hZ8 (hw _ (List.mem_of_getElem? (i := 145) rfl)))) (mvT hZ8 (hw _ (List.mem_of_getElem? (i := 145) rfl))) (mvT hZ8 (hw _ (List.mem_of_getElem? (i := 144) rfl))) (by decide) (backOf (W := 0) (rmEQuf l Z a0 hw [] flu b8 fvu d8 kfu kc8 cs h8 n0 Z9 (((E_flu.keep K3).ext E6).ext E8) (((F_fvu.keep K3 nin0).ext E6).ext E8) (((F_fluc.keep K3 nin0).ext E6).ext E8) oE8 oV8 oC8 (((V_fvu.keep K3 nin0).ext E6).ext E8) oA8 S12 hcs) hZ8 (hw _ (List.mem_of_getElem? (i := 146) rfl)) (hw _ (List.mem_of_getElem? (i := 24) rfl)) (by decide) (by decide)) q13a q13c (g := (mkF m 78 #[.val (.int p0), .val (.int 1), .val (.ref ou), .val (.ref r3), .val (.ref flu), .val (.ref b6), .val (.ref b8), .unset] [(.ref b8), (.ref flu)])) rfl (by rw [hml]; rfl) (Steps.refl _) (argsL := [(.ref b8)]) (rest := []) (lenOf pd__28Ljava_2flang_2fObject_3b_29Z rfl) rfl (by show 2 * 0 + _ ≤ _; exact Nat.le_of_eq rfl) (hb hby at_78) (fun _ _ => ⟨rfl, e11, (by decide : 10 + 0 ≤ _), (by decide : 140 + 0 ≤ _)⟩)
    dsimp only [Pt.U, Pt.locs, Pt.cells, Pt.slots] at X13 l13 y13 z13 st13 hQ13
    obtain ⟨rfl, N13q, e13⟩ := hQ13
    obtain ⟨lc13, X13, N13⟩ := own_pack X13 l13 y13 z13 N11 N13q (C := 10) (S' := 140) rfl rfl
    refine own_thrH (a := T13.setTop (mkF m 81 #[.val (.int p0), .val (.int 1), .val (.ref ou), .val (.ref r3), .val (.ref flu), .val (.ref b6), .val (.ref b8), .unset] [(.int 1)])) (fun t kt => st13.trans kt) ?_
    have S14 := S_cs.ext (((hO.keep K3 all0).ext E6).ext E8).2
    refine own_thrH (a := T13.setTop (mkF m 88 #[.val (.int p0), .val (.int 1), .val (.ref ou), .val (.ref r3), .val (.ref flu), .val (.ref b6), .val (.ref b8), .unset] [(.ref flu)])) (fun t kt => ?_) ?_
    · show Steps p.tables e below (T13.setTop (mkF m 81 #[.val (.int p0), .val (.int 1), .val (.ref ou), .val (.ref r3), .val (.ref flu), .val (.ref b6), .val (.ref b8), .unset] [(.int 1)])) _
      refine XS.ifYes X13.here hx rfl (pc0 := 81) (pc' := 86) rfl (hb hby at_81) rfl ((if0 _ _).trans (feq (by decide)).2) (by decide) (by decide) ?_
      refine XS.aload X13.here hx rfl (hb hby at_86) rfl rfl ?_
      exact kt
    obtain ⟨cq15, kq15, q15a, q15b, q15c⟩ := isOf hZ8 e13 (((E_flu.keep K3).ext E6).ext E8)
    obtain ⟨_, _, ⟨T15, L15, k15, n15⟩, -, X15, ⟨Lc15, hQ15, l15, y15, z15⟩, st15⟩ := X13.virtualBack hx (y := (⟨"java/lang/String", "length", "()I"⟩ : MethodName)) (z := (⟨"java/lang/String", "length", "()I"⟩ : MethodName)) hown8 (mvT hZ8 (hw _ (List.mem_of_getElem? (i := 152) rfl))) (mvT hZ8 (hw _ (List.mem_of_getElem? (i := 43) rfl))) (notFace_of_selects (args := #[]) (mvT hZ8 (hw _ (List.mem_of_getElem? (i := 45) rfl)))) (mvT hZ8 (hw _ (List.mem_of_getElem? (i := 45) rfl))) (mvT hZ8 (hw _ (List.mem_of_getElem? (i := 44) rfl))) (by decide) (backOf (W := 0) (rmLNuf l Z a0 hw [] flu fvu kfu cs h8 n0 Z9 (((E_flu.keep K3).ext E6).ext E8) (((F_fvu.keep K3 nin0).ext E6).ext E8) (((F_fluc.keep K3 nin0).ext E6).ext E8) (((V_fvu.keep K3 nin0).ext E6).ext E8) S14 hcs) hZ8 (hw _ (List.mem_of_getElem? (i := 46) rfl)) (hw _ (List.mem_of_getElem? (i := 24) rfl)) (by decide) (by decide)) q15a q15c (g := (mkF m 88 #[.val (.int p0), .val (.int 1), .val (.ref ou), .val (.ref r3), .val (.ref flu), .val (.ref b6), .val (.ref b8), .unset] [(.ref flu)])) rfl (by rw [hml]; rfl) (Steps.refl _) (argsL := []) (rest := []) (lenOf pd__28_29I rfl) rfl (by show 2 * 0 + _ ≤ _; exact Nat.le_of_eq rfl) (hb hby at_88) (fun _ _ => ⟨rfl, e13, (by decide : 10 + 0 ≤ _), (by decide : 140 + 0 ≤ _)⟩)
    dsimp only [Pt.U, Pt.locs, Pt.cells, Pt.slots] at X15 l15 y15 z15 st15 hQ15
    obtain ⟨rfl, N15q, e15⟩ := hQ15
    obtain ⟨lc15, X15, N15⟩ := own_pack X15 l15 y15 z15 N13 N15q (C := 10) (S' := 140) rfl rfl
    refine own_thrH (a := T15.setTop (mkF m 91 #[.val (.int p0), .val (.int 1), .val (.ref ou), .val (.ref r3), .val (.ref flu), .val (.ref b6), .val (.ref b8), .unset] [(.int 5)])) (fun t kt => st15.trans kt) ?_
    have S16 := S_cs.ext (((hO.keep K3 all0).ext E6).ext E8).2
    refine own_thrH (a := T15.setTop (mkF m 94 #[.val (.int p0), .val (.int 1), .val (.ref ou), .val (.ref r3), .val (.ref flu), .val (.ref b6), .val (.ref b8), .val (.int 5)] [(.ref r3)])) (fun t kt => ?_) ?_
    · show Steps p.tables e below (T15.setTop (mkF m 91 #[.val (.int p0), .val (.int 1), .val (.ref ou), .val (.ref r3), .val (.ref flu), .val (.ref b6), .val (.ref b8), .unset] [(.int 5)])) _
      refine XS.istore X15.here hx rfl (hb hby at_91) rfl (l' := #[.val (.int p0), .val (.int 1), .val (.ref ou), .val (.ref r3), .val (.ref flu), .val (.ref b6), .val (.ref b8), .val (.int 5)]) rfl ?_
      refine XS.aloadN X15.here hx rfl (hb hby at_93) rfl rfl ?_
      exact kt
    obtain ⟨cq17, kq17, q17a, q17b, q17c⟩ := isOf hZ8 e15 ((o3_e.ext E6).ext E8)
    obtain ⟨_, _, ⟨T17, L17, k17, n17⟩, -, X17, ⟨Lc17, hQ17, l17, y17, z17⟩, st17⟩ := X15.virtualBack hx (y := (⟨"java/lang/String", "length", "()I"⟩ : MethodName)) (z := (⟨"java/lang/String", "length", "()I"⟩ : MethodName)) hown8 (mvT hZ8 (hw _ (List.mem_of_getElem? (i := 152) rfl))) (mvT hZ8 (hw _ (List.mem_of_getElem? (i := 43) rfl))) (notFace_of_selects (args := #[]) (mvT hZ8 (hw _ (List.mem_of_getElem? (i := 45) rfl)))) (mvT hZ8 (hw _ (List.mem_of_getElem? (i := 45) rfl))) (mvT hZ8 (hw _ (List.mem_of_getElem? (i := 44) rfl))) (by decide) (backOf (W := 0) (rmLNus l Z a0 hw [] r3 sv3 ks3 cs h8 n0 Z9 ((o3_e.ext E6).ext E8) ((o3_v.ext E6).ext E8) ((o3_c.ext E6).ext E8) ((o3_a.ext E6).ext E8) S16 hcs) hZ8 (hw _ (List.mem_of_getElem? (i := 46) rfl)) (hw _ (List.mem_of_getElem? (i := 24) rfl)) (by decide) (by decide)) q17a q17c (g := (mkF m 94 #[.val (.int p0), .val (.int 1), .val (.ref ou), .val (.ref r3), .val (.ref flu), .val (.ref b6), .val (.ref b8), .val (.int 5)] [(.ref r3)])) rfl (by rw [hml]; rfl) (Steps.refl _) (argsL := []) (rest := []) (lenOf pd__28_29I rfl) rfl (by show 2 * 0 + _ ≤ _; exact Nat.le_of_eq rfl) (hb hby at_94) (fun _ _ => ⟨rfl, e15, (by decide : 10 + 0 ≤ _), (by decide : 140 + 0 ≤ _)⟩)
    dsimp only [Pt.U, Pt.locs, Pt.cells, Pt.slots] at X17 l17 y17 z17 st17 hQ17
    obtain ⟨rfl, N17q, e17⟩ := hQ17
    obtain ⟨lc17, X17, N17⟩ := own_pack X17 l17 y17 z17 N15 N17q (C := 10) (S' := 140) rfl rfl
    refine own_thrH (a := T17.setTop (mkF m 97 #[.val (.int p0), .val (.int 1), .val (.ref ou), .val (.ref r3), .val (.ref flu), .val (.ref b6), .val (.ref b8), .val (.int 5)] [(.int 16)])) (fun t kt => st17.trans kt) ?_
    have S18 := S_cs.ext (((hO.keep K3 all0).ext E6).ext E8).2
    have S19 := S_fm.ext (((hO.keep K3 all0).ext E6).ext E8).2
    refine own_thrH (a := T17.setTop (mkF m 105 #[.val (.int p0), .val (.int 1), .val (.ref ou), .val (.ref r3), .val (.ref flu), .val (.ref b6), .val (.ref b8), .val (.int 5)] [(.int 5), (.ref r3)])) (fun t kt => ?_) ?_
    · show Steps p.tables e below (T17.setTop (mkF m 97 #[.val (.int p0), .val (.int 1), .val (.ref ou), .val (.ref r3), .val (.ref flu), .val (.ref b6), .val (.ref b8), .val (.int 5)] [(.int 16)])) _
      refine XS.iload X17.here hx rfl (hb hby at_97) rfl ?_
      refine XS.icmpNo X17.here hx rfl (hb hby at_99) rfl (tlt (by decide)).2.2.2 ?_
      refine XS.aloadN X17.here hx rfl (hb hby at_102) rfl rfl ?_
      refine XS.iload X17.here hx rfl (hb hby at_103) rfl ?_
      exact kt
    obtain ⟨cq20, kq20, q20a, q20b, q20c⟩ := isOf hZ8 e17 ((o3_e.ext E6).ext E8)
    obtain ⟨_, _, ⟨T20, L20, k20, n20⟩, -, X20, ⟨Lc20, hQ20, l20, y20, z20⟩, st20⟩ := X17.virtualBack hx (y := (⟨"java/lang/String", "charAt", "(I)C"⟩ : MethodName)) (z := (⟨"java/lang/String", "charAt", "(I)C"⟩ : MethodName)) hown8 (mvT hZ8 (hw _ (List.mem_of_getElem? (i := 153) rfl))) (mvT hZ8 (hw _ (List.mem_of_getElem? (i := 154) rfl))) (notFace_of_selects (args := #[]) (mvT hZ8 (hw _ (List.mem_of_getElem? (i := 156) rfl)))) (mvT hZ8 (hw _ (List.mem_of_getElem? (i := 156) rfl))) (mvT hZ8 (hw _ (List.mem_of_getElem? (i := 155) rfl))) (by decide) (backOf (W := 0) (rmCAu l Z a0 hw [] r3 sv3 ks3 cs fm h8 n0 Z9 ((o3_e.ext E6).ext E8) ((o3_v.ext E6).ext E8) ((o3_c.ext E6).ext E8) ((o3_a.ext E6).ext E8) S18 S19 hcs hfm) hZ8 (hw _ (List.mem_of_getElem? (i := 157) rfl)) (hw _ (List.mem_of_getElem? (i := 24) rfl)) (by decide) (by decide)) q20a q20c (g := (mkF m 105 #[.val (.int p0), .val (.int 1), .val (.ref ou), .val (.ref r3), .val (.ref flu), .val (.ref b6), .val (.ref b8), .val (.int 5)] [(.int 5), (.ref r3)])) rfl (by rw [hml]; rfl) (Steps.refl _) (argsL := [(.int 5)]) (rest := []) (lenOf pd__28I_29C rfl) rfl (by show 2 * 0 + _ ≤ _; exact Nat.le_of_eq rfl) (hb hby at_105) (fun _ _ => ⟨rfl, e17, (by decide : 10 + 0 ≤ _), (by decide : 140 + 0 ≤ _)⟩)
    dsimp only [Pt.U, Pt.locs, Pt.cells, Pt.slots] at X20 l20 y20 z20 st20 hQ20
    obtain ⟨rfl, N20q, e20⟩ := hQ20
    obtain ⟨lc20, X20, N20⟩ := own_pack X20 l20 y20 z20 N17 N20q (C := 10) (S' := 140) rfl rfl
    refine own_thrH (a := T20.setTop (mkF m 108 #[.val (.int p0), .val (.int 1), .val (.ref ou), .val (.ref r3), .val (.ref flu), .val (.ref b6), .val (.ref b8), .val (.int 5)] [(.int (nar .char (nar .char (((32 : Int32) &&& (255 : Int32)).toUInt32.toUInt16.toUInt32.toInt32))))])) (fun t kt => st20.trans kt) ?_
    refine own_thrH (a := T20.setTop (mkF m 118 #[.val (.int p0), .val (.int 1), .val (.ref ou), .val (.ref r3), .val (.ref flu), .val (.ref b6), .val (.ref b8), .val (.int 5)] [(.int 1)])) (fun t kt => ?_) ?_
    · show Steps p.tables e below (T20.setTop (mkF m 108 #[.val (.int p0), .val (.int 1), .val (.ref ou), .val (.ref r3), .val (.ref flu), .val (.ref b6), .val (.ref b8), .val (.int 5)] [(.int (nar .char (nar .char (((32 : Int32) &&& (255 : Int32)).toUInt32.toUInt16.toUInt32.toInt32))))])) _
      refine XS.bipush X20.here hx rfl (hb hby at_108) ?_
      refine XS.icmpNo X20.here hx rfl (hb hby at_110) rfl (teq (by decide)).2 ?_
      refine XS.iconst X20.here hx rfl (hb hby at_113) ?_
      refine XS.goto X20.here hx rfl (pc0 := 114) (pc' := 118) rfl (hb hby at_114) (by decide) (by decide) ?_
      exact kt
    exact own_endH X20 hS8 (by rw [e20]; exact hk8) hZ8 hEL CHl8 hh e20 hlk (v := some (.int 1)) (fun h => by rw [Bd.returns] at h; cases h) (fun fs hr => retN X20 hx (t := .boolean) Bd.returns (by simp) (hb hby at_118) hr) ⟨rfl, N20⟩ (by decide : 10 ≤ _) (by decide : 140 ≤ _)
  · refine own_thrH (a := s₁.setTop (mkF m 22 #[.val (.int p0), .val (.int 0), .unset, .unset, .unset, .unset, .unset, .unset] [])) (fun t kt => ?_) ?_
    · show Steps p.tables e below (s₁.setTop (mkF m 3 #[.val (.int p0), .unset, .unset, .unset, .unset, .unset, .unset, .unset] [(.int (p0 &&& (1 : Int32)))])) _
      refine XS.ifYes X0.here hx rfl (pc0 := 3) (pc' := 10) rfl (hb hby at_3) rfl ((if0 _ _).trans (feq hc1).2) (by decide) (by decide) ?_
      refine XS.iconst X0.here hx rfl (hb hby at_10) ?_
      refine XS.istoreN X0.here hx rfl (hb hby at_11) rfl (l' := #[.val (.int p0), .val (.int 0), .unset, .unset, .unset, .unset, .unset, .unset]) rfl ?_
      refine XS.iloadN X0.here hx rfl (hb hby at_12) rfl ?_
      refine XS.ifYes X0.here hx rfl (pc0 := 13) (pc' := 22) rfl (hb hby at_13) rfl ((if0 _ _).trans (teq rfl).1) (by decide) (by decide) ?_
      exact kt
    obtain ⟨T21, X21, e21, st21⟩ := getS2 X0 hx hZ hown (host := "") (Or.inl (hw _ (List.mem_of_getElem? (i := 174) rfl))) Via.refl e0 S_oq (g := (mkF m 22 #[.val (.int p0), .val (.int 0), .unset, .unset, .unset, .unset, .unset, .unset] [])) rfl (hb hby at_22)
    refine own_thrH (a := T21.setTop (mkF m 25 #[.val (.int p0), .val (.int 0), .unset, .unset, .unset, .unset, .unset, .unset] [(.ref oq)])) (fun t kt => st21 t kt) ?_
    refine own_thrH (a := T21.setTop (mkF m 27 #[.val (.int p0), .val (.int 0), .val (.ref oq), .unset, .unset, .unset, .unset, .unset] [(.ref oq)])) (fun t kt => ?_) ?_
    · show Steps p.tables e below (T21.setTop (mkF m 25 #[.val (.int p0), .val (.int 0), .unset, .unset, .unset, .unset, .unset, .unset] [(.ref oq)])) _
      refine XS.astoreN X21.here hx rfl (hb hby at_25) rfl rfl (l' := #[.val (.int p0), .val (.int 0), .val (.ref oq), .unset, .unset, .unset, .unset, .unset]) rfl ?_
      refine XS.aloadN X21.here hx rfl (hb hby at_26) rfl rfl ?_
      exact kt
    obtain ⟨cq22, kq22, q22a, q22b, q22c⟩ := isOf hZ e21 E_oq
    obtain ⟨_, _, ⟨T22, L22, k22, n22⟩, -, X22, hSq22, hgr22, ⟨Lc22, hQ22, l22, y22, z22, ch22⟩, st22⟩ := X21.virtualBackS hx (y := (⟨"com/example/durable_dispatch/durabledispatch/cli/Option", "synopsis", "()Ljava/lang/String;"⟩ : MethodName)) (z := (⟨"com/example/durable_dispatch/durabledispatch/cli/Option", "synopsis", "()Ljava/lang/String;"⟩ : MethodName)) hown (mvT hZ (hw _ (List.mem_of_getElem? (i := 3) rfl))) (mvT hZ (hw _ (List.mem_of_getElem? (i := 4) rfl))) (notFace_of_selects (args := #[]) (mvT hZ (hw _ (List.mem_of_getElem? (i := 6) rfl)))) (mvT hZ (hw _ (List.mem_of_getElem? (i := 6) rfl))) (mvT hZ (hw _ (List.mem_of_getElem? (i := 5) rfl))) (by decide) (backOfSH (W := 0) (rmSYq l Z a0 hw [] oq flq fvq kfq plq pvq kpq cs h0 n0 Z0 E_oq F_flq F_plq E_flq F_fvq F_flqc V_fvq E_plq F_pvq F_plqc V_pvq S_cs hcs hO) hZ (hw _ (List.mem_of_getElem? (i := 7) rfl)) (hw _ (List.mem_of_getElem? (i := 1) rfl)) (by decide) (by decide) hEL CH0.1) q22a q22c (g := (mkF m 27 #[.val (.int p0), .val (.int 0), .val (.ref oq), .unset, .unset, .unset, .unset, .unset] [(.ref oq)])) rfl (by rw [hml]; rfl) (Steps.refl _) (argsL := []) (rest := []) (lenOf pd__28_29Ljava_2flang_2fString_3b rfl) rfl (by show 2 * 0 + _ ≤ _; exact Nat.le_of_eq rfl) (hb hby at_27) (fun _ _ => ⟨rfl, e21, (by decide : 0 + 6 ≤ _), (by decide : 0 + 46 ≤ _)⟩)
    dsimp only [Pt.U, Pt.locs, Pt.cells, Pt.slots] at X22 l22 y22 z22 st22 hQ22 hSq22 hgr22 ch22
    have hS22 := hS0.trans hSq22 (Nat.le_trans (by rw [e21]; exact (Nat.zero_le _)) hgr22)
    have hZ22 : Z.Warmed39 (s.setVm T22.vm).vm := State.Warmed39.trans (t := s.setVm s.vm) hZ hSq22.1
    have hown22 : (s.setVm T22.vm).vm.findClass "com/example/durable_dispatch/durabledispatch/cli/OptionSynopsisPinLaw" = some m.cls := by rw [show (s.setVm T22.vm).vm = T22.vm from rfl, hSq22.1.alike.findClass]; exact hown
    have X22 : Stand p l e _ (s.setVm T22.vm) m _ below meth c T22 _ _ _ := X22
    obtain ⟨r22, rfl, N22q, K22, o22_e, o22_c, sv22, ks22, o22_v, o22_a⟩ := hQ22
    have Z23 : n0 ≤ T22.heap.size := Nat.le_trans Z0 K22.1
    have Z23h : h0.size ≤ T22.heap.size := Nat.le_trans (Nat.le_refl h0.size) K22.1
    have CHc22 := CH0.trans ch22
    obtain ⟨lc22, X22, N22⟩ := own_pack X22 l22 y22 z22 N0 N22q (C := 6) (S' := 46) rfl rfl
    refine own_thrH (a := T22.setTop (mkF m 30 #[.val (.int p0), .val (.int 0), .val (.ref oq), .unset, .unset, .unset, .unset, .unset] [(.ref r22)])) (fun t kt => st22.trans kt) ?_
    refine own_thrH (a := T22.setTop (mkF m 32 #[.val (.int p0), .val (.int 0), .val (.ref oq), .val (.ref r22), .unset, .unset, .unset, .unset] [(.ref oq)])) (fun t kt => ?_) ?_
    · show Steps p.tables e below (T22.setTop (mkF m 30 #[.val (.int p0), .val (.int 0), .val (.ref oq), .unset, .unset, .unset, .unset, .unset] [(.ref r22)])) _
      refine XS.astoreN X22.here hx rfl (hb hby at_30) rfl rfl (l' := #[.val (.int p0), .val (.int 0), .val (.ref oq), .val (.ref r22), .unset, .unset, .unset, .unset]) rfl ?_
      refine XS.aloadN X22.here hx rfl (hb hby at_31) rfl rfl ?_
      exact kt
    obtain ⟨cq24, kq24, q24a, q24b, q24c⟩ := isOf hZ22 rfl (E_oq.keep K22)
    obtain ⟨_, _, ⟨T24, L24, k24, n24⟩, -, X24, ⟨Lc24, hQ24, l24, y24, z24⟩, st24⟩ := X22.virtualBack hx (y := (⟨"com/example/durable_dispatch/durabledispatch/cli/Option", "flag", "()Ljava/lang/String;"⟩ : MethodName)) (z := (⟨"com/example/durable_dispatch/durabledispatch/cli/Option", "flag", "()Ljava/lang/String;"⟩ : MethodName)) hown22 (mvT hZ22 (hw _ (List.mem_of_getElem? (i := 135) rfl))) (mvT hZ22 (hw _ (List.mem_of_getElem? (i := 136) rfl))) (notFace_of_selects (args := #[]) (mvT hZ22 (hw _ (List.mem_of_getElem? (i := 138) rfl)))) (mvT hZ22 (hw _ (List.mem_of_getElem? (i := 138) rfl))) (mvT hZ22 (hw _ (List.mem_of_getElem? (i := 137) rfl))) (by decide) (backOf (W := 0) (rmFL l Z a0 hw [] oq flq T22.heap n0 Z23 (F_flq.keep K22 nin0)) hZ22 (hw _ (List.mem_of_getElem? (i := 139) rfl)) (hw _ (List.mem_of_getElem? (i := 1) rfl)) (by decide) (by decide)) q24a q24c (g := (mkF m 32 #[.val (.int p0), .val (.int 0), .val (.ref oq), .val (.ref r22), .unset, .unset, .unset, .unset] [(.ref oq)])) rfl (by rw [hml]; rfl) (Steps.refl _) (argsL := []) (rest := []) (lenOf pd__28_29Ljava_2flang_2fString_3b rfl) rfl (by show 2 * 0 + _ ≤ _; exact Nat.le_of_eq rfl) (hb hby at_32) (fun _ _ => ⟨rfl, rfl, (by decide : 6 + 0 ≤ _), (by decide : 46 + 0 ≤ _)⟩)
    dsimp only [Pt.U, Pt.locs, Pt.cells, Pt.slots] at X24 l24 y24 z24 st24 hQ24
    obtain ⟨rfl, N24q, e24⟩ := hQ24
    obtain ⟨lc24, X24, N24⟩ := own_pack X24 l24 y24 z24 N22 N24q (C := 6) (S' := 46) rfl rfl
    refine own_thrH (a := T24.setTop (mkF m 35 #[.val (.int p0), .val (.int 0), .val (.ref oq), .val (.ref r22), .unset, .unset, .unset, .unset] [(.ref flq)])) (fun t kt => st24.trans kt) ?_
    refine own_thrH (a := T24.setTop (mkF m 46 #[.val (.int p0), .val (.int 0), .val (.ref oq), .val (.ref r22), .val (.ref flq), .unset, .unset, .unset] [])) (fun t kt => ?_) ?_
    · show Steps p.tables e below (T24.setTop (mkF m 35 #[.val (.int p0), .val (.int 0), .val (.ref oq), .val (.ref r22), .unset, .unset, .unset, .unset] [(.ref flq)])) _
      refine XS.astore X24.here hx rfl (hb hby at_35) rfl rfl (l' := #[.val (.int p0), .val (.int 0), .val (.ref oq), .val (.ref r22), .val (.ref flq), .unset, .unset, .unset]) rfl ?_
      refine XS.iloadN X24.here hx rfl (hb hby at_37) rfl ?_
      refine XS.ifYes X24.here hx rfl (pc0 := 38) (pc' := 46) rfl (hb hby at_38) rfl ((if0 _ _).trans (teq rfl).1) (by decide) (by decide) ?_
      exact kt
    obtain ⟨b25, T25, h25, kk25, d25, kc25, X25, e25, E25, hS25, hk25, hZ25, hown25, oE25, oC25, oV25, oA25, -, -, ch25, -, sfq25, st25⟩ := ldcCH X24 hx hZ22 hown22 (hw _ (List.mem_of_getElem? (i := 187) rfl)) (fun a ha => hw a (own_sa a ha)) e24 hS22 (Nat.le_refl _) hEL (by decide) CHc22.1 (vs := [(.int 45), (.int 45), (.int 113), (.int 117), (.int 101), (.int 117), (.int 101), (.int 32), (.int 60), (.int 110), (.int 97), (.int 109), (.int 101), (.int 62)]) (z := (14 : Int32)) ⟨by decide, rfl⟩ (by decide) rfl (g := (mkF m 46 #[.val (.int p0), .val (.int 0), .val (.ref oq), .val (.ref r22), .val (.ref flq), .unset, .unset, .unset] [])) rfl (hb hby at_46) (n := 56) (by decide) (by decide) (by decide : 6 + 2 ≤ _) (by decide : 46 + 60 ≤ _)
    have Z26 : n0 ≤ h25.size := Nat.le_trans Z23 E25.1
    have Z26h : h0.size ≤ h25.size := Nat.le_trans Z23h E25.1
    have CHl25 := CHc22.trans ch25
    refine own_thrH (a := T25.setTop (mkF m 48 #[.val (.int p0), .val (.int 0), .val (.ref oq), .val (.ref r22), .val (.ref flq), .unset, .unset, .unset] [(.ref b25)])) (fun t kt => st25 t kt) ?_
    refine own_thrH (a := T25.setTop (mkF m 59 #[.val (.int p0), .val (.int 0), .val (.ref oq), .val (.ref r22), .val (.ref flq), .val (.ref b25), .unset, .unset] [])) (fun t kt => ?_) ?_
    · show Steps p.tables e below (T25.setTop (mkF m 48 #[.val (.int p0), .val (.int 0), .val (.ref oq), .val (.ref r22), .val (.ref flq), .unset, .unset, .unset] [(.ref b25)])) _
      refine XS.astore X25.here hx rfl (hb hby at_48) rfl rfl (l' := #[.val (.int p0), .val (.int 0), .val (.ref oq), .val (.ref r22), .val (.ref flq), .val (.ref b25), .unset, .unset]) rfl ?_
      refine XS.iloadN X25.here hx rfl (hb hby at_50) rfl ?_
      refine XS.ifYes X25.here hx rfl (pc0 := 51) (pc' := 59) rfl (hb hby at_51) rfl ((if0 _ _).trans (teq rfl).1) (by decide) (by decide) ?_
      exact kt
    obtain ⟨b27, T27, h27, kk27, d27, kc27, X27, e27, E27, hS27, hk27, hZ27, hown27, oE27, oC27, oV27, oA27, -, -, ch27, -, sfq27, st27⟩ := ldcCH X25 hx hZ25 hown25 (hw _ (List.mem_of_getElem? (i := 188) rfl)) (fun a ha => hw a (own_sa a ha)) e25 hS25 hk25 hEL (by decide) CHl25.1 (vs := [(.int 45), (.int 45), (.int 113), (.int 117), (.int 101), (.int 117), (.int 101)]) (z := (7 : Int32)) ⟨by decide, rfl⟩ (by decide) rfl (g := (mkF m 59 #[.val (.int p0), .val (.int 0), .val (.ref oq), .val (.ref r22), .val (.ref flq), .val (.ref b25), .unset, .unset] [])) rfl (hb hby at_59) (n := 28) (by decide) (by decide) (by decide : 8 + 2 ≤ _) (by decide : 106 + 32 ≤ _)
    have Z28 : n0 ≤ h27.size := Nat.le_trans Z26 E27.1
    have Z28h : h0.size ≤ h27.size := Nat.le_trans Z26h E27.1
    have CHl27 := CHl25.trans ch27
    refine own_thrH (a := T27.setTop (mkF m 61 #[.val (.int p0), .val (.int 0), .val (.ref oq), .val (.ref r22), .val (.ref flq), .val (.ref b25), .unset, .unset] [(.ref b27)])) (fun t kt => st27 t kt) ?_
    have S29 := S_cs.ext (((hO.keep K22 all0).ext E25).ext E27).2
    refine own_thrH (a := T27.setTop (mkF m 66 #[.val (.int p0), .val (.int 0), .val (.ref oq), .val (.ref r22), .val (.ref flq), .val (.ref b25), .val (.ref b27), .unset] [(.ref b25), (.ref r22)])) (fun t kt => ?_) ?_
    · show Steps p.tables e below (T27.setTop (mkF m 61 #[.val (.int p0), .val (.int 0), .val (.ref oq), .val (.ref r22), .val (.ref flq), .val (.ref b25), .unset, .unset] [(.ref b27)])) _
      refine XS.astore X27.here hx rfl (hb hby at_61) rfl rfl (l' := #[.val (.int p0), .val (.int 0), .val (.ref oq), .val (.ref r22), .val (.ref flq), .val (.ref b25), .val (.ref b27), .unset]) rfl ?_
      refine XS.aloadN X27.here hx rfl (hb hby at_63) rfl rfl ?_
      refine XS.aload X27.here hx rfl (hb hby at_64) rfl rfl ?_
      exact kt
    obtain ⟨cq30, kq30, q30a, q30b, q30c⟩ := isOf hZ27 e27 ((o22_e.ext E25).ext E27)
    obtain ⟨_, _, ⟨T30, L30, k30, n30⟩, -, X30, ⟨Lc30, hQ30, l30, y30, z30⟩, st30⟩ := X27.virtualBack hx (y := (⟨"java/lang/String", "equals", "(Ljava/lang/Object;)Z"⟩ : MethodName)) (z := (⟨"java/lang/String", "equals", "(Ljava/lang/Object;)Z"⟩ : MethodName)) hown27 (mvT hZ27 (hw _ (List.mem_of_getElem? (i := 142) rfl))) (mvT hZ27 (hw _ (List.mem_of_getElem? (i := 143) rfl))) (notFace_of_selects (args := #[]) (mvT hZ27 (hw _ (List.mem_of_getElem? (i := 145) rfl)))) (mvT hZ27 (hw _ (List.mem_of_getElem? (i := 145) rfl))) (mvT hZ27 (hw _ (List.mem_of_getElem? (i := 144) rfl))) (by decide) (backOf (W := 0) (rmEQqs l Z a0 hw [] r22 b25 sv22 d25 ks22 kc25 cs h27 n0 Z28 ((o22_e.ext E25).ext E27) ((o22_v.ext E25).ext E27) ((o22_c.ext E25).ext E27) (oE25.ext E27) (oV25.ext E27) (oC25.ext E27) ((o22_a.ext E25).ext E27) (oA25.ext E27) S29 hcs) hZ27 (hw _ (List.mem_of_getElem? (i := 146) rfl)) (hw _ (List.mem_of_getElem? (i := 24) rfl)) (by decide) (by decide)) q30a q30c (g := (mkF m 66 #[.val (.int p0), .val (.int 0), .val (.ref oq), .val (.ref r22), .val (.ref flq), .val (.ref b25), .val (.ref b27), .unset] [(.ref b25), (.ref r22)])) rfl (by rw [hml]; rfl) (Steps.refl _) (argsL := [(.ref b25)]) (rest := []) (lenOf pd__28Ljava_2flang_2fObject_3b_29Z rfl) rfl (by show 2 * 0 + _ ≤ _; exact Nat.le_of_eq rfl) (hb hby at_66) (fun _ _ => ⟨rfl, e27, (by decide : 10 + 0 ≤ _), (by decide : 138 + 0 ≤ _)⟩)
    dsimp only [Pt.U, Pt.locs, Pt.cells, Pt.slots] at X30 l30 y30 z30 st30 hQ30
    obtain ⟨rfl, N30q, e30⟩ := hQ30
    obtain ⟨lc30, X30, N30⟩ := own_pack X30 l30 y30 z30 N24 N30q (C := 10) (S' := 138) rfl rfl
    refine own_thrH (a := T30.setTop (mkF m 69 #[.val (.int p0), .val (.int 0), .val (.ref oq), .val (.ref r22), .val (.ref flq), .val (.ref b25), .val (.ref b27), .unset] [(.int 1)])) (fun t kt => st30.trans kt) ?_
    have S31 := S_cs.ext (((hO.keep K22 all0).ext E25).ext E27).2
    refine own_thrH (a := T30.setTop (mkF m 78 #[.val (.int p0), .val (.int 0), .val (.ref oq), .val (.ref r22), .val (.ref flq), .val (.ref b25), .val (.ref b27), .unset] [(.ref b27), (.ref flq)])) (fun t kt => ?_) ?_
    · show Steps p.tables e below (T30.setTop (mkF m 69 #[.val (.int p0), .val (.int 0), .val (.ref oq), .val (.ref r22), .val (.ref flq), .val (.ref b25), .val (.ref b27), .unset] [(.int 1)])) _
      refine XS.ifYes X30.here hx rfl (pc0 := 69) (pc' := 74) rfl (hb hby at_69) rfl ((if0 _ _).trans (feq (by decide)).2) (by decide) (by decide) ?_
      refine XS.aload X30.here hx rfl (hb hby at_74) rfl rfl ?_
      refine XS.aload X30.here hx rfl (hb hby at_76) rfl rfl ?_
      exact kt
    obtain ⟨cq32, kq32, q32a, q32b, q32c⟩ := isOf hZ27 e30 (((E_flq.keep K22).ext E25).ext E27)
    obtain ⟨_, _, ⟨T32, L32, k32, n32⟩, -, X32, ⟨Lc32, hQ32, l32, y32, z32⟩, st32⟩ := X30.virtualBack hx (y := (⟨"java/lang/String", "equals", "(Ljava/lang/Object;)Z"⟩ : MethodName)) (z := (⟨"java/lang/String", "equals", "(Ljava/lang/Object;)Z"⟩ : MethodName)) hown27 (mvT hZ27 (hw _ (List.mem_of_getElem? (i := 142) rfl))) (mvT hZ27 (hw _ (List.mem_of_getElem? (i := 143) rfl))) (notFace_of_selects (args := #[]) (mvT hZ27 (hw _ (List.mem_of_getElem? (i := 145) rfl)))) (mvT hZ27 (hw _ (List.mem_of_getElem? (i := 145) rfl))) (mvT hZ27 (hw _ (List.mem_of_getElem? (i := 144) rfl))) (by decide) (backOf (W := 0) (rmEQqf l Z a0 hw [] flq b27 fvq d27 kfq kc27 cs h27 n0 Z28 (((E_flq.keep K22).ext E25).ext E27) (((F_fvq.keep K22 nin0).ext E25).ext E27) (((F_flqc.keep K22 nin0).ext E25).ext E27) oE27 oV27 oC27 (((V_fvq.keep K22 nin0).ext E25).ext E27) oA27 S31 hcs) hZ27 (hw _ (List.mem_of_getElem? (i := 146) rfl)) (hw _ (List.mem_of_getElem? (i := 24) rfl)) (by decide) (by decide)) q32a q32c (g := (mkF m 78 #[.val (.int p0), .val (.int 0), .val (.ref oq), .val (.ref r22), .val (.ref flq), .val (.ref b25), .val (.ref b27), .unset] [(.ref b27), (.ref flq)])) rfl (by rw [hml]; rfl) (Steps.refl _) (argsL := [(.ref b27)]) (rest := []) (lenOf pd__28Ljava_2flang_2fObject_3b_29Z rfl) rfl (by show 2 * 0 + _ ≤ _; exact Nat.le_of_eq rfl) (hb hby at_78) (fun _ _ => ⟨rfl, e30, (by decide : 10 + 0 ≤ _), (by decide : 138 + 0 ≤ _)⟩)
    dsimp only [Pt.U, Pt.locs, Pt.cells, Pt.slots] at X32 l32 y32 z32 st32 hQ32
    obtain ⟨rfl, N32q, e32⟩ := hQ32
    obtain ⟨lc32, X32, N32⟩ := own_pack X32 l32 y32 z32 N30 N32q (C := 10) (S' := 138) rfl rfl
    refine own_thrH (a := T32.setTop (mkF m 81 #[.val (.int p0), .val (.int 0), .val (.ref oq), .val (.ref r22), .val (.ref flq), .val (.ref b25), .val (.ref b27), .unset] [(.int 1)])) (fun t kt => st32.trans kt) ?_
    have S33 := S_cs.ext (((hO.keep K22 all0).ext E25).ext E27).2
    refine own_thrH (a := T32.setTop (mkF m 88 #[.val (.int p0), .val (.int 0), .val (.ref oq), .val (.ref r22), .val (.ref flq), .val (.ref b25), .val (.ref b27), .unset] [(.ref flq)])) (fun t kt => ?_) ?_
    · show Steps p.tables e below (T32.setTop (mkF m 81 #[.val (.int p0), .val (.int 0), .val (.ref oq), .val (.ref r22), .val (.ref flq), .val (.ref b25), .val (.ref b27), .unset] [(.int 1)])) _
      refine XS.ifYes X32.here hx rfl (pc0 := 81) (pc' := 86) rfl (hb hby at_81) rfl ((if0 _ _).trans (feq (by decide)).2) (by decide) (by decide) ?_
      refine XS.aload X32.here hx rfl (hb hby at_86) rfl rfl ?_
      exact kt
    obtain ⟨cq34, kq34, q34a, q34b, q34c⟩ := isOf hZ27 e32 (((E_flq.keep K22).ext E25).ext E27)
    obtain ⟨_, _, ⟨T34, L34, k34, n34⟩, -, X34, ⟨Lc34, hQ34, l34, y34, z34⟩, st34⟩ := X32.virtualBack hx (y := (⟨"java/lang/String", "length", "()I"⟩ : MethodName)) (z := (⟨"java/lang/String", "length", "()I"⟩ : MethodName)) hown27 (mvT hZ27 (hw _ (List.mem_of_getElem? (i := 152) rfl))) (mvT hZ27 (hw _ (List.mem_of_getElem? (i := 43) rfl))) (notFace_of_selects (args := #[]) (mvT hZ27 (hw _ (List.mem_of_getElem? (i := 45) rfl)))) (mvT hZ27 (hw _ (List.mem_of_getElem? (i := 45) rfl))) (mvT hZ27 (hw _ (List.mem_of_getElem? (i := 44) rfl))) (by decide) (backOf (W := 0) (rmLNqf l Z a0 hw [] flq fvq kfq cs h27 n0 Z28 (((E_flq.keep K22).ext E25).ext E27) (((F_fvq.keep K22 nin0).ext E25).ext E27) (((F_flqc.keep K22 nin0).ext E25).ext E27) (((V_fvq.keep K22 nin0).ext E25).ext E27) S33 hcs) hZ27 (hw _ (List.mem_of_getElem? (i := 46) rfl)) (hw _ (List.mem_of_getElem? (i := 24) rfl)) (by decide) (by decide)) q34a q34c (g := (mkF m 88 #[.val (.int p0), .val (.int 0), .val (.ref oq), .val (.ref r22), .val (.ref flq), .val (.ref b25), .val (.ref b27), .unset] [(.ref flq)])) rfl (by rw [hml]; rfl) (Steps.refl _) (argsL := []) (rest := []) (lenOf pd__28_29I rfl) rfl (by show 2 * 0 + _ ≤ _; exact Nat.le_of_eq rfl) (hb hby at_88) (fun _ _ => ⟨rfl, e32, (by decide : 10 + 0 ≤ _), (by decide : 138 + 0 ≤ _)⟩)
    dsimp only [Pt.U, Pt.locs, Pt.cells, Pt.slots] at X34 l34 y34 z34 st34 hQ34
    obtain ⟨rfl, N34q, e34⟩ := hQ34
    obtain ⟨lc34, X34, N34⟩ := own_pack X34 l34 y34 z34 N32 N34q (C := 10) (S' := 138) rfl rfl
    refine own_thrH (a := T34.setTop (mkF m 91 #[.val (.int p0), .val (.int 0), .val (.ref oq), .val (.ref r22), .val (.ref flq), .val (.ref b25), .val (.ref b27), .unset] [(.int 7)])) (fun t kt => st34.trans kt) ?_
    have S35 := S_cs.ext (((hO.keep K22 all0).ext E25).ext E27).2
    refine own_thrH (a := T34.setTop (mkF m 94 #[.val (.int p0), .val (.int 0), .val (.ref oq), .val (.ref r22), .val (.ref flq), .val (.ref b25), .val (.ref b27), .val (.int 7)] [(.ref r22)])) (fun t kt => ?_) ?_
    · show Steps p.tables e below (T34.setTop (mkF m 91 #[.val (.int p0), .val (.int 0), .val (.ref oq), .val (.ref r22), .val (.ref flq), .val (.ref b25), .val (.ref b27), .unset] [(.int 7)])) _
      refine XS.istore X34.here hx rfl (hb hby at_91) rfl (l' := #[.val (.int p0), .val (.int 0), .val (.ref oq), .val (.ref r22), .val (.ref flq), .val (.ref b25), .val (.ref b27), .val (.int 7)]) rfl ?_
      refine XS.aloadN X34.here hx rfl (hb hby at_93) rfl rfl ?_
      exact kt
    obtain ⟨cq36, kq36, q36a, q36b, q36c⟩ := isOf hZ27 e34 ((o22_e.ext E25).ext E27)
    obtain ⟨_, _, ⟨T36, L36, k36, n36⟩, -, X36, ⟨Lc36, hQ36, l36, y36, z36⟩, st36⟩ := X34.virtualBack hx (y := (⟨"java/lang/String", "length", "()I"⟩ : MethodName)) (z := (⟨"java/lang/String", "length", "()I"⟩ : MethodName)) hown27 (mvT hZ27 (hw _ (List.mem_of_getElem? (i := 152) rfl))) (mvT hZ27 (hw _ (List.mem_of_getElem? (i := 43) rfl))) (notFace_of_selects (args := #[]) (mvT hZ27 (hw _ (List.mem_of_getElem? (i := 45) rfl)))) (mvT hZ27 (hw _ (List.mem_of_getElem? (i := 45) rfl))) (mvT hZ27 (hw _ (List.mem_of_getElem? (i := 44) rfl))) (by decide) (backOf (W := 0) (rmLNqs l Z a0 hw [] r22 sv22 ks22 cs h27 n0 Z28 ((o22_e.ext E25).ext E27) ((o22_v.ext E25).ext E27) ((o22_c.ext E25).ext E27) ((o22_a.ext E25).ext E27) S35 hcs) hZ27 (hw _ (List.mem_of_getElem? (i := 46) rfl)) (hw _ (List.mem_of_getElem? (i := 24) rfl)) (by decide) (by decide)) q36a q36c (g := (mkF m 94 #[.val (.int p0), .val (.int 0), .val (.ref oq), .val (.ref r22), .val (.ref flq), .val (.ref b25), .val (.ref b27), .val (.int 7)] [(.ref r22)])) rfl (by rw [hml]; rfl) (Steps.refl _) (argsL := []) (rest := []) (lenOf pd__28_29I rfl) rfl (by show 2 * 0 + _ ≤ _; exact Nat.le_of_eq rfl) (hb hby at_94) (fun _ _ => ⟨rfl, e34, (by decide : 10 + 0 ≤ _), (by decide : 138 + 0 ≤ _)⟩)
    dsimp only [Pt.U, Pt.locs, Pt.cells, Pt.slots] at X36 l36 y36 z36 st36 hQ36
    obtain ⟨rfl, N36q, e36⟩ := hQ36
    obtain ⟨lc36, X36, N36⟩ := own_pack X36 l36 y36 z36 N34 N36q (C := 10) (S' := 138) rfl rfl
    refine own_thrH (a := T36.setTop (mkF m 97 #[.val (.int p0), .val (.int 0), .val (.ref oq), .val (.ref r22), .val (.ref flq), .val (.ref b25), .val (.ref b27), .val (.int 7)] [(.int 14)])) (fun t kt => st36.trans kt) ?_
    have S37 := S_cs.ext (((hO.keep K22 all0).ext E25).ext E27).2
    have S38 := S_fm.ext (((hO.keep K22 all0).ext E25).ext E27).2
    refine own_thrH (a := T36.setTop (mkF m 105 #[.val (.int p0), .val (.int 0), .val (.ref oq), .val (.ref r22), .val (.ref flq), .val (.ref b25), .val (.ref b27), .val (.int 7)] [(.int 7), (.ref r22)])) (fun t kt => ?_) ?_
    · show Steps p.tables e below (T36.setTop (mkF m 97 #[.val (.int p0), .val (.int 0), .val (.ref oq), .val (.ref r22), .val (.ref flq), .val (.ref b25), .val (.ref b27), .val (.int 7)] [(.int 14)])) _
      refine XS.iload X36.here hx rfl (hb hby at_97) rfl ?_
      refine XS.icmpNo X36.here hx rfl (hb hby at_99) rfl (tlt (by decide)).2.2.2 ?_
      refine XS.aloadN X36.here hx rfl (hb hby at_102) rfl rfl ?_
      refine XS.iload X36.here hx rfl (hb hby at_103) rfl ?_
      exact kt
    obtain ⟨cq39, kq39, q39a, q39b, q39c⟩ := isOf hZ27 e36 ((o22_e.ext E25).ext E27)
    obtain ⟨_, _, ⟨T39, L39, k39, n39⟩, -, X39, ⟨Lc39, hQ39, l39, y39, z39⟩, st39⟩ := X36.virtualBack hx (y := (⟨"java/lang/String", "charAt", "(I)C"⟩ : MethodName)) (z := (⟨"java/lang/String", "charAt", "(I)C"⟩ : MethodName)) hown27 (mvT hZ27 (hw _ (List.mem_of_getElem? (i := 153) rfl))) (mvT hZ27 (hw _ (List.mem_of_getElem? (i := 154) rfl))) (notFace_of_selects (args := #[]) (mvT hZ27 (hw _ (List.mem_of_getElem? (i := 156) rfl)))) (mvT hZ27 (hw _ (List.mem_of_getElem? (i := 156) rfl))) (mvT hZ27 (hw _ (List.mem_of_getElem? (i := 155) rfl))) (by decide) (backOf (W := 0) (rmCAq l Z a0 hw [] r22 sv22 ks22 cs fm h27 n0 Z28 ((o22_e.ext E25).ext E27) ((o22_v.ext E25).ext E27) ((o22_c.ext E25).ext E27) ((o22_a.ext E25).ext E27) S37 S38 hcs hfm) hZ27 (hw _ (List.mem_of_getElem? (i := 157) rfl)) (hw _ (List.mem_of_getElem? (i := 24) rfl)) (by decide) (by decide)) q39a q39c (g := (mkF m 105 #[.val (.int p0), .val (.int 0), .val (.ref oq), .val (.ref r22), .val (.ref flq), .val (.ref b25), .val (.ref b27), .val (.int 7)] [(.int 7), (.ref r22)])) rfl (by rw [hml]; rfl) (Steps.refl _) (argsL := [(.int 7)]) (rest := []) (lenOf pd__28I_29C rfl) rfl (by show 2 * 0 + _ ≤ _; exact Nat.le_of_eq rfl) (hb hby at_105) (fun _ _ => ⟨rfl, e36, (by decide : 10 + 0 ≤ _), (by decide : 138 + 0 ≤ _)⟩)
    dsimp only [Pt.U, Pt.locs, Pt.cells, Pt.slots] at X39 l39 y39 z39 st39 hQ39
    obtain ⟨rfl, N39q, e39⟩ := hQ39
    obtain ⟨lc39, X39, N39⟩ := own_pack X39 l39 y39 z39 N36 N39q (C := 10) (S' := 138) rfl rfl
    refine own_thrH (a := T39.setTop (mkF m 108 #[.val (.int p0), .val (.int 0), .val (.ref oq), .val (.ref r22), .val (.ref flq), .val (.ref b25), .val (.ref b27), .val (.int 7)] [(.int (nar .char (nar .char (((32 : Int32) &&& (255 : Int32)).toUInt32.toUInt16.toUInt32.toInt32))))])) (fun t kt => st39.trans kt) ?_
    refine own_thrH (a := T39.setTop (mkF m 118 #[.val (.int p0), .val (.int 0), .val (.ref oq), .val (.ref r22), .val (.ref flq), .val (.ref b25), .val (.ref b27), .val (.int 7)] [(.int 1)])) (fun t kt => ?_) ?_
    · show Steps p.tables e below (T39.setTop (mkF m 108 #[.val (.int p0), .val (.int 0), .val (.ref oq), .val (.ref r22), .val (.ref flq), .val (.ref b25), .val (.ref b27), .val (.int 7)] [(.int (nar .char (nar .char (((32 : Int32) &&& (255 : Int32)).toUInt32.toUInt16.toUInt32.toInt32))))])) _
      refine XS.bipush X39.here hx rfl (hb hby at_108) ?_
      refine XS.icmpNo X39.here hx rfl (hb hby at_110) rfl (teq (by decide)).2 ?_
      refine XS.iconst X39.here hx rfl (hb hby at_113) ?_
      refine XS.goto X39.here hx rfl (pc0 := 114) (pc' := 118) rfl (hb hby at_114) (by decide) (by decide) ?_
      exact kt
    exact own_endH X39 hS27 (by rw [e39]; exact hk27) hZ27 hEL CHl27 hh e39 hlk (v := some (.int 1)) (fun h => by rw [Bd.returns] at h; cases h) (fun fs hr => retN X39 hx (t := .boolean) Bd.returns (by simp) (hb hby at_118) hr) ⟨rfl, N39⟩ (by decide : 10 ≤ _) (by decide : 138 ≤ _)
set_option maxRecDepth 65536 in
set_option maxHeartbeats 40000000 in
theorem comes_1 {Post : Tables → Env → Array Value → State → Outcome → State → Prop} (hpost : ∀ tb e args s v u, (limb_1_1.after args s (.returned v) u = true ∧ limb_1_2.after args s (.returned v) u = true ∧ True) → ReturnedEndW s (.returned v) u (Jvm.fieldLocs frame_1_writes args s ++ Jvm.arrayLocs frame_1_arrays args s ++ Jvm.staticLocs frame_1_statics s) 32 5312 → Post tb e args s (.returned v) u) :
    ArmFor flags0 classFile x code maxLocals ret World_1 tables_1 room_1 Calls_1 rest_1 Pre_1 Post := by
  intro l hfl _ _ p e ha hc hk s m args below hf hA hF happ hP
  obtain ⟨hcalls, hrest, hpre⟩ := hP
  obtain ⟨-, -, -, hnamed, -, -, -, hat⟩ := (Spec.applies_iff hf).mp happ
  obtain ⟨hg, hn⟩ := and_e (Cond.before_iff.mp (show (Jvm.Cond.and given_1 narrow_1).before args s = true from hpre))
  obtain ⟨g1, g2⟩ := and_e hg
  obtain ⟨w0, rfl⟩ : ∃ w0 : Value, args = #[w0] := by
    have hs : args.size = 1 := by simpa [Cond.value, given_1] using g1
    obtain ⟨L⟩ := args
    match L, hs with
    | [w0], _ => exact ⟨w0, rfl⟩
  have hw := fun d (hd : d ∈ tables_1) => atoms_spec (ws := Jvm.Cond.code x code maxLocals ret :: tables_1) hat d (List.mem_cons_of_mem _ hd)
  have hfit : Fit s := fun {y c} hc i hi => by
    obtain ⟨ha, rfl⟩ := Array.getElem?_eq_some_iff.mp hc
    have q := List.all_eq_true.mp ((Array.all_eq_true_iff_forall_mem.mp hF) _ (Array.getElem_mem ha)) i (List.mem_range.mpr hi)
    simpa [Array.getElem?_eq_getElem hi] using q
  obtain ⟨hsets, hown0⟩ := atoms_of _ (rest_1_c_eq ▸ (show rest_1_c.before _ s = true from hrest))
  have hr0 := Cond.before_iff.mp hown0
  obtain ⟨i0, ei0⟩ := is_v g2
  obtain rfl : w0 = (.int i0) := Option.some.inj ei0
  unfold narrow_1 at hn
  obtain ⟨Wxu, hn⟩ := and_e hn
  obtain ⟨Wxfu, hn⟩ := and_e hn
  obtain ⟨Wafu, hn⟩ := and_e hn
  obtain ⟨Wyfu, hn⟩ := and_e hn
  obtain ⟨Wlfu, hn⟩ := and_e hn
  obtain ⟨Wcfu, hn⟩ := and_e hn
  obtain ⟨Wxpu, hn⟩ := and_e hn
  obtain ⟨Wapu, hn⟩ := and_e hn
  obtain ⟨Wypu, hn⟩ := and_e hn
  obtain ⟨Wlpu, hn⟩ := and_e hn
  obtain ⟨Wcpu, hn⟩ := and_e hn
  obtain ⟨Wxq, hn⟩ := and_e hn
  obtain ⟨Wxfq, hn⟩ := and_e hn
  obtain ⟨Wafq, hn⟩ := and_e hn
  obtain ⟨Wyfq, hn⟩ := and_e hn
  obtain ⟨Wlfq, hn⟩ := and_e hn
  obtain ⟨Wcfq, hn⟩ := and_e hn
  obtain ⟨Wxpq, hn⟩ := and_e hn
  obtain ⟨Wapq, hn⟩ := and_e hn
  obtain ⟨Wypq, hn⟩ := and_e hn
  obtain ⟨Wlpq, hn⟩ := and_e hn
  obtain ⟨Wcpq, hn⟩ := and_e hn
  obtain ⟨Wefu0, hn⟩ := and_e hn
  obtain ⟨Wefu1, hn⟩ := and_e hn
  obtain ⟨Wefu2, hn⟩ := and_e hn
  obtain ⟨Wefu3, hn⟩ := and_e hn
  obtain ⟨Wefu4, hn⟩ := and_e hn
  obtain ⟨Wepu0, hn⟩ := and_e hn
  obtain ⟨Wepu1, hn⟩ := and_e hn
  obtain ⟨Wepu2, hn⟩ := and_e hn
  obtain ⟨Wepu3, hn⟩ := and_e hn
  obtain ⟨Wepu4, hn⟩ := and_e hn
  obtain ⟨Wepu5, hn⟩ := and_e hn
  obtain ⟨Wepu6, hn⟩ := and_e hn
  obtain ⟨Wepu7, hn⟩ := and_e hn
  obtain ⟨Wepu8, hn⟩ := and_e hn
  obtain ⟨Wepu9, hn⟩ := and_e hn
  obtain ⟨Wefq0, hn⟩ := and_e hn
  obtain ⟨Wefq1, hn⟩ := and_e hn
  obtain ⟨Wefq2, hn⟩ := and_e hn
  obtain ⟨Wefq3, hn⟩ := and_e hn
  obtain ⟨Wefq4, hn⟩ := and_e hn
  obtain ⟨Wefq5, hn⟩ := and_e hn
  obtain ⟨Wefq6, hn⟩ := and_e hn
  obtain ⟨Wepq0, hn⟩ := and_e hn
  obtain ⟨Wepq1, hn⟩ := and_e hn
  obtain ⟨Wepq2, hn⟩ := and_e hn
  obtain ⟨Wepq3, hn⟩ := and_e hn
  obtain ⟨Wepq4, hn⟩ := and_e hn
  have Wepq5 := hn
  obtain ⟨ou, eou⟩ := exa_v Wxu
  have E_ou := Exa.start eou Wxu
  have S_ou := Sta.start eou (Or.inr ⟨(hw _ (List.mem_of_getElem? (i := 1) rfl)), (hw _ (List.mem_of_getElem? (i := 2) rfl))⟩)
  obtain ⟨flu, eflu⟩ := exa_v Wxfu
  have E_flu := Exa.start eflu Wxfu
  have F_flu : Fld s s.heap ou "com/example/durable_dispatch/durabledispatch/cli/Option" "flag" "Ljava/lang/String;" (.ref flu) := Fld.start ((fld_at eou).symm.trans eflu)
  obtain ⟨fvu, efvu⟩ := arr_v Wafu
  obtain ⟨clfu, Afu⟩ := Arr.start efvu Wafu
  have F_fvu : Fld s s.heap flu "java/lang/String" "value" "[B" (.ref fvu) := Fld.start ((fld_at eflu).symm.trans efvu)
  have F_fluc := own_fldI Wcfu eflu
  obtain ⟨hlfu, hmfu⟩ := own_len efvu Afu Wlfu
  have V_fvu : Arv s s.heap fvu clfu.cls .byte (5 : Int32) [(.int 45), (.int 45), (.int 117), (.int 114), (.int 108)] (.int 0) := Arv.start hfit Afu hmfu hlfu (by decide) rfl ⟨own_elI Wefu0 efvu Afu, own_elI Wefu1 efvu Afu, own_elI Wefu2 efvu Afu, own_elI Wefu3 efvu Afu, own_elI Wefu4 efvu Afu, trivial⟩
  obtain ⟨plu, eplu⟩ := exa_v Wxpu
  have E_plu := Exa.start eplu Wxpu
  have F_plu : Fld s s.heap ou "com/example/durable_dispatch/durabledispatch/cli/Option" "placeholder" "Ljava/lang/String;" (.ref plu) := Fld.start ((fld_at eou).symm.trans eplu)
  obtain ⟨pvu, epvu⟩ := arr_v Wapu
  obtain ⟨clpu, Apu⟩ := Arr.start epvu Wapu
  have F_pvu : Fld s s.heap plu "java/lang/String" "value" "[B" (.ref pvu) := Fld.start ((fld_at eplu).symm.trans epvu)
  have F_pluc := own_fldI Wcpu eplu
  obtain ⟨hlpu, hmpu⟩ := own_len epvu Apu Wlpu
  have V_pvu : Arv s s.heap pvu clpu.cls .byte (10 : Int32) [(.int 60), (.int 74), (.int 68), (.int 66), (.int 67), (.int 32), (.int 85), (.int 82), (.int 76), (.int 62)] (.int 0) := Arv.start hfit Apu hmpu hlpu (by decide) rfl ⟨own_elI Wepu0 epvu Apu, own_elI Wepu1 epvu Apu, own_elI Wepu2 epvu Apu, own_elI Wepu3 epvu Apu, own_elI Wepu4 epvu Apu, own_elI Wepu5 epvu Apu, own_elI Wepu6 epvu Apu, own_elI Wepu7 epvu Apu, own_elI Wepu8 epvu Apu, own_elI Wepu9 epvu Apu, trivial⟩
  obtain ⟨oq, eoq⟩ := exa_v Wxq
  have E_oq := Exa.start eoq Wxq
  have S_oq := Sta.start eoq (Or.inr ⟨(hw _ (List.mem_of_getElem? (i := 1) rfl)), (hw _ (List.mem_of_getElem? (i := 175) rfl))⟩)
  obtain ⟨flq, eflq⟩ := exa_v Wxfq
  have E_flq := Exa.start eflq Wxfq
  have F_flq : Fld s s.heap oq "com/example/durable_dispatch/durabledispatch/cli/Option" "flag" "Ljava/lang/String;" (.ref flq) := Fld.start ((fld_at eoq).symm.trans eflq)
  obtain ⟨fvq, efvq⟩ := arr_v Wafq
  obtain ⟨clfq, Afq⟩ := Arr.start efvq Wafq
  have F_fvq : Fld s s.heap flq "java/lang/String" "value" "[B" (.ref fvq) := Fld.start ((fld_at eflq).symm.trans efvq)
  have F_flqc := own_fldI Wcfq eflq
  obtain ⟨hlfq, hmfq⟩ := own_len efvq Afq Wlfq
  have V_fvq : Arv s s.heap fvq clfq.cls .byte (7 : Int32) [(.int 45), (.int 45), (.int 113), (.int 117), (.int 101), (.int 117), (.int 101)] (.int 0) := Arv.start hfit Afq hmfq hlfq (by decide) rfl ⟨own_elI Wefq0 efvq Afq, own_elI Wefq1 efvq Afq, own_elI Wefq2 efvq Afq, own_elI Wefq3 efvq Afq, own_elI Wefq4 efvq Afq, own_elI Wefq5 efvq Afq, own_elI Wefq6 efvq Afq, trivial⟩
  obtain ⟨plq, eplq⟩ := exa_v Wxpq
  have E_plq := Exa.start eplq Wxpq
  have F_plq : Fld s s.heap oq "com/example/durable_dispatch/durabledispatch/cli/Option" "placeholder" "Ljava/lang/String;" (.ref plq) := Fld.start ((fld_at eoq).symm.trans eplq)
  obtain ⟨pvq, epvq⟩ := arr_v Wapq
  obtain ⟨clpq, Apq⟩ := Arr.start epvq Wapq
  have F_pvq : Fld s s.heap plq "java/lang/String" "value" "[B" (.ref pvq) := Fld.start ((fld_at eplq).symm.trans epvq)
  have F_plqc := own_fldI Wcpq eplq
  obtain ⟨hlpq, hmpq⟩ := own_len epvq Apq Wlpq
  have V_pvq : Arv s s.heap pvq clpq.cls .byte (6 : Int32) [(.int 60), (.int 110), (.int 97), (.int 109), (.int 101), (.int 62)] (.int 0) := Arv.start hfit Apq hmpq hlpq (by decide) rfl ⟨own_elI Wepq0 epvq Apq, own_elI Wepq1 epvq Apq, own_elI Wepq2 epvq Apq, own_elI Wepq3 epvq Apq, own_elI Wepq4 epvq Apq, own_elI Wepq5 epvq Apq, trivial⟩
  obtain ⟨cs, ecs⟩ := is_v (Cond.before_iff.mp (hsets _ (List.mem_of_getElem? (i := 1) rfl)))
  have S_cs : Sta s s.heap "java/lang/String" "COMPACT_STRINGS" "Z" (.int cs) := Sta.start ecs (Or.inl (hsets _ (List.mem_of_getElem? (i := 0) rfl)))
  have hcs : ¬ cs = (0 : Int32) := own_not0 ecs (Cond.before_iff.mp (hsets _ (List.mem_of_getElem? (i := 2) rfl)))
  obtain ⟨fm, efm, hfm⟩ := isR_v (Cond.before_iff.mp (hsets _ (List.mem_of_getElem? (i := 8) rfl)))
  have S_fm : Sta s s.heap "jdk/internal/util/Preconditions" "SIOOBE_FORMATTER" "Ljava/util/function/BiFunction;" fm := Sta.start efm (Or.inl (hsets _ (List.mem_of_getElem? (i := 7) rfl)))
  have hCHs : CHv s own_EL s.vm s.heap := CHv.start (own_EW hw) (fun p hp => own_held hcalls p hp) (hsets _ (List.mem_of_getElem? (i := 2) rfl)) (hw _ (List.mem_of_getElem? (i := 25) rfl)) (hw _ (List.mem_of_getElem? (i := 85) rfl))
  obtain ⟨n, o, h1, h2, h3, _, L, rfl, ⟨rfl, N⟩, -, hq⟩ := rm0 l s _ hw tables_1 i0 ou flu fvu _ plu pvu _ oq flq fvq _ plq pvq _ cs fm s.heap s.heap.size (Nat.le_refl _) S_ou E_ou F_flu F_plu E_flu F_fvu F_fluc V_fvu E_plu F_pvu F_pluc V_pvu S_oq E_oq F_flq F_plq E_flq F_fvq F_flqc V_fvq E_plq F_pvq F_plqc V_pvq S_cs hcs S_fm hfm (Old.start s) p e ha hc hk s m _ below hf ((Spec.applies_iff_loose hf).mp happ).1 ⟨rfl, State.Warmed39.refl s, rfl, hCHs⟩ trivial
  refine ⟨n, _, h1, h2, h3, hpost _ _ _ _ _ _ ⟨Cond.after_iff.mpr rfl, Cond.after_iff.mpr (eq_i res_at (Term.int_eval (1)) rfl), trivial⟩ ⟨hq.1, hq.2.1, hq.2.2.1, (hq.2.2.2.sift fun y hy => Or.inr (N y hy)).mono (by decide) (by decide)⟩⟩
theorem main_1_1 : Claimed_1_1 := comes_1 fun _ _ _ _ _ _ h hF => ⟨h.1, hF⟩
theorem main_1_2 : Claimed_1_2 := comes_1 fun _ _ _ _ _ _ h hF => ⟨h.2.1, hF⟩
end Jvm.Pilot.@@N@@
namespace Jvm.Pilot.@@N@@
open Jvm Jvm.ClassFile Sem Op Lib Jvm.Free Jvm.Stand Jvm.Pilot.@@N@@.Jvm.D
/-! MADE BY PROGRAM (witnessworld.py) out of the Statement's table words and the real class files: 24 classes; the members and pool entries that the words name. The judged class is class 1, her method 1. -/
namespace start1
open Jvm.ClassFile
def u (s : String) : CpInfo := .utf8 (stringToUtf16 s)
/-- a pool by its gaps: so many unusable entries, then the entry; so many at the end -/
def gap : Nat → List CpInfo → List CpInfo
  | 0, r => r
  | n + 1, r => .unusable :: gap n r
def poolList (es : List (Nat × CpInfo)) (last : Nat) : List CpInfo := es.foldr (fun e r => gap e.1 (e.2 :: r)) (gap last [])
def pool (es : List (Nat × CpInfo)) (last : Nat) : Array CpInfo := ⟨poolList es last⟩
def fileOf (pool : Array CpInfo) (this : Nat) (attrs : Array Attribute := #[]) (ms : Array MethodInfo := #[]) (fl : Nat := 33) (sup : Nat := 0) (ifs : Array Nat := #[]) (fds : Array FieldInfo := #[]) : ClassFile where
  minorVersion := 0
  majorVersion := 65
  constantPool := pool
  accessFlags := fl
  thisClass := this
  superClass := sup
  interfaces := ifs
  fields := fds
  methods := ms
  attributes := attrs
def plain (name : String) (sup : Option ClassId) : Class where
  name := name
  kind := .ordinary
  loader := none
  accessFlags := 33
  super := sup
  interfaces := #[]
  cf := none
  fields := #[]
  methods := #[]
  instanceTypes := #[]
  staticTypes := #[]
  resolved := #[]
  callSites := []
  init := .initialized
  statics := none
  mirror := none

def pool0 : Array CpInfo := pool [(5, u "<init>"), (0, u "()V"), (1, .class_ 10), (1, u "java/lang/Object"), (85, u "clone"), (0, u "()Ljava/lang/Object;")] 26

def k0c0 : Code := { maxStack := 0, maxLocals := 1, code := object_method_1_code, exceptionTable := #[], attributes := #[] }
def k0m0 : Method := { name := "<init>", desc := "()V", sig := { parameters := [], returnType := none }, accessFlags := 1, code := some k0c0 }
def k0m1 : Method := { name := "clone", desc := "()Ljava/lang/Object;", sig := { parameters := [], returnType := some (.object "java/lang/Object") }, accessFlags := 260, code := none }
/-- java/lang/Object -/
def k0 : Class := { plain "java/lang/Object" none with
  accessFlags := 33
  interfaces := #[]
  cf := some (fileOf pool0 8 #[] #[{ accessFlags := 1, nameIndex := 5, descriptorIndex := 6, attributes := #[] }, { accessFlags := 260, nameIndex := 96, descriptorIndex := 97, attributes := #[] }] 33 0 #[] #[])
  fields := #[]
  methods := #[k0m0, k0m1]
  instanceTypes := #[]
  staticTypes := #[]
  resolved := Array.replicate 124 none
  statics := none }

def pool1 : Array CpInfo := pool [(2, .class_ 4), (1, u "java/lang/Object"), (0, u "<init>"), (0, u "()V"), (0, .fieldref 8 9), (0, .class_ 10), (0, .nameAndType 11 12), (0, u "com/example/durable_dispatch/durabledispatch/cli/Option"), (0, u "URL"), (0, u "Lcom/example/durable_dispatch/durabledispatch/cli/Option;"), (0, .fieldref 8 14), (0, .nameAndType 15 12), (0, u "QUEUE"), (0, .methodref 8 17), (0, .nameAndType 18 19), (0, u "synopsis"), (0, u "()Ljava/lang/String;"), (0, .methodref 8 21), (0, .nameAndType 22 19), (0, u "flag"), (0, .string 24), (0, u "--url <JDBC URL>"), (0, .string 26), (0, u "--queue <name>"), (0, .string 28), (0, u "--url"), (0, .string 30), (0, u "--queue"), (0, .methodref 32 33), (0, .class_ 34), (0, .nameAndType 35 36), (0, u "java/lang/String"), (0, u "equals"), (0, u "(Ljava/lang/Object;)Z"), (0, .methodref 32 38), (0, .nameAndType 39 40), (0, u "length"), (0, u "()I"), (0, .methodref 32 42), (0, .nameAndType 43 44), (0, u "charAt"), (0, u "(I)C"), (0, .class_ 46), (0, u "com/example/durable_dispatch/durabledispatch/cli/OptionSynopsisPinLaw"), (2, u "law"), (0, u "(I)Z")] 3

def k1m0 : Method := { name := "<init>", desc := "()V", sig := { parameters := [], returnType := none }, accessFlags := 2, code := none }
def k1c1 : Code := { maxStack := 2, maxLocals := 8, code := code, exceptionTable := #[], attributes := #[] }
def k1m1 : Method := { name := "law", desc := "(I)Z", sig := { parameters := [.int], returnType := some .boolean }, accessFlags := 9, code := some k1c1 }
/-- com/example/durable_dispatch/durabledispatch/cli/OptionSynopsisPinLaw -/
def k1 : Class := { plain "com/example/durable_dispatch/durabledispatch/cli/OptionSynopsisPinLaw" (some 0) with
  accessFlags := 49
  interfaces := #[]
  cf := some (fileOf pool1 45 #[] #[{ accessFlags := 2, nameIndex := 5, descriptorIndex := 6, attributes := #[] }, { accessFlags := 9, nameIndex := 49, descriptorIndex := 50, attributes := #[] }] 49 2 #[] #[])
  fields := #[]
  methods := #[k1m0, k1m1]
  instanceTypes := #[]
  staticTypes := #[]
  resolved := Array.replicate 54 none
  statics := none }

def pool2 : Array CpInfo := pool [(1, .class_ 2), (0, u "java/lang/constant/Constable"), (0, .class_ 4), (0, u "java/lang/Object")] 6

/-- java/lang/constant/Constable -/
def k2 : Class := { plain "java/lang/constant/Constable" (some 0) with
  accessFlags := 1537
  interfaces := #[]
  cf := some (fileOf pool2 1 #[] #[] 1537 3 #[] #[])
  fields := #[]
  methods := #[]
  instanceTypes := #[]
  staticTypes := #[]
  resolved := Array.replicate 11 none
  statics := none }

def pool3 : Array CpInfo := pool [(1, .class_ 2), (0, u "java/lang/Comparable"), (0, .class_ 4), (0, u "java/lang/Object")] 7

/-- java/lang/Comparable -/
def k3 : Class := { plain "java/lang/Comparable" (some 0) with
  accessFlags := 1537
  interfaces := #[]
  cf := some (fileOf pool3 1 #[] #[] 1537 3 #[] #[])
  fields := #[]
  methods := #[]
  instanceTypes := #[]
  staticTypes := #[]
  resolved := Array.replicate 12 none
  statics := none }

def pool4 : Array CpInfo := pool [(1, .class_ 2), (0, u "java/io/Serializable"), (0, .class_ 4), (0, u "java/lang/Object")] 2

/-- java/io/Serializable -/
def k4 : Class := { plain "java/io/Serializable" (some 0) with
  accessFlags := 1537
  interfaces := #[]
  cf := some (fileOf pool4 1 #[] #[] 1537 3 #[] #[])
  fields := #[]
  methods := #[]
  instanceTypes := #[]
  staticTypes := #[]
  resolved := Array.replicate 7 none
  statics := none }

def pool5 : Array CpInfo := pool [(2, .class_ 4), (1, u "java/lang/Enum"), (0, u "name"), (0, u "Ljava/lang/String;"), (2, u "ordinal"), (0, u "I"), (1, .class_ 14), (1, u "java/lang/Object"), (4, u "hash"), (86, .class_ 108), (1, u "java/lang/Enum$EnumDesc"), (2, .class_ 112), (0, u "java/lang/constant/Constable"), (0, .class_ 114), (0, u "java/lang/Comparable"), (0, .class_ 116), (0, u "java/io/Serializable")] 87

/-- java/lang/Enum -/
def k5 : Class := { plain "java/lang/Enum" (some 0) with
  accessFlags := 1057
  interfaces := #[2, 3, 4]
  cf := some (fileOf pool5 2 #[.nestMembers #[106]] #[] 1057 12 #[111, 113, 115] #[{ accessFlags := 18, nameIndex := 5, descriptorIndex := 6, attributes := #[] }, { accessFlags := 18, nameIndex := 9, descriptorIndex := 10, attributes := #[] }, { accessFlags := 2, nameIndex := 19, descriptorIndex := 10, attributes := #[] }])
  fields := #[{ name := "name", type := (.object "java/lang/String"), accessFlags := 18, slot := 0, constantValue := 0 }, { name := "ordinal", type := .int, accessFlags := 18, slot := 1, constantValue := 0 }, { name := "hash", type := .int, accessFlags := 2, slot := 2, constantValue := 0 }]
  methods := #[]
  instanceTypes := #[(.object "java/lang/String"), .int, .int]
  staticTypes := #[]
  resolved := Array.replicate 204 none
  statics := none }

def pool6 : Array CpInfo := pool [(1, .class_ 2), (0, u "com/example/durable_dispatch/durabledispatch/cli/Option"), (2, u "URL"), (0, u "Lcom/example/durable_dispatch/durabledispatch/cli/Option;"), (2, u "QUEUE"), (2, u "$VALUES"), (0, u "[Lcom/example/durable_dispatch/durabledispatch/cli/Option;"), (6, .class_ 22), (1, u "java/lang/Enum"), (4, u "<init>"), (1, .fieldref 1 30), (0, .nameAndType 31 32), (0, u "flag"), (0, u "Ljava/lang/String;"), (0, .fieldref 1 34), (0, .nameAndType 35 32), (0, u "placeholder"), (20, .class_ 57), (0, u "java/lang/StringBuilder"), (0, .methodref 56 59), (0, .nameAndType 27 60), (0, u "()V"), (0, .methodref 56 62), (0, .nameAndType 63 64), (0, u "append"), (0, u "(Ljava/lang/String;)Ljava/lang/StringBuilder;"), (0, .string 66), (0, u " "), (0, .methodref 56 68), (0, .nameAndType 69 70), (0, u "toString"), (0, u "()Ljava/lang/String;"), (26, u "synopsis")] 4

def k6c0 : Code := { maxStack := 1, maxLocals := 1, code := prog_1_method_5_code, exceptionTable := #[], attributes := #[] }
def k6m0 : Method := { name := "flag", desc := "()Ljava/lang/String;", sig := { parameters := [], returnType := some (.object "java/lang/String") }, accessFlags := 0, code := some k6c0 }
def k6c1 : Code := { maxStack := 2, maxLocals := 1, code := prog_1_method_6_code, exceptionTable := #[], attributes := #[] }
def k6m1 : Method := { name := "synopsis", desc := "()Ljava/lang/String;", sig := { parameters := [], returnType := some (.object "java/lang/String") }, accessFlags := 0, code := some k6c1 }
/-- com/example/durable_dispatch/durabledispatch/cli/Option -/
def k6 : Class := { plain "com/example/durable_dispatch/durabledispatch/cli/Option" (some 5) with
  accessFlags := 16432
  interfaces := #[]
  cf := some (fileOf pool6 1 #[] #[{ accessFlags := 0, nameIndex := 31, descriptorIndex := 70, attributes := #[] }, { accessFlags := 0, nameIndex := 97, descriptorIndex := 70, attributes := #[] }] 16432 20 #[] #[{ accessFlags := 16409, nameIndex := 5, descriptorIndex := 6, attributes := #[] }, { accessFlags := 16409, nameIndex := 9, descriptorIndex := 6, attributes := #[] }, { accessFlags := 18, nameIndex := 31, descriptorIndex := 32, attributes := #[] }, { accessFlags := 18, nameIndex := 35, descriptorIndex := 32, attributes := #[] }, { accessFlags := 4122, nameIndex := 12, descriptorIndex := 13, attributes := #[] }])
  fields := #[{ name := "URL", type := (.object "com/example/durable_dispatch/durabledispatch/cli/Option"), accessFlags := 16409, slot := 0, constantValue := 0 }, { name := "QUEUE", type := (.object "com/example/durable_dispatch/durabledispatch/cli/Option"), accessFlags := 16409, slot := 1, constantValue := 0 }, { name := "flag", type := (.object "java/lang/String"), accessFlags := 18, slot := 3, constantValue := 0 }, { name := "placeholder", type := (.object "java/lang/String"), accessFlags := 18, slot := 4, constantValue := 0 }, { name := "$VALUES", type := (.array (.object "com/example/durable_dispatch/durabledispatch/cli/Option")), accessFlags := 4122, slot := 2, constantValue := 0 }]
  methods := #[k6m0, k6m1]
  instanceTypes := #[(.object "java/lang/String"), .int, .int, (.object "java/lang/String"), (.object "java/lang/String")]
  staticTypes := #[(.object "com/example/durable_dispatch/durabledispatch/cli/Option"), (.object "com/example/durable_dispatch/durabledispatch/cli/Option"), (.array (.object "com/example/durable_dispatch/durabledispatch/cli/Option"))]
  resolved := Array.replicate 102 none
  statics := some 0 }

def pool7 : Array CpInfo := pool [(1, .class_ 2), (0, u "java/lang/Appendable"), (0, .class_ 4), (0, u "java/lang/Object")] 9

/-- java/lang/Appendable -/
def k7 : Class := { plain "java/lang/Appendable" (some 0) with
  accessFlags := 1537
  interfaces := #[]
  cf := some (fileOf pool7 1 #[] #[] 1537 3 #[] #[])
  fields := #[]
  methods := #[]
  instanceTypes := #[]
  staticTypes := #[]
  resolved := Array.replicate 14 none
  statics := none }

def pool8 : Array CpInfo := pool [(2, .class_ 4), (1, u "java/lang/CharSequence"), (42, .class_ 48), (0, u "java/lang/CharSequence$1CodePointIterator"), (10, .class_ 60), (0, u "java/lang/CharSequence$1CharIterator"), (5, .class_ 67), (0, u "java/lang/Object")] 63

/-- java/lang/CharSequence -/
def k8 : Class := { plain "java/lang/CharSequence" (some 0) with
  accessFlags := 1537
  interfaces := #[]
  cf := some (fileOf pool8 2 #[.nestMembers #[47, 59]] #[] 1537 66 #[] #[])
  fields := #[]
  methods := #[]
  instanceTypes := #[]
  staticTypes := #[]
  resolved := Array.replicate 131 none
  statics := none }

def pool9 : Array CpInfo := pool [(1, .class_ 2), (0, u "java/lang/String"), (0, .methodref 4 5), (0, .class_ 6), (0, .nameAndType 7 8), (0, u "java/lang/Object"), (0, u "<init>"), (0, u "()V"), (1, .class_ 12), (1, u "java/lang/AbstractStringBuilder"), (0, u "EMPTYVALUE"), (0, u "[B"), (0, .fieldref 10 16), (0, .nameAndType 17 14), (0, u "value"), (0, .fieldref 1 19), (0, .nameAndType 20 21), (0, u "COMPACT_STRINGS"), (0, u "Z"), (0, .fieldref 10 23), (0, .nameAndType 24 25), (0, u "coder"), (0, u "B"), (6, .methodref 1 33), (0, .nameAndType 34 35), (0, u "length"), (0, u "()I"), (4, .methodref 1 41), (0, .nameAndType 24 42), (0, u "()B"), (2, u "append"), (0, u "(Ljava/lang/String;)Ljava/lang/AbstractStringBuilder;"), (1, .class_ 49), (0, u "java/lang/CharSequence"), (19, u "(Ljava/lang/String;)V"), (5, u "maybeLatin1"), (3, .fieldref 10 80), (0, .nameAndType 81 82), (0, u "count"), (0, u "I"), (2, u "isLatin1"), (0, u "()Z"), (13, .methodref 10 101), (0, .nameAndType 102 103), (0, u "ensureCapacityInternal"), (0, u "(I)V"), (104, .methodref 10 209), (0, .nameAndType 210 211), (0, u "putStringAt"), (0, u "(ILjava/lang/String;)V"), (5, u "inflateIfNeededFor"), (2, .nameAndType 221 222), (0, u "getBytes"), (0, u "([BIB)V"), (174, .methodref 10 398), (0, .nameAndType 217 69), (0, .methodref 1 220), (3, u "()[B"), (40, .class_ 445), (0, u "java/lang/Appendable"), (106, u "getValue")] 56

def k9m0 : Method := { name := "<init>", desc := "()V", sig := { parameters := [], returnType := none }, accessFlags := 0, code := none }
def k9c1 : Code := { maxStack := 2, maxLocals := 2, code := jdk_68_method_2_code, exceptionTable := #[], attributes := #[] }
def k9m1 : Method := { name := "<init>", desc := "(I)V", sig := { parameters := [.int], returnType := none }, accessFlags := 0, code := some k9c1 }
def k9c2 : Code := { maxStack := 1, maxLocals := 1, code := jdk_68_method_6_code, exceptionTable := #[], attributes := #[] }
def k9m2 : Method := { name := "length", desc := "()I", sig := { parameters := [], returnType := some .int }, accessFlags := 1, code := some k9c2 }
def k9c3 : Code := { maxStack := 4, maxLocals := 3, code := jdk_68_method_9_code, exceptionTable := #[], attributes := #[] }
def k9m3 : Method := { name := "ensureCapacityInternal", desc := "(I)V", sig := { parameters := [.int], returnType := none }, accessFlags := 2, code := some k9c3 }
def k9c4 : Code := { maxStack := 3, maxLocals := 3, code := jdk_68_method_22_code, exceptionTable := #[], attributes := #[] }
def k9m4 : Method := { name := "append", desc := "(Ljava/lang/String;)Ljava/lang/AbstractStringBuilder;", sig := { parameters := [(.object "java/lang/String")], returnType := some (.object "java/lang/AbstractStringBuilder") }, accessFlags := 1, code := some k9c4 }
def k9c5 : Code := { maxStack := 1, maxLocals := 1, code := jdk_68_method_64_code, exceptionTable := #[], attributes := #[] }
def k9m5 : Method := { name := "getValue", desc := "()[B", sig := { parameters := [], returnType := some (.array .byte) }, accessFlags := 16, code := some k9c5 }
def k9c6 : Code := { maxStack := 1, maxLocals := 1, code := jdk_68_method_68_code, exceptionTable := #[], attributes := #[] }
def k9m6 : Method := { name := "isLatin1", desc := "()Z", sig := { parameters := [], returnType := some .boolean }, accessFlags := 16, code := some k9c6 }
def k9c7 : Code := { maxStack := 2, maxLocals := 2, code := jdk_68_method_71_code, exceptionTable := #[], attributes := #[] }
def k9m7 : Method := { name := "inflateIfNeededFor", desc := "(Ljava/lang/String;)V", sig := { parameters := [(.object "java/lang/String")], returnType := none }, accessFlags := 2, code := some k9c7 }
def k9c8 : Code := { maxStack := 4, maxLocals := 3, code := jdk_68_method_73_code, exceptionTable := #[], attributes := #[] }
def k9m8 : Method := { name := "putStringAt", desc := "(ILjava/lang/String;)V", sig := { parameters := [.int, (.object "java/lang/String")], returnType := none }, accessFlags := 2, code := some k9c8 }
/-- java/lang/AbstractStringBuilder -/
def k9 : Class := { plain "java/lang/AbstractStringBuilder" (some 0) with
  accessFlags := 1056
  interfaces := #[7, 8]
  cf := some (fileOf pool9 10 #[] #[{ accessFlags := 0, nameIndex := 7, descriptorIndex := 8, attributes := #[] }, { accessFlags := 0, nameIndex := 7, descriptorIndex := 103, attributes := #[] }, { accessFlags := 1, nameIndex := 34, descriptorIndex := 35, attributes := #[] }, { accessFlags := 2, nameIndex := 102, descriptorIndex := 103, attributes := #[] }, { accessFlags := 1, nameIndex := 45, descriptorIndex := 46, attributes := #[] }, { accessFlags := 16, nameIndex := 552, descriptorIndex := 403, attributes := #[] }, { accessFlags := 16, nameIndex := 85, descriptorIndex := 86, attributes := #[] }, { accessFlags := 2, nameIndex := 217, descriptorIndex := 69, attributes := #[] }, { accessFlags := 2, nameIndex := 210, descriptorIndex := 211, attributes := #[] }] 1056 4 #[444, 48] #[{ accessFlags := 0, nameIndex := 17, descriptorIndex := 14, attributes := #[] }, { accessFlags := 0, nameIndex := 24, descriptorIndex := 25, attributes := #[] }, { accessFlags := 0, nameIndex := 75, descriptorIndex := 21, attributes := #[] }, { accessFlags := 0, nameIndex := 81, descriptorIndex := 82, attributes := #[] }, { accessFlags := 26, nameIndex := 13, descriptorIndex := 14, attributes := #[] }])
  fields := #[{ name := "value", type := (.array .byte), accessFlags := 0, slot := 0, constantValue := 0 }, { name := "coder", type := .byte, accessFlags := 0, slot := 1, constantValue := 0 }, { name := "maybeLatin1", type := .boolean, accessFlags := 0, slot := 2, constantValue := 0 }, { name := "count", type := .int, accessFlags := 0, slot := 3, constantValue := 0 }, { name := "EMPTYVALUE", type := (.array .byte), accessFlags := 26, slot := 0, constantValue := 0 }]
  methods := #[k9m0, k9m1, k9m2, k9m3, k9m4, k9m5, k9m6, k9m7, k9m8]
  instanceTypes := #[(.array .byte), .byte, .boolean, .int]
  staticTypes := #[(.array .byte)]
  resolved := Array.replicate 609 none
  statics := none }

def pool10 : Array CpInfo := pool [(1, .methodref 2 3), (0, .class_ 4), (0, .nameAndType 5 6), (0, u "java/lang/AbstractStringBuilder"), (0, u "<init>"), (0, u "(I)V"), (11, .class_ 20), (1, u "java/lang/String"), (3, .class_ 26), (1, u "java/lang/StringBuilder"), (0, u "append"), (0, u "(Ljava/lang/String;)Ljava/lang/StringBuilder;"), (0, .methodref 2 30), (0, .nameAndType 27 31), (0, u "(Ljava/lang/String;)Ljava/lang/AbstractStringBuilder;"), (105, .methodref 18 138), (0, .nameAndType 5 139), (0, u "(Ljava/lang/StringBuilder;)V"), (5, u "()V"), (10, u "()I"), (186, .methodref 2 344), (0, .nameAndType 345 156), (0, u "length"), (3, .class_ 350), (0, u "java/lang/Appendable"), (0, .class_ 352), (0, u "java/io/Serializable"), (0, .class_ 354), (0, u "java/lang/Comparable"), (0, .class_ 356), (0, u "java/lang/CharSequence"), (0, u "serialVersionUID"), (0, u "J"), (40, u "toString"), (0, u "()Ljava/lang/String;")] 21

def k10c0 : Code := { maxStack := 2, maxLocals := 1, code := jdk_67_method_1_code, exceptionTable := #[], attributes := #[] }
def k10m0 : Method := { name := "<init>", desc := "()V", sig := { parameters := [], returnType := none }, accessFlags := 1, code := some k10c0 }
def k10c1 : Code := { maxStack := 2, maxLocals := 2, code := jdk_67_method_7_code, exceptionTable := #[], attributes := #[] }
def k10m1 : Method := { name := "append", desc := "(Ljava/lang/String;)Ljava/lang/StringBuilder;", sig := { parameters := [(.object "java/lang/String")], returnType := some (.object "java/lang/StringBuilder") }, accessFlags := 1, code := some k10c1 }
def k10c2 : Code := { maxStack := 3, maxLocals := 1, code := jdk_67_method_42_code, exceptionTable := #[], attributes := #[] }
def k10m2 : Method := { name := "toString", desc := "()Ljava/lang/String;", sig := { parameters := [], returnType := some (.object "java/lang/String") }, accessFlags := 1, code := some k10c2 }
def k10c3 : Code := { maxStack := 1, maxLocals := 1, code := jdk_67_method_93_code, exceptionTable := #[], attributes := #[] }
def k10m3 : Method := { name := "length", desc := "()I", sig := { parameters := [], returnType := some .int }, accessFlags := 4161, code := some k10c3 }
/-- java/lang/StringBuilder -/
def k10 : Class := { plain "java/lang/StringBuilder" (some 9) with
  accessFlags := 49
  interfaces := #[7, 4, 3, 8]
  cf := some (fileOf pool10 24 #[] #[{ accessFlags := 1, nameIndex := 5, descriptorIndex := 145, attributes := #[] }, { accessFlags := 1, nameIndex := 27, descriptorIndex := 28, attributes := #[] }, { accessFlags := 1, nameIndex := 399, descriptorIndex := 400, attributes := #[] }, { accessFlags := 4161, nameIndex := 345, descriptorIndex := 156, attributes := #[] }] 49 2 #[349, 351, 353, 355] #[{ accessFlags := 24, nameIndex := 357, descriptorIndex := 358, attributes := #[] }])
  fields := #[{ name := "serialVersionUID", type := .long, accessFlags := 24, slot := 0, constantValue := 0 }]
  methods := #[k10m0, k10m1, k10m2, k10m3]
  instanceTypes := #[(.array .byte), .byte, .boolean, .int]
  staticTypes := #[.long]
  resolved := Array.replicate 422 none
  statics := none }

def pool11 : Array CpInfo := pool [(1, .class_ 2), (0, u "java/lang/constant/ConstantDesc"), (0, .class_ 4), (0, u "java/lang/Object")] 32

/-- java/lang/constant/ConstantDesc -/
def k11 : Class := { plain "java/lang/constant/ConstantDesc" (some 0) with
  accessFlags := 1537
  interfaces := #[]
  cf := some (fileOf pool11 1 #[] #[] 1537 3 #[] #[])
  fields := #[]
  methods := #[]
  instanceTypes := #[]
  staticTypes := #[]
  resolved := Array.replicate 37 none
  statics := none }

def pool12 : Array CpInfo := pool [(1, .methodref 2 3), (0, .class_ 4), (0, .nameAndType 5 6), (0, u "java/lang/Object"), (0, u "<init>"), (0, u "()V"), (2, .fieldref 10 11), (0, .class_ 12), (0, .nameAndType 13 14), (0, u "java/lang/String"), (0, u "value"), (0, u "[B"), (0, .fieldref 10 16), (0, .nameAndType 17 18), (0, u "coder"), (0, u "B"), (2, u "hash"), (0, u "I"), (2, u "hashIsZero"), (0, u "Z"), (11, .fieldref 10 39), (0, .nameAndType 40 26), (0, u "COMPACT_STRINGS"), (13, .methodref 55 56), (0, .class_ 57), (0, .nameAndType 58 59), (0, u "java/util/Arrays"), (0, u "copyOfRange"), (0, u "([BII)[B"), (47, .class_ 109), (1, u "java/lang/StringLatin1"), (32, u "()Z"), (50, .class_ 195), (1, u "java/lang/System"), (16, .methodref 193 213), (0, .nameAndType 214 215), (0, u "arraycopy"), (0, u "(Ljava/lang/Object;ILjava/lang/Object;II)V"), (118, u "()I"), (0, .methodref 10 336), (0, .nameAndType 17 337), (0, u "()B"), (2, u "()[B"), (22, u "([BI)C"), (27, u "(II)V"), (35, u "(I)C"), (61, .methodref 10 490), (0, .nameAndType 5 491), (0, u "(Ljava/lang/AbstractStringBuilder;Ljava/lang/Void;)V"), (0, .methodref 10 493), (0, .nameAndType 494 142), (0, u "isLatin1"), (0, .methodref 107 496), (0, .nameAndType 497 363), (0, u "charAt"), (3, u "checkIndex"), (4, .nameAndType 507 334), (0, u "length"), (24, u "getBytes"), (8, .methodref 107 542), (0, .nameAndType 543 544), (0, u "equals"), (0, u "([B[B)Z"), (4, .methodref 550 506), (0, .class_ 551), (0, u "java/lang/AbstractStringBuilder"), (0, .methodref 550 553), (0, .nameAndType 554 340), (0, u "getValue"), (18, u "(Ljava/lang/Object;)Z"), (1, .class_ 576), (0, u "java/lang/CharSequence"), (22, u "CASE_INSENSITIVE_ORDER"), (0, u "Ljava/util/Comparator;"), (220, u "([BIB)V"), (225, .methodref 550 493), (5, .fieldref 1054 1055), (0, .class_ 1056), (0, .nameAndType 1057 1058), (0, u "jdk/internal/util/Preconditions"), (0, u "SIOOBE_FORMATTER"), (0, u "Ljava/util/function/BiFunction;"), (0, .methodref 1054 1060), (0, .nameAndType 501 1061), (0, u "(IILjava/util/function/BiFunction;)I"), (39, u "serialPersistentFields"), (0, u "[Ljava/io/ObjectStreamField;"), (0, .class_ 1104), (0, u "java/lang/String$CaseInsensitiveComparator"), (1, .class_ 1107), (0, u "java/io/Serializable"), (0, .class_ 1109), (0, u "java/lang/Comparable"), (0, .class_ 1111), (0, u "java/lang/constant/Constable"), (0, .class_ 1113), (0, u "java/lang/constant/ConstantDesc"), (2, u "serialVersionUID"), (0, u "J"), (3, u "REPL"), (0, u "C"), (2, u "LATIN1"), (1, u "UTF16"), (105, u "(Ljava/lang/StringBuilder;)V")] 217

def k12m0 : Method := { name := "<init>", desc := "()V", sig := { parameters := [], returnType := none }, accessFlags := 1, code := none }
def k12c1 : Code := { maxStack := 3, maxLocals := 2, code := jdk_42_method_53_code, exceptionTable := #[], attributes := #[] }
def k12m1 : Method := { name := "<init>", desc := "(Ljava/lang/StringBuilder;)V", sig := { parameters := [(.object "java/lang/StringBuilder")], returnType := none }, accessFlags := 1, code := some k12c1 }
def k12c2 : Code := { maxStack := 2, maxLocals := 1, code := jdk_42_method_54_code, exceptionTable := #[], attributes := #[] }
def k12m2 : Method := { name := "length", desc := "()I", sig := { parameters := [], returnType := some .int }, accessFlags := 1, code := some k12c2 }
def k12c3 : Code := { maxStack := 2, maxLocals := 2, code := jdk_42_method_56_code, exceptionTable := #[], attributes := #[] }
def k12m3 : Method := { name := "charAt", desc := "(I)C", sig := { parameters := [.int], returnType := some .char }, accessFlags := 1, code := some k12c3 }
def k12c4 : Code := { maxStack := 2, maxLocals := 3, code := jdk_42_method_66_code, exceptionTable := #[], attributes := #[] }
def k12m4 : Method := { name := "equals", desc := "(Ljava/lang/Object;)Z", sig := { parameters := [(.object "java/lang/Object")], returnType := some .boolean }, accessFlags := 1, code := some k12c4 }
def k12c5 : Code := { maxStack := 5, maxLocals := 4, code := jdk_42_method_147_code, exceptionTable := #[], attributes := #[] }
def k12m5 : Method := { name := "getBytes", desc := "([BIB)V", sig := { parameters := [(.array .byte), .int, .byte], returnType := none }, accessFlags := 0, code := some k12c5 }
def k12c6 : Code := { maxStack := 5, maxLocals := 5, code := jdk_42_method_150_code, exceptionTable := #[], attributes := #[] }
def k12m6 : Method := { name := "<init>", desc := "(Ljava/lang/AbstractStringBuilder;Ljava/lang/Void;)V", sig := { parameters := [(.object "java/lang/AbstractStringBuilder"), (.object "java/lang/Void")], returnType := none }, accessFlags := 0, code := some k12c6 }
def k12c7 : Code := { maxStack := 1, maxLocals := 1, code := jdk_42_method_152_code, exceptionTable := #[], attributes := #[] }
def k12m7 : Method := { name := "coder", desc := "()B", sig := { parameters := [], returnType := some .byte }, accessFlags := 0, code := some k12c7 }
def k12c8 : Code := { maxStack := 1, maxLocals := 1, code := jdk_42_method_154_code, exceptionTable := #[], attributes := #[] }
def k12m8 : Method := { name := "isLatin1", desc := "()Z", sig := { parameters := [], returnType := some .boolean }, accessFlags := 0, code := some k12c8 }
def k12c9 : Code := { maxStack := 3, maxLocals := 2, code := jdk_42_method_155_code, exceptionTable := #[], attributes := #[] }
def k12m9 : Method := { name := "checkIndex", desc := "(II)V", sig := { parameters := [.int, .int], returnType := none }, accessFlags := 8, code := some k12c9 }
/-- java/lang/String -/
def k12 : Class := { plain "java/lang/String" (some 0) with
  accessFlags := 49
  interfaces := #[4, 3, 8, 2, 11]
  cf := some (fileOf pool12 10 #[.nestMembers #[1103]] #[{ accessFlags := 1, nameIndex := 5, descriptorIndex := 6, attributes := #[] }, { accessFlags := 1, nameIndex := 5, descriptorIndex := 1233, attributes := #[] }, { accessFlags := 1, nameIndex := 507, descriptorIndex := 334, attributes := #[] }, { accessFlags := 1, nameIndex := 497, descriptorIndex := 427, attributes := #[] }, { accessFlags := 1, nameIndex := 543, descriptorIndex := 573, attributes := #[] }, { accessFlags := 0, nameIndex := 532, descriptorIndex := 821, attributes := #[] }, { accessFlags := 0, nameIndex := 5, descriptorIndex := 491, attributes := #[] }, { accessFlags := 0, nameIndex := 17, descriptorIndex := 337, attributes := #[] }, { accessFlags := 0, nameIndex := 494, descriptorIndex := 142, attributes := #[] }, { accessFlags := 8, nameIndex := 501, descriptorIndex := 391, attributes := #[] }] 49 2 #[1106, 1108, 575, 1110, 1112] #[{ accessFlags := 18, nameIndex := 13, descriptorIndex := 14, attributes := #[] }, { accessFlags := 18, nameIndex := 17, descriptorIndex := 18, attributes := #[] }, { accessFlags := 2, nameIndex := 21, descriptorIndex := 22, attributes := #[] }, { accessFlags := 2, nameIndex := 25, descriptorIndex := 26, attributes := #[] }, { accessFlags := 26, nameIndex := 1116, descriptorIndex := 1117, attributes := #[] }, { accessFlags := 24, nameIndex := 40, descriptorIndex := 26, attributes := #[] }, { accessFlags := 26, nameIndex := 1101, descriptorIndex := 1102, attributes := #[] }, { accessFlags := 26, nameIndex := 1121, descriptorIndex := 1122, attributes := #[] }, { accessFlags := 25, nameIndex := 599, descriptorIndex := 600, attributes := #[] }, { accessFlags := 24, nameIndex := 1125, descriptorIndex := 18, attributes := #[] }, { accessFlags := 24, nameIndex := 1127, descriptorIndex := 18, attributes := #[] }])
  fields := #[{ name := "value", type := (.array .byte), accessFlags := 18, slot := 0, constantValue := 0 }, { name := "coder", type := .byte, accessFlags := 18, slot := 1, constantValue := 0 }, { name := "hash", type := .int, accessFlags := 2, slot := 2, constantValue := 0 }, { name := "hashIsZero", type := .boolean, accessFlags := 2, slot := 3, constantValue := 0 }, { name := "serialVersionUID", type := .long, accessFlags := 26, slot := 0, constantValue := 0 }, { name := "COMPACT_STRINGS", type := .boolean, accessFlags := 24, slot := 1, constantValue := 0 }, { name := "serialPersistentFields", type := (.array (.object "java/io/ObjectStreamField")), accessFlags := 26, slot := 2, constantValue := 0 }, { name := "REPL", type := .char, accessFlags := 26, slot := 3, constantValue := 0 }, { name := "CASE_INSENSITIVE_ORDER", type := (.object "java/util/Comparator"), accessFlags := 25, slot := 4, constantValue := 0 }, { name := "LATIN1", type := .byte, accessFlags := 24, slot := 5, constantValue := 0 }, { name := "UTF16", type := .byte, accessFlags := 24, slot := 6, constantValue := 0 }]
  methods := #[k12m0, k12m1, k12m2, k12m3, k12m4, k12m5, k12m6, k12m7, k12m8, k12m9]
  instanceTypes := #[(.array .byte), .byte, .int, .boolean]
  staticTypes := #[.long, .boolean, (.array (.object "java/io/ObjectStreamField")), .char, (.object "java/util/Comparator"), .byte, .byte]
  resolved := Array.replicate 1451 none
  statics := some 1 }

def pool13 : Array CpInfo := pool [(2, .class_ 4), (1, u "java/lang/Object"), (0, u "<init>"), (0, u "()V"), (1, .class_ 10), (1, u "java/lang/System"), (0, u "allowSecurityManager"), (0, u "I"), (16, u "cons"), (0, u "Ljava/io/Console;"), (77, .class_ 110), (1, u "java/lang/System$CallersHolder"), (43, u "initialErrStream"), (0, u "Ljava/io/PrintStream;"), (19, u "security"), (0, u "Ljava/lang/SecurityManager;"), (31, .class_ 209), (0, u "java/lang/System$1"), (7, u "props"), (0, u "Ljava/util/Properties;"), (2, u "lineSeparator"), (0, u "Ljava/lang/String;"), (96, .class_ 321), (1, u "java/lang/System$LoggerFinder"), (5, .class_ 328), (0, u "java/lang/System$Logger"), (67, u "err"), (2, u "out"), (91, u "notSupportedJnuEncoding"), (15, u "in"), (17, u "initialIn"), (0, u "Ljava/io/InputStream;"), (35, u "bootLayer"), (0, u "Ljava/lang/ModuleLayer;"), (99, .class_ 664), (0, u "java/lang/System$2"), (9, u "NEVER"), (2, u "MAYBE"), (49, u "arraycopy"), (0, u "(Ljava/lang/Object;ILjava/lang/Object;II)V"), (72, .class_ 802), (0, u "java/lang/System$Logger$Level")] 31

def k13m0 : Method := { name := "<init>", desc := "()V", sig := { parameters := [], returnType := none }, accessFlags := 2, code := none }
def k13m1 : Method := { name := "arraycopy", desc := "(Ljava/lang/Object;ILjava/lang/Object;II)V", sig := { parameters := [(.object "java/lang/Object"), .int, (.object "java/lang/Object"), .int, .int], returnType := none }, accessFlags := 265, code := none }
/-- java/lang/System -/
def k13 : Class := { plain "java/lang/System" (some 0) with
  accessFlags := 49
  interfaces := #[]
  cf := some (fileOf pool13 8 #[.nestMembers #[319, 327, 801, 108, 663, 208]] #[{ accessFlags := 2, nameIndex := 5, descriptorIndex := 6, attributes := #[] }, { accessFlags := 265, nameIndex := 727, descriptorIndex := 728, attributes := #[] }] 49 2 #[] #[{ accessFlags := 25, nameIndex := 507, descriptorIndex := 526, attributes := #[] }, { accessFlags := 25, nameIndex := 399, descriptorIndex := 155, attributes := #[] }, { accessFlags := 25, nameIndex := 396, descriptorIndex := 155, attributes := #[] }, { accessFlags := 10, nameIndex := 525, descriptorIndex := 526, attributes := #[] }, { accessFlags := 26, nameIndex := 674, descriptorIndex := 12, attributes := #[] }, { accessFlags := 26, nameIndex := 677, descriptorIndex := 12, attributes := #[] }, { accessFlags := 10, nameIndex := 11, descriptorIndex := 12, attributes := #[] }, { accessFlags := 74, nameIndex := 175, descriptorIndex := 176, attributes := #[] }, { accessFlags := 10, nameIndex := 491, descriptorIndex := 222, attributes := #[] }, { accessFlags := 74, nameIndex := 29, descriptorIndex := 30, attributes := #[] }, { accessFlags := 74, nameIndex := 154, descriptorIndex := 155, attributes := #[] }, { accessFlags := 10, nameIndex := 217, descriptorIndex := 218, attributes := #[] }, { accessFlags := 10, nameIndex := 221, descriptorIndex := 222, attributes := #[] }, { accessFlags := 8, nameIndex := 562, descriptorIndex := 563, attributes := #[] }])
  fields := #[{ name := "in", type := (.object "java/io/InputStream"), accessFlags := 25, slot := 0, constantValue := 0 }, { name := "out", type := (.object "java/io/PrintStream"), accessFlags := 25, slot := 1, constantValue := 0 }, { name := "err", type := (.object "java/io/PrintStream"), accessFlags := 25, slot := 2, constantValue := 0 }, { name := "initialIn", type := (.object "java/io/InputStream"), accessFlags := 10, slot := 3, constantValue := 0 }, { name := "NEVER", type := .int, accessFlags := 26, slot := 4, constantValue := 0 }, { name := "MAYBE", type := .int, accessFlags := 26, slot := 5, constantValue := 0 }, { name := "allowSecurityManager", type := .int, accessFlags := 10, slot := 6, constantValue := 0 }, { name := "security", type := (.object "java/lang/SecurityManager"), accessFlags := 74, slot := 7, constantValue := 0 }, { name := "notSupportedJnuEncoding", type := (.object "java/lang/String"), accessFlags := 10, slot := 8, constantValue := 0 }, { name := "cons", type := (.object "java/io/Console"), accessFlags := 74, slot := 9, constantValue := 0 }, { name := "initialErrStream", type := (.object "java/io/PrintStream"), accessFlags := 74, slot := 10, constantValue := 0 }, { name := "props", type := (.object "java/util/Properties"), accessFlags := 10, slot := 11, constantValue := 0 }, { name := "lineSeparator", type := (.object "java/lang/String"), accessFlags := 10, slot := 12, constantValue := 0 }, { name := "bootLayer", type := (.object "java/lang/ModuleLayer"), accessFlags := 8, slot := 13, constantValue := 0 }]
  methods := #[k13m0, k13m1]
  instanceTypes := #[]
  staticTypes := #[(.object "java/io/InputStream"), (.object "java/io/PrintStream"), (.object "java/io/PrintStream"), (.object "java/io/InputStream"), .int, .int, .int, (.object "java/lang/SecurityManager"), (.object "java/lang/String"), (.object "java/io/Console"), (.object "java/io/PrintStream"), (.object "java/util/Properties"), (.object "java/lang/String"), (.object "java/lang/ModuleLayer")]
  resolved := Array.replicate 834 none
  statics := none }

def pool14 : Array CpInfo := pool [(2, .class_ 4), (1, u "java/lang/Object"), (0, u "<init>"), (0, u "()V"), (7, .class_ 16), (1, u "java/util/Arrays"), (57, .class_ 76), (1, u "java/util/Arrays$NaturalOrder"), (32, u "()Ljava/lang/Object;"), (3, .class_ 115), (1, u "java/util/Arrays$LegacyMergeSort"), (1, u "Z"), (10, .nameAndType 129 109), (0, u "clone"), (9, u "copyOfRange"), (10, .methodref 151 152), (0, .class_ 153), (0, .nameAndType 154 155), (0, u "java/lang/System"), (0, u "arraycopy"), (0, u "(Ljava/lang/Object;ILjava/lang/Object;II)V"), (148, .methodref 305 306), (0, .class_ 307), (0, .nameAndType 308 309), (0, u "java/lang/Math"), (0, u "min"), (0, u "(II)I"), (0, .methodref 311 128), (0, .class_ 312), (0, u "[B"), (26, .methodref 14 340), (0, .nameAndType 341 342), (0, u "copyOfRangeByte"), (0, u "([BII)[B"), (0, .methodref 14 344), (0, .nameAndType 345 346), (0, u "checkLength"), (0, u "(II)V"), (28, .class_ 376), (0, u "java/util/Arrays$ArrayList"), (68, u "$assertionsDisabled"), (269, u "MIN_ARRAY_SORT_GRAN"), (0, u "I"), (2, u "INSERTIONSORT_THRESHOLD"), (255, .class_ 976), (0, u "java/util/Arrays$ArrayItr")] 52

def k14m0 : Method := { name := "<init>", desc := "()V", sig := { parameters := [], returnType := none }, accessFlags := 2, code := none }
def k14c1 : Code := { maxStack := 4, maxLocals := 2, code := jdk_65_method_131_code, exceptionTable := #[], attributes := #[] }
def k14m1 : Method := { name := "checkLength", desc := "(II)V", sig := { parameters := [.int, .int], returnType := none }, accessFlags := 10, code := some k14c1 }
def k14c2 : Code := { maxStack := 3, maxLocals := 3, code := jdk_65_method_132_code, exceptionTable := #[], attributes := #[] }
def k14m2 : Method := { name := "copyOfRange", desc := "([BII)[B", sig := { parameters := [(.array .byte), .int, .int], returnType := some (.array .byte) }, accessFlags := 9, code := some k14c2 }
def k14c3 : Code := { maxStack := 6, maxLocals := 5, code := jdk_65_method_133_code, exceptionTable := #[], attributes := #[] }
def k14m3 : Method := { name := "copyOfRangeByte", desc := "([BII)[B", sig := { parameters := [(.array .byte), .int, .int], returnType := some (.array .byte) }, accessFlags := 10, code := some k14c3 }
/-- java/util/Arrays -/
def k14 : Class := { plain "java/util/Arrays" (some 0) with
  accessFlags := 49
  interfaces := #[]
  cf := some (fileOf pool14 14 #[.nestMembers #[975, 375, 113, 74]] #[{ accessFlags := 2, nameIndex := 5, descriptorIndex := 6, attributes := #[] }, { accessFlags := 10, nameIndex := 345, descriptorIndex := 346, attributes := #[] }, { accessFlags := 9, nameIndex := 139, descriptorIndex := 342, attributes := #[] }, { accessFlags := 10, nameIndex := 341, descriptorIndex := 342, attributes := #[] }] 49 2 #[] #[{ accessFlags := 26, nameIndex := 715, descriptorIndex := 716, attributes := #[] }, { accessFlags := 26, nameIndex := 719, descriptorIndex := 716, attributes := #[] }, { accessFlags := 4120, nameIndex := 445, descriptorIndex := 117, attributes := #[] }])
  fields := #[{ name := "MIN_ARRAY_SORT_GRAN", type := .int, accessFlags := 26, slot := 0, constantValue := 0 }, { name := "INSERTIONSORT_THRESHOLD", type := .int, accessFlags := 26, slot := 1, constantValue := 0 }, { name := "$assertionsDisabled", type := .boolean, accessFlags := 4120, slot := 2, constantValue := 0 }]
  methods := #[k14m0, k14m1, k14m2, k14m3]
  instanceTypes := #[]
  staticTypes := #[.int, .int, .boolean]
  resolved := Array.replicate 1029 none
  statics := none }

def pool15 : Array CpInfo := pool [(1, .class_ 2), (0, u "java/lang/Cloneable"), (0, .class_ 4), (0, u "java/lang/Object")] 2

/-- java/lang/Cloneable -/
def k15 : Class := { plain "java/lang/Cloneable" (some 0) with
  accessFlags := 1537
  interfaces := #[]
  cf := some (fileOf pool15 1 #[] #[] 1537 3 #[] #[])
  fields := #[]
  methods := #[]
  instanceTypes := #[]
  staticTypes := #[]
  resolved := Array.replicate 7 none
  statics := none }

def pool16 : Array CpInfo := pool [(1, .class_ 2), (0, u "java/lang/String"), (1, .class_ 6), (1, u "java/lang/Object"), (0, u "<init>"), (0, u "()V"), (0, .methodref 1 10), (0, .nameAndType 11 12), (0, u "checkIndex"), (0, u "(II)V"), (1, .class_ 16), (1, u "java/lang/StringLatin1"), (36, u "([BI)C"), (67, u "$assertionsDisabled"), (0, u "Z"), (98, .class_ 223), (1, u "java/lang/StringLatin1$LinesSpliterator"), (28, u "charAt"), (28, u "equals"), (0, u "([B[B)Z"), (107, .class_ 391), (0, u "java/lang/StringLatin1$CharsSpliterator")] 3

def k16m0 : Method := { name := "<init>", desc := "()V", sig := { parameters := [], returnType := none }, accessFlags := 0, code := none }
def k16c1 : Code := { maxStack := 2, maxLocals := 2, code := jdk_43_method_2_code, exceptionTable := #[], attributes := #[] }
def k16m1 : Method := { name := "charAt", desc := "([BI)C", sig := { parameters := [(.array .byte), .int], returnType := some .char }, accessFlags := 9, code := some k16c1 }
def k16c2 : Code := { maxStack := 3, maxLocals := 3, code := jdk_43_method_13_code, exceptionTable := #[], attributes := #[] }
def k16m2 : Method := { name := "equals", desc := "([B[B)Z", sig := { parameters := [(.array .byte), (.array .byte)], returnType := some .boolean }, accessFlags := 9, code := some k16c2 }
/-- java/lang/StringLatin1 -/
def k16 : Class := { plain "java/lang/StringLatin1" (some 0) with
  accessFlags := 48
  interfaces := #[]
  cf := some (fileOf pool16 14 #[.nestMembers #[390, 221]] #[{ accessFlags := 0, nameIndex := 7, descriptorIndex := 8, attributes := #[] }, { accessFlags := 9, nameIndex := 252, descriptorIndex := 53, attributes := #[] }, { accessFlags := 9, nameIndex := 281, descriptorIndex := 282, attributes := #[] }] 48 4 #[] #[{ accessFlags := 4120, nameIndex := 121, descriptorIndex := 122, attributes := #[] }])
  fields := #[{ name := "$assertionsDisabled", type := .boolean, accessFlags := 4120, slot := 0, constantValue := 0 }]
  methods := #[k16m0, k16m1, k16m2]
  instanceTypes := #[]
  staticTypes := #[.boolean]
  resolved := Array.replicate 395 none
  statics := none }

def pool17 : Array CpInfo := pool [(2, .class_ 4), (1, u "java/lang/Object"), (0, u "<init>"), (0, u "()V"), (17, .class_ 26), (1, u "jdk/internal/util/Preconditions"), (6, u "checkIndex"), (21, .class_ 56), (0, u "jdk/internal/util/Preconditions$4"), (57, .class_ 115), (0, u "jdk/internal/util/Preconditions$1"), (7, u "SIOOBE_FORMATTER"), (0, u "Ljava/util/function/BiFunction;"), (0, .class_ 126), (0, u "jdk/internal/util/Preconditions$2"), (3, u "AIOOBE_FORMATTER"), (0, .class_ 132), (0, u "jdk/internal/util/Preconditions$3"), (3, u "IOOBE_FORMATTER"), (41, u "(IILjava/util/function/BiFunction;)I")] 15

def k17m0 : Method := { name := "<init>", desc := "()V", sig := { parameters := [], returnType := none }, accessFlags := 1, code := none }
def k17c1 : Code := { maxStack := 3, maxLocals := 3, code := jdk_41_method_11_code, exceptionTable := #[], attributes := #[] }
def k17m1 : Method := { name := "checkIndex", desc := "(IILjava/util/function/BiFunction;)I", sig := { parameters := [.int, .int, (.object "java/util/function/BiFunction")], returnType := some .int }, accessFlags := 9, code := some k17c1 }
/-- jdk/internal/util/Preconditions -/
def k17 : Class := { plain "jdk/internal/util/Preconditions" (some 0) with
  accessFlags := 33
  interfaces := #[]
  cf := some (fileOf pool17 24 #[.nestMembers #[55, 131, 125, 114]] #[{ accessFlags := 1, nameIndex := 5, descriptorIndex := 6, attributes := #[] }, { accessFlags := 9, nameIndex := 33, descriptorIndex := 178, attributes := #[] }] 33 2 #[] #[{ accessFlags := 25, nameIndex := 123, descriptorIndex := 124, attributes := #[] }, { accessFlags := 25, nameIndex := 130, descriptorIndex := 124, attributes := #[] }, { accessFlags := 25, nameIndex := 136, descriptorIndex := 124, attributes := #[] }])
  fields := #[{ name := "SIOOBE_FORMATTER", type := (.object "java/util/function/BiFunction"), accessFlags := 25, slot := 0, constantValue := 0 }, { name := "AIOOBE_FORMATTER", type := (.object "java/util/function/BiFunction"), accessFlags := 25, slot := 1, constantValue := 0 }, { name := "IOOBE_FORMATTER", type := (.object "java/util/function/BiFunction"), accessFlags := 25, slot := 2, constantValue := 0 }]
  methods := #[k17m0, k17m1]
  instanceTypes := #[]
  staticTypes := #[(.object "java/util/function/BiFunction"), (.object "java/util/function/BiFunction"), (.object "java/util/function/BiFunction")]
  resolved := Array.replicate 194 none
  statics := some 2 }

def pool18 : Array CpInfo := pool [(1, .class_ 2), (0, u "java/lang/Math"), (1, .class_ 6), (1, u "java/lang/Object"), (0, u "<init>"), (0, u "()V"), (89, .class_ 100), (1, u "java/lang/Math$RandomNumberGeneratorHolder"), (71, u "negativeZeroFloatBits"), (0, u "J"), (2, u "negativeZeroDoubleBits"), (24, u "min"), (43, u "$assertionsDisabled"), (0, u "Z"), (88, u "(II)I"), (2, u "twoToTheDoubleScaleDown"), (0, u "D"), (4, u "twoToTheDoubleScaleUp"), (9, u "E"), (3, u "PI"), (2, u "TAU"), (2, u "DEGREES_TO_RADIANS"), (0, u "RADIANS_TO_DEGREES")] 94

def k18m0 : Method := { name := "<init>", desc := "()V", sig := { parameters := [], returnType := none }, accessFlags := 2, code := none }
def k18c1 : Code := { maxStack := 2, maxLocals := 2, code := jdk_29_method_69_code, exceptionTable := #[], attributes := #[] }
def k18m1 : Method := { name := "min", desc := "(II)I", sig := { parameters := [.int, .int], returnType := some .int }, accessFlags := 9, code := some k18c1 }
/-- java/lang/Math -/
def k18 : Class := { plain "java/lang/Math" (some 0) with
  accessFlags := 49
  interfaces := #[]
  cf := some (fileOf pool18 1 #[.nestMembers #[98]] #[{ accessFlags := 2, nameIndex := 7, descriptorIndex := 8, attributes := #[] }, { accessFlags := 9, nameIndex := 201, descriptorIndex := 335, attributes := #[] }] 49 4 #[] #[{ accessFlags := 25, nameIndex := 354, descriptorIndex := 339, attributes := #[] }, { accessFlags := 25, nameIndex := 358, descriptorIndex := 339, attributes := #[] }, { accessFlags := 25, nameIndex := 361, descriptorIndex := 339, attributes := #[] }, { accessFlags := 26, nameIndex := 364, descriptorIndex := 339, attributes := #[] }, { accessFlags := 26, nameIndex := 365, descriptorIndex := 339, attributes := #[] }, { accessFlags := 26, nameIndex := 172, descriptorIndex := 173, attributes := #[] }, { accessFlags := 26, nameIndex := 176, descriptorIndex := 173, attributes := #[] }, { accessFlags := 8, nameIndex := 344, descriptorIndex := 339, attributes := #[] }, { accessFlags := 8, nameIndex := 338, descriptorIndex := 339, attributes := #[] }, { accessFlags := 4120, nameIndex := 245, descriptorIndex := 246, attributes := #[] }])
  fields := #[{ name := "E", type := .double, accessFlags := 25, slot := 0, constantValue := 0 }, { name := "PI", type := .double, accessFlags := 25, slot := 1, constantValue := 0 }, { name := "TAU", type := .double, accessFlags := 25, slot := 2, constantValue := 0 }, { name := "DEGREES_TO_RADIANS", type := .double, accessFlags := 26, slot := 3, constantValue := 0 }, { name := "RADIANS_TO_DEGREES", type := .double, accessFlags := 26, slot := 4, constantValue := 0 }, { name := "negativeZeroFloatBits", type := .long, accessFlags := 26, slot := 5, constantValue := 0 }, { name := "negativeZeroDoubleBits", type := .long, accessFlags := 26, slot := 6, constantValue := 0 }, { name := "twoToTheDoubleScaleUp", type := .double, accessFlags := 8, slot := 7, constantValue := 0 }, { name := "twoToTheDoubleScaleDown", type := .double, accessFlags := 8, slot := 8, constantValue := 0 }, { name := "$assertionsDisabled", type := .boolean, accessFlags := 4120, slot := 9, constantValue := 0 }]
  methods := #[k18m0, k18m1]
  instanceTypes := #[]
  staticTypes := #[.double, .double, .double, .double, .double, .long, .long, .double, .double, .boolean]
  resolved := Array.replicate 460 none
  statics := none }

def pool19 : Array CpInfo := pool [(9, u "<init>"), (6, .class_ 18), (1, u "java/lang/Object"), (0, u "()V"), (1, .class_ 23), (1, u "jdk/internal/util/ArraysSupport"), (0, u "LOG2_ARRAY_LONG_INDEX_SCALE"), (0, u "I"), (2, u "U"), (0, u "Ljdk/internal/misc/Unsafe;"), (8, u "BIG_ENDIAN"), (0, u "Z"), (8, u "LOG2_BYTE_BIT_SIZE"), (4, u "LOG2_ARRAY_INT_INDEX_SCALE"), (54, u "JLA"), (0, u "Ljdk/internal/access/JavaLangAccess;"), (11, u "LOG2_ARRAY_BOOLEAN_INDEX_SCALE"), (9, u "LOG2_ARRAY_BYTE_INDEX_SCALE"), (5, u "LOG2_ARRAY_CHAR_INDEX_SCALE"), (5, u "LOG2_ARRAY_SHORT_INDEX_SCALE"), (18, u "LOG2_ARRAY_FLOAT_INDEX_SCALE"), (24, u "LOG2_ARRAY_DOUBLE_INDEX_SCALE"), (89, u "T_BOOLEAN"), (2, u "T_CHAR"), (1, u "T_FLOAT"), (1, u "T_DOUBLE"), (1, u "T_BYTE"), (1, u "T_SHORT"), (1, u "T_INT"), (1, u "T_LONG"), (1, u "SOFT_MAX_ARRAY_LENGTH")] 83

def k19m0 : Method := { name := "<init>", desc := "()V", sig := { parameters := [], returnType := none }, accessFlags := 2, code := none }
/-- jdk/internal/util/ArraysSupport -/
def k19 : Class := { plain "jdk/internal/util/ArraysSupport" (some 0) with
  accessFlags := 33
  interfaces := #[]
  cf := some (fileOf pool19 21 #[] #[{ accessFlags := 2, nameIndex := 9, descriptorIndex := 19, attributes := #[] }] 33 16 #[] #[{ accessFlags := 24, nameIndex := 28, descriptorIndex := 29, attributes := #[] }, { accessFlags := 26, nameIndex := 38, descriptorIndex := 39, attributes := #[] }, { accessFlags := 25, nameIndex := 121, descriptorIndex := 25, attributes := #[] }, { accessFlags := 25, nameIndex := 131, descriptorIndex := 25, attributes := #[] }, { accessFlags := 25, nameIndex := 137, descriptorIndex := 25, attributes := #[] }, { accessFlags := 25, nameIndex := 143, descriptorIndex := 25, attributes := #[] }, { accessFlags := 25, nameIndex := 53, descriptorIndex := 25, attributes := #[] }, { accessFlags := 25, nameIndex := 24, descriptorIndex := 25, attributes := #[] }, { accessFlags := 25, nameIndex := 162, descriptorIndex := 25, attributes := #[] }, { accessFlags := 25, nameIndex := 187, descriptorIndex := 25, attributes := #[] }, { accessFlags := 26, nameIndex := 48, descriptorIndex := 25, attributes := #[] }, { accessFlags := 25, nameIndex := 277, descriptorIndex := 25, attributes := #[] }, { accessFlags := 25, nameIndex := 280, descriptorIndex := 25, attributes := #[] }, { accessFlags := 25, nameIndex := 282, descriptorIndex := 25, attributes := #[] }, { accessFlags := 25, nameIndex := 284, descriptorIndex := 25, attributes := #[] }, { accessFlags := 25, nameIndex := 286, descriptorIndex := 25, attributes := #[] }, { accessFlags := 25, nameIndex := 288, descriptorIndex := 25, attributes := #[] }, { accessFlags := 25, nameIndex := 290, descriptorIndex := 25, attributes := #[] }, { accessFlags := 25, nameIndex := 292, descriptorIndex := 25, attributes := #[] }, { accessFlags := 26, nameIndex := 108, descriptorIndex := 109, attributes := #[] }, { accessFlags := 25, nameIndex := 294, descriptorIndex := 25, attributes := #[] }])
  fields := #[{ name := "U", type := (.object "jdk/internal/misc/Unsafe"), accessFlags := 24, slot := 0, constantValue := 0 }, { name := "BIG_ENDIAN", type := .boolean, accessFlags := 26, slot := 1, constantValue := 0 }, { name := "LOG2_ARRAY_BOOLEAN_INDEX_SCALE", type := .int, accessFlags := 25, slot := 2, constantValue := 0 }, { name := "LOG2_ARRAY_BYTE_INDEX_SCALE", type := .int, accessFlags := 25, slot := 3, constantValue := 0 }, { name := "LOG2_ARRAY_CHAR_INDEX_SCALE", type := .int, accessFlags := 25, slot := 4, constantValue := 0 }, { name := "LOG2_ARRAY_SHORT_INDEX_SCALE", type := .int, accessFlags := 25, slot := 5, constantValue := 0 }, { name := "LOG2_ARRAY_INT_INDEX_SCALE", type := .int, accessFlags := 25, slot := 6, constantValue := 0 }, { name := "LOG2_ARRAY_LONG_INDEX_SCALE", type := .int, accessFlags := 25, slot := 7, constantValue := 0 }, { name := "LOG2_ARRAY_FLOAT_INDEX_SCALE", type := .int, accessFlags := 25, slot := 8, constantValue := 0 }, { name := "LOG2_ARRAY_DOUBLE_INDEX_SCALE", type := .int, accessFlags := 25, slot := 9, constantValue := 0 }, { name := "LOG2_BYTE_BIT_SIZE", type := .int, accessFlags := 26, slot := 10, constantValue := 0 }, { name := "T_BOOLEAN", type := .int, accessFlags := 25, slot := 11, constantValue := 0 }, { name := "T_CHAR", type := .int, accessFlags := 25, slot := 12, constantValue := 0 }, { name := "T_FLOAT", type := .int, accessFlags := 25, slot := 13, constantValue := 0 }, { name := "T_DOUBLE", type := .int, accessFlags := 25, slot := 14, constantValue := 0 }, { name := "T_BYTE", type := .int, accessFlags := 25, slot := 15, constantValue := 0 }, { name := "T_SHORT", type := .int, accessFlags := 25, slot := 16, constantValue := 0 }, { name := "T_INT", type := .int, accessFlags := 25, slot := 17, constantValue := 0 }, { name := "T_LONG", type := .int, accessFlags := 25, slot := 18, constantValue := 0 }, { name := "JLA", type := (.object "jdk/internal/access/JavaLangAccess"), accessFlags := 26, slot := 19, constantValue := 0 }, { name := "SOFT_MAX_ARRAY_LENGTH", type := .int, accessFlags := 25, slot := 20, constantValue := 0 }]
  methods := #[k19m0]
  instanceTypes := #[]
  staticTypes := #[(.object "jdk/internal/misc/Unsafe"), .boolean, .int, .int, .int, .int, .int, .int, .int, .int, .int, .int, .int, .int, .int, .int, .int, .int, .int, (.object "jdk/internal/access/JavaLangAccess"), .int]
  resolved := Array.replicate 378 none
  statics := none }

/-- the primitive byte -/
def k20 : Class := { plain "byte" none with kind := .primitive 'B', accessFlags := 0x411 }
/-- [B -/
def k21 : Class := { plain "[B" (some 0) with kind := .array 20 .byte, interfaces := #[15, 4], accessFlags := 1041 }

/-- the primitive int -/
def k22 : Class := { plain "int" none with kind := .primitive 'I', accessFlags := 0x411 }
/-- [I -/
def k23 : Class := { plain "[I" (some 0) with kind := .array 22 .int, interfaces := #[15, 4], accessFlags := 1041 }

def heap : Heap := #[{ cls := 6, slots := #[.ref 3, .ref 4, .null], vm := .statics 6 },
  { cls := 12, slots := #[.long 0, .int 1, .null, .int 0, .null, .int 0, .int 0], vm := .statics 12 },
  { cls := 17, slots := #[.null, .null, .null], vm := .statics 17 },
  { cls := 6, slots := #[.null, .int 0, .int 0, .ref 5, .ref 7], vm := .none },
  { cls := 6, slots := #[.null, .int 1, .int 0, .ref 9, .ref 11], vm := .none },
  { cls := 12, slots := #[.ref 6, .int 0, .int 0, .int 0], vm := .none },
  { cls := 21, slots := #[.int 45, .int 45, .int 117, .int 114, .int 108], vm := .none },
  { cls := 12, slots := #[.ref 8, .int 0, .int 0, .int 0], vm := .none },
  { cls := 21, slots := #[.int 60, .int 74, .int 68, .int 66, .int 67, .int 32, .int 85, .int 82, .int 76, .int 62], vm := .none },
  { cls := 12, slots := #[.ref 10, .int 0, .int 0, .int 0], vm := .none },
  { cls := 21, slots := #[.int 45, .int 45, .int 113, .int 117, .int 101, .int 117, .int 101], vm := .none },
  { cls := 12, slots := #[.ref 12, .int 0, .int 0, .int 0], vm := .none },
  { cls := 21, slots := #[.int 60, .int 110, .int 97, .int 109, .int 101, .int 62], vm := .none }]
def classes : Array Class := #[k0, k1, k2, k3, k4, k5, k6, k7, k8, k9, k10, k11, k12, k13, k14, k15, k16, k17, k18, k19, k20, k21, k22, k23]
def interned : List (Array UInt16 × Addr) := []
def slotsUsed : Nat := 67
def theMethod : MethodId := ⟨1, 1⟩
def args0 : Array Value := #[.int 5]
def aboutOver (below : List Frame) : State where
  vm := { classes := classes, interned := interned.toArray }
  heap := heap
  slotsUsed := slotsUsed
  threads := #[{ frames := .invoking theMethod args0 :: below }]
def below0 : List Frame := [.native { method := ⟨0, 0⟩, args := #[] }]
def about1 : State := aboutOver below0
def p0 : Program := .bare "" "" ""
def e0 : Env := launch0.env 0 0 0
theorem w_frames : about1.frames = Frame.invoking theMethod args0 :: below0 := rfl
set_option maxRecDepth 65536 in
theorem w_args : argsFit about1.vm theMethod args0 = true := by decide +kernel
set_option maxRecDepth 65536 in
theorem w_heap : heapFits about1 = true := by decide +kernel
set_option maxRecDepth 65536 in
theorem w_runnable : about1.curStatus? = some .runnable := by decide +kernel
set_option maxRecDepth 65536 in
theorem w_alone : about1.alone = true := by decide +kernel
set_option maxRecDepth 65536 in
theorem w_named : about1.methodNamed? x = some theMethod := by decide +kernel
set_option maxRecDepth 65536 in
theorem w_hears : about1.hears theMethod below0 = true := by decide +kernel
set_option maxRecDepth 65536 in
theorem w_ripe : about1.ripe theMethod args0 below0 = true := by decide +kernel
theorem w_running : about1.status = .running := rfl
set_option maxRecDepth 65536 in
theorem w_room : about1.hasRoom e0.platform room_1 = true :=
  launch0.hasRoom_least _ room_1 (by decide +kernel) (by decide +kernel) (by decide +kernel) (by decide +kernel) (by decide +kernel) (by decide +kernel)
theorem allAtoms_all (ts : List Jvm.Cond) (a : Array Jvm.Value) (st : Jvm.State) : (allAtoms ts).before a st = ts.all (fun c => c.before a st) := by
  induction ts with
  | nil => rfl
  | cons c t ih =>
    show (Jvm.Cond.and c (allAtoms t)).before a st = _
    rw [Jvm.Cond.before_and, ih, List.all_cons]
def words1 : List Jvm.Cond := Jvm.Cond.code x code maxLocals ret :: tables_1
/-- a 'code' word, met by the world's own term for the bytes: nothing is compared byte by byte -/
theorem code_word {y : MethodName} {bytes : ByteArray} {mx : Nat} {rt : Option FieldType} {a : Array Value} {s : State} {m : MethodId} {meth : Method} {c : Code} (h1 : s.methodNamed? y = some m) (h2 : s.vm.method? m = some meth) (h3 : meth.code = some c) (h4 : c.code = bytes)
    (h5 : (c.maxLocals == mx && c.exceptionTable.isEmpty && decide (c.maxStack ≤ mostOperands) && decide (meth.sig.returnType = rt) && !meth.locks && decide (parseMethodDescriptor y.desc = some meth.sig)) = true) : (Jvm.Cond.code y bytes mx rt).before a s = true := by
  simp only [Bool.and_eq_true, beq_iff_eq, Bool.not_eq_true', decide_eq_true_eq] at h5
  obtain ⟨⟨⟨⟨⟨g1, g2⟩, g3⟩, g4⟩, g5⟩, g6⟩ := h5
  simp [Cond.before, Cond.holds, Cond.value, h1, h2, h3, h4, g1, g2, g3, g4, g5, g6]
def isCode : Jvm.Cond → Bool
  | .code _ _ _ _ => true
  | _ => false
theorem all_split {L : List Jvm.Cond} {P : Jvm.Cond → Bool} (h1 : L.all (fun c => isCode c || P c) = true) (h2 : ∀ c ∈ L.filter isCode, P c = true) : L.all P = true := by
  refine List.all_eq_true.mpr fun c hc => ?_
  have h := List.all_eq_true.mp h1 c hc
  rcases Bool.eq_false_or_eq_true (isCode c) with hi | hi
  · exact h2 c (List.mem_filter.mpr ⟨hc, hi⟩)
  · simpa [hi] using h
set_option maxRecDepth 65536 in
theorem w_c0 : (Jvm.Cond.code x code maxLocals ret).before args0 about1 = true := code_word (m := ⟨1, 1⟩) (meth := k1m1) (c := k1c1) (by decide +kernel) rfl rfl rfl (by decide +kernel)
set_option maxRecDepth 65536 in
theorem w_c1 : (Jvm.Cond.code ({ cls := "com/example/durable_dispatch/durabledispatch/cli/Option", name := "synopsis", desc := "()Ljava/lang/String;" } : Jvm.MethodName) prog_1_method_6_code (1 : Nat) (Option.some (Jvm.ClassFile.FieldType.object "java/lang/String"))).before args0 about1 = true := code_word (m := ⟨6, 1⟩) (meth := k6m1) (c := k6c1) (by decide +kernel) rfl rfl rfl (by decide +kernel)
set_option maxRecDepth 65536 in
theorem w_c2 : (Jvm.Cond.code ({ cls := "java/lang/StringBuilder", name := "<init>", desc := "()V" } : Jvm.MethodName) jdk_67_method_1_code (1 : Nat) (Option.none : Option Jvm.ClassFile.FieldType)).before args0 about1 = true := code_word (m := ⟨10, 0⟩) (meth := k10m0) (c := k10c0) (by decide +kernel) rfl rfl rfl (by decide +kernel)
set_option maxRecDepth 65536 in
theorem w_c3 : (Jvm.Cond.code ({ cls := "java/lang/AbstractStringBuilder", name := "<init>", desc := "(I)V" } : Jvm.MethodName) jdk_68_method_2_code (2 : Nat) (Option.none : Option Jvm.ClassFile.FieldType)).before args0 about1 = true := code_word (m := ⟨9, 1⟩) (meth := k9m1) (c := k9c1) (by decide +kernel) rfl rfl rfl (by decide +kernel)
set_option maxRecDepth 65536 in
theorem w_c4 : (Jvm.Cond.code ({ cls := "java/lang/Object", name := "<init>", desc := "()V" } : Jvm.MethodName) object_method_1_code (1 : Nat) (Option.none : Option Jvm.ClassFile.FieldType)).before args0 about1 = true := code_word (m := ⟨0, 0⟩) (meth := k0m0) (c := k0c0) (by decide +kernel) rfl rfl rfl (by decide +kernel)
set_option maxRecDepth 65536 in
theorem w_c5 : (Jvm.Cond.code ({ cls := "java/lang/StringBuilder", name := "append", desc := "(Ljava/lang/String;)Ljava/lang/StringBuilder;" } : Jvm.MethodName) jdk_67_method_7_code (2 : Nat) (Option.some (Jvm.ClassFile.FieldType.object "java/lang/StringBuilder"))).before args0 about1 = true := code_word (m := ⟨10, 1⟩) (meth := k10m1) (c := k10c1) (by decide +kernel) rfl rfl rfl (by decide +kernel)
set_option maxRecDepth 65536 in
theorem w_c6 : (Jvm.Cond.code ({ cls := "java/lang/AbstractStringBuilder", name := "append", desc := "(Ljava/lang/String;)Ljava/lang/AbstractStringBuilder;" } : Jvm.MethodName) jdk_68_method_22_code (3 : Nat) (Option.some (Jvm.ClassFile.FieldType.object "java/lang/AbstractStringBuilder"))).before args0 about1 = true := code_word (m := ⟨9, 4⟩) (meth := k9m4) (c := k9c4) (by decide +kernel) rfl rfl rfl (by decide +kernel)
set_option maxRecDepth 65536 in
theorem w_c7 : (Jvm.Cond.code ({ cls := "java/lang/String", name := "length", desc := "()I" } : Jvm.MethodName) jdk_42_method_54_code (1 : Nat) (Option.some Jvm.ClassFile.FieldType.int)).before args0 about1 = true := code_word (m := ⟨12, 2⟩) (meth := k12m2) (c := k12c2) (by decide +kernel) rfl rfl rfl (by decide +kernel)
set_option maxRecDepth 65536 in
theorem w_c8 : (Jvm.Cond.code ({ cls := "java/lang/String", name := "coder", desc := "()B" } : Jvm.MethodName) jdk_42_method_152_code (1 : Nat) (Option.some Jvm.ClassFile.FieldType.byte)).before args0 about1 = true := code_word (m := ⟨12, 7⟩) (meth := k12m7) (c := k12c7) (by decide +kernel) rfl rfl rfl (by decide +kernel)
set_option maxRecDepth 65536 in
theorem w_c9 : (Jvm.Cond.code ({ cls := "java/lang/AbstractStringBuilder", name := "ensureCapacityInternal", desc := "(I)V" } : Jvm.MethodName) jdk_68_method_9_code (3 : Nat) (Option.none : Option Jvm.ClassFile.FieldType)).before args0 about1 = true := code_word (m := ⟨9, 3⟩) (meth := k9m3) (c := k9c3) (by decide +kernel) rfl rfl rfl (by decide +kernel)
set_option maxRecDepth 65536 in
theorem w_c10 : (Jvm.Cond.code ({ cls := "java/lang/AbstractStringBuilder", name := "putStringAt", desc := "(ILjava/lang/String;)V" } : Jvm.MethodName) jdk_68_method_73_code (3 : Nat) (Option.none : Option Jvm.ClassFile.FieldType)).before args0 about1 = true := code_word (m := ⟨9, 8⟩) (meth := k9m8) (c := k9c8) (by decide +kernel) rfl rfl rfl (by decide +kernel)
set_option maxRecDepth 65536 in
theorem w_c11 : (Jvm.Cond.code ({ cls := "java/lang/AbstractStringBuilder", name := "inflateIfNeededFor", desc := "(Ljava/lang/String;)V" } : Jvm.MethodName) jdk_68_method_71_code (2 : Nat) (Option.none : Option Jvm.ClassFile.FieldType)).before args0 about1 = true := code_word (m := ⟨9, 7⟩) (meth := k9m7) (c := k9c7) (by decide +kernel) rfl rfl rfl (by decide +kernel)
set_option maxRecDepth 65536 in
theorem w_c12 : (Jvm.Cond.code ({ cls := "java/lang/String", name := "getBytes", desc := "([BIB)V" } : Jvm.MethodName) jdk_42_method_147_code (4 : Nat) (Option.none : Option Jvm.ClassFile.FieldType)).before args0 about1 = true := code_word (m := ⟨12, 5⟩) (meth := k12m5) (c := k12c5) (by decide +kernel) rfl rfl rfl (by decide +kernel)
set_option maxRecDepth 65536 in
theorem w_c13 : (Jvm.Cond.code ({ cls := "java/lang/StringBuilder", name := "toString", desc := "()Ljava/lang/String;" } : Jvm.MethodName) jdk_67_method_42_code (1 : Nat) (Option.some (Jvm.ClassFile.FieldType.object "java/lang/String"))).before args0 about1 = true := code_word (m := ⟨10, 2⟩) (meth := k10m2) (c := k10c2) (by decide +kernel) rfl rfl rfl (by decide +kernel)
set_option maxRecDepth 65536 in
theorem w_c14 : (Jvm.Cond.code ({ cls := "java/lang/String", name := "<init>", desc := "(Ljava/lang/StringBuilder;)V" } : Jvm.MethodName) jdk_42_method_53_code (2 : Nat) (Option.none : Option Jvm.ClassFile.FieldType)).before args0 about1 = true := code_word (m := ⟨12, 1⟩) (meth := k12m1) (c := k12c1) (by decide +kernel) rfl rfl rfl (by decide +kernel)
set_option maxRecDepth 65536 in
theorem w_c15 : (Jvm.Cond.code ({ cls := "java/lang/String", name := "<init>", desc := "(Ljava/lang/AbstractStringBuilder;Ljava/lang/Void;)V" } : Jvm.MethodName) jdk_42_method_150_code (5 : Nat) (Option.none : Option Jvm.ClassFile.FieldType)).before args0 about1 = true := code_word (m := ⟨12, 6⟩) (meth := k12m6) (c := k12c6) (by decide +kernel) rfl rfl rfl (by decide +kernel)
set_option maxRecDepth 65536 in
theorem w_c16 : (Jvm.Cond.code ({ cls := "java/lang/AbstractStringBuilder", name := "getValue", desc := "()[B" } : Jvm.MethodName) jdk_68_method_64_code (1 : Nat) (Option.some (Jvm.ClassFile.FieldType.array Jvm.ClassFile.FieldType.byte))).before args0 about1 = true := code_word (m := ⟨9, 5⟩) (meth := k9m5) (c := k9c5) (by decide +kernel) rfl rfl rfl (by decide +kernel)
set_option maxRecDepth 65536 in
theorem w_c17 : (Jvm.Cond.code ({ cls := "java/lang/StringBuilder", name := "length", desc := "()I" } : Jvm.MethodName) jdk_67_method_93_code (1 : Nat) (Option.some Jvm.ClassFile.FieldType.int)).before args0 about1 = true := code_word (m := ⟨10, 3⟩) (meth := k10m3) (c := k10c3) (by decide +kernel) rfl rfl rfl (by decide +kernel)
set_option maxRecDepth 65536 in
theorem w_c18 : (Jvm.Cond.code ({ cls := "java/lang/AbstractStringBuilder", name := "length", desc := "()I" } : Jvm.MethodName) jdk_68_method_6_code (1 : Nat) (Option.some Jvm.ClassFile.FieldType.int)).before args0 about1 = true := code_word (m := ⟨9, 2⟩) (meth := k9m2) (c := k9c2) (by decide +kernel) rfl rfl rfl (by decide +kernel)
set_option maxRecDepth 65536 in
theorem w_c19 : (Jvm.Cond.code ({ cls := "java/lang/AbstractStringBuilder", name := "isLatin1", desc := "()Z" } : Jvm.MethodName) jdk_68_method_68_code (1 : Nat) (Option.some Jvm.ClassFile.FieldType.boolean)).before args0 about1 = true := code_word (m := ⟨9, 6⟩) (meth := k9m6) (c := k9c6) (by decide +kernel) rfl rfl rfl (by decide +kernel)
set_option maxRecDepth 65536 in
theorem w_c20 : (Jvm.Cond.code ({ cls := "java/util/Arrays", name := "copyOfRange", desc := "([BII)[B" } : Jvm.MethodName) jdk_65_method_132_code (3 : Nat) (Option.some (Jvm.ClassFile.FieldType.array Jvm.ClassFile.FieldType.byte))).before args0 about1 = true := code_word (m := ⟨14, 2⟩) (meth := k14m2) (c := k14c2) (by decide +kernel) rfl rfl rfl (by decide +kernel)
set_option maxRecDepth 65536 in
theorem w_c21 : (Jvm.Cond.code ({ cls := "com/example/durable_dispatch/durabledispatch/cli/Option", name := "flag", desc := "()Ljava/lang/String;" } : Jvm.MethodName) prog_1_method_5_code (1 : Nat) (Option.some (Jvm.ClassFile.FieldType.object "java/lang/String"))).before args0 about1 = true := code_word (m := ⟨6, 0⟩) (meth := k6m0) (c := k6c0) (by decide +kernel) rfl rfl rfl (by decide +kernel)
set_option maxRecDepth 65536 in
theorem w_c22 : (Jvm.Cond.code ({ cls := "java/lang/String", name := "equals", desc := "(Ljava/lang/Object;)Z" } : Jvm.MethodName) jdk_42_method_66_code (3 : Nat) (Option.some Jvm.ClassFile.FieldType.boolean)).before args0 about1 = true := code_word (m := ⟨12, 4⟩) (meth := k12m4) (c := k12c4) (by decide +kernel) rfl rfl rfl (by decide +kernel)
set_option maxRecDepth 65536 in
theorem w_c23 : (Jvm.Cond.code ({ cls := "java/lang/StringLatin1", name := "equals", desc := "([B[B)Z" } : Jvm.MethodName) jdk_43_method_13_code (3 : Nat) (Option.some Jvm.ClassFile.FieldType.boolean)).before args0 about1 = true := code_word (m := ⟨16, 2⟩) (meth := k16m2) (c := k16c2) (by decide +kernel) rfl rfl rfl (by decide +kernel)
set_option maxRecDepth 65536 in
theorem w_c24 : (Jvm.Cond.code ({ cls := "java/lang/String", name := "charAt", desc := "(I)C" } : Jvm.MethodName) jdk_42_method_56_code (2 : Nat) (Option.some Jvm.ClassFile.FieldType.char)).before args0 about1 = true := code_word (m := ⟨12, 3⟩) (meth := k12m3) (c := k12c3) (by decide +kernel) rfl rfl rfl (by decide +kernel)
set_option maxRecDepth 65536 in
theorem w_c25 : (Jvm.Cond.code ({ cls := "java/lang/String", name := "isLatin1", desc := "()Z" } : Jvm.MethodName) jdk_42_method_154_code (1 : Nat) (Option.some Jvm.ClassFile.FieldType.boolean)).before args0 about1 = true := code_word (m := ⟨12, 8⟩) (meth := k12m8) (c := k12c8) (by decide +kernel) rfl rfl rfl (by decide +kernel)
set_option maxRecDepth 65536 in
theorem w_c26 : (Jvm.Cond.code ({ cls := "java/lang/StringLatin1", name := "charAt", desc := "([BI)C" } : Jvm.MethodName) jdk_43_method_2_code (2 : Nat) (Option.some Jvm.ClassFile.FieldType.char)).before args0 about1 = true := code_word (m := ⟨16, 1⟩) (meth := k16m1) (c := k16c1) (by decide +kernel) rfl rfl rfl (by decide +kernel)
set_option maxRecDepth 65536 in
theorem w_c27 : (Jvm.Cond.code ({ cls := "java/lang/String", name := "checkIndex", desc := "(II)V" } : Jvm.MethodName) jdk_42_method_155_code (2 : Nat) (Option.none : Option Jvm.ClassFile.FieldType)).before args0 about1 = true := code_word (m := ⟨12, 9⟩) (meth := k12m9) (c := k12c9) (by decide +kernel) rfl rfl rfl (by decide +kernel)
set_option maxRecDepth 65536 in
theorem w_c28 : (Jvm.Cond.code ({ cls := "jdk/internal/util/Preconditions", name := "checkIndex", desc := "(IILjava/util/function/BiFunction;)I" } : Jvm.MethodName) jdk_41_method_11_code (3 : Nat) (Option.some Jvm.ClassFile.FieldType.int)).before args0 about1 = true := code_word (m := ⟨17, 1⟩) (meth := k17m1) (c := k17c1) (by decide +kernel) rfl rfl rfl (by decide +kernel)
set_option maxRecDepth 65536 in
theorem w_c29 : (Jvm.Cond.code ({ cls := "java/util/Arrays", name := "copyOfRangeByte", desc := "([BII)[B" } : Jvm.MethodName) jdk_65_method_133_code (5 : Nat) (Option.some (Jvm.ClassFile.FieldType.array Jvm.ClassFile.FieldType.byte))).before args0 about1 = true := code_word (m := ⟨14, 3⟩) (meth := k14m3) (c := k14c3) (by decide +kernel) rfl rfl rfl (by decide +kernel)
set_option maxRecDepth 65536 in
theorem w_c30 : (Jvm.Cond.code ({ cls := "java/util/Arrays", name := "checkLength", desc := "(II)V" } : Jvm.MethodName) jdk_65_method_131_code (2 : Nat) (Option.none : Option Jvm.ClassFile.FieldType)).before args0 about1 = true := code_word (m := ⟨14, 1⟩) (meth := k14m1) (c := k14c1) (by decide +kernel) rfl rfl rfl (by decide +kernel)
set_option maxRecDepth 65536 in
theorem w_c31 : (Jvm.Cond.code ({ cls := "java/lang/Math", name := "min", desc := "(II)I" } : Jvm.MethodName) jdk_29_method_69_code (2 : Nat) (Option.some Jvm.ClassFile.FieldType.int)).before args0 about1 = true := code_word (m := ⟨18, 1⟩) (meth := k18m1) (c := k18c1) (by decide +kernel) rfl rfl rfl (by decide +kernel)
def codes1 : List Jvm.Cond := [Jvm.Cond.code x code maxLocals ret, Jvm.Cond.code ({ cls := "com/example/durable_dispatch/durabledispatch/cli/Option", name := "synopsis", desc := "()Ljava/lang/String;" } : Jvm.MethodName) prog_1_method_6_code (1 : Nat) (Option.some (Jvm.ClassFile.FieldType.object "java/lang/String")), Jvm.Cond.code ({ cls := "java/lang/StringBuilder", name := "<init>", desc := "()V" } : Jvm.MethodName) jdk_67_method_1_code (1 : Nat) (Option.none : Option Jvm.ClassFile.FieldType), Jvm.Cond.code ({ cls := "java/lang/AbstractStringBuilder", name := "<init>", desc := "(I)V" } : Jvm.MethodName) jdk_68_method_2_code (2 : Nat) (Option.none : Option Jvm.ClassFile.FieldType), Jvm.Cond.code ({ cls := "java/lang/Object", name := "<init>", desc := "()V" } : Jvm.MethodName) object_method_1_code (1 : Nat) (Option.none : Option Jvm.ClassFile.FieldType), Jvm.Cond.code ({ cls := "java/lang/StringBuilder", name := "append", desc := "(Ljava/lang/String;)Ljava/lang/StringBuilder;" } : Jvm.MethodName) jdk_67_method_7_code (2 : Nat) (Option.some (Jvm.ClassFile.FieldType.object "java/lang/StringBuilder")), Jvm.Cond.code ({ cls := "java/lang/AbstractStringBuilder", name := "append", desc := "(Ljava/lang/String;)Ljava/lang/AbstractStringBuilder;" } : Jvm.MethodName) jdk_68_method_22_code (3 : Nat) (Option.some (Jvm.ClassFile.FieldType.object "java/lang/AbstractStringBuilder")), Jvm.Cond.code ({ cls := "java/lang/String", name := "length", desc := "()I" } : Jvm.MethodName) jdk_42_method_54_code (1 : Nat) (Option.some Jvm.ClassFile.FieldType.int), Jvm.Cond.code ({ cls := "java/lang/String", name := "coder", desc := "()B" } : Jvm.MethodName) jdk_42_method_152_code (1 : Nat) (Option.some Jvm.ClassFile.FieldType.byte), Jvm.Cond.code ({ cls := "java/lang/AbstractStringBuilder", name := "ensureCapacityInternal", desc := "(I)V" } : Jvm.MethodName) jdk_68_method_9_code (3 : Nat) (Option.none : Option Jvm.ClassFile.FieldType), Jvm.Cond.code ({ cls := "java/lang/AbstractStringBuilder", name := "putStringAt", desc := "(ILjava/lang/String;)V" } : Jvm.MethodName) jdk_68_method_73_code (3 : Nat) (Option.none : Option Jvm.ClassFile.FieldType), Jvm.Cond.code ({ cls := "java/lang/AbstractStringBuilder", name := "inflateIfNeededFor", desc := "(Ljava/lang/String;)V" } : Jvm.MethodName) jdk_68_method_71_code (2 : Nat) (Option.none : Option Jvm.ClassFile.FieldType), Jvm.Cond.code ({ cls := "java/lang/String", name := "getBytes", desc := "([BIB)V" } : Jvm.MethodName) jdk_42_method_147_code (4 : Nat) (Option.none : Option Jvm.ClassFile.FieldType), Jvm.Cond.code ({ cls := "java/lang/StringBuilder", name := "toString", desc := "()Ljava/lang/String;" } : Jvm.MethodName) jdk_67_method_42_code (1 : Nat) (Option.some (Jvm.ClassFile.FieldType.object "java/lang/String")), Jvm.Cond.code ({ cls := "java/lang/String", name := "<init>", desc := "(Ljava/lang/StringBuilder;)V" } : Jvm.MethodName) jdk_42_method_53_code (2 : Nat) (Option.none : Option Jvm.ClassFile.FieldType), Jvm.Cond.code ({ cls := "java/lang/String", name := "<init>", desc := "(Ljava/lang/AbstractStringBuilder;Ljava/lang/Void;)V" } : Jvm.MethodName) jdk_42_method_150_code (5 : Nat) (Option.none : Option Jvm.ClassFile.FieldType), Jvm.Cond.code ({ cls := "java/lang/AbstractStringBuilder", name := "getValue", desc := "()[B" } : Jvm.MethodName) jdk_68_method_64_code (1 : Nat) (Option.some (Jvm.ClassFile.FieldType.array Jvm.ClassFile.FieldType.byte)), Jvm.Cond.code ({ cls := "java/lang/StringBuilder", name := "length", desc := "()I" } : Jvm.MethodName) jdk_67_method_93_code (1 : Nat) (Option.some Jvm.ClassFile.FieldType.int), Jvm.Cond.code ({ cls := "java/lang/AbstractStringBuilder", name := "length", desc := "()I" } : Jvm.MethodName) jdk_68_method_6_code (1 : Nat) (Option.some Jvm.ClassFile.FieldType.int), Jvm.Cond.code ({ cls := "java/lang/AbstractStringBuilder", name := "isLatin1", desc := "()Z" } : Jvm.MethodName) jdk_68_method_68_code (1 : Nat) (Option.some Jvm.ClassFile.FieldType.boolean), Jvm.Cond.code ({ cls := "java/util/Arrays", name := "copyOfRange", desc := "([BII)[B" } : Jvm.MethodName) jdk_65_method_132_code (3 : Nat) (Option.some (Jvm.ClassFile.FieldType.array Jvm.ClassFile.FieldType.byte)), Jvm.Cond.code ({ cls := "com/example/durable_dispatch/durabledispatch/cli/Option", name := "flag", desc := "()Ljava/lang/String;" } : Jvm.MethodName) prog_1_method_5_code (1 : Nat) (Option.some (Jvm.ClassFile.FieldType.object "java/lang/String")), Jvm.Cond.code ({ cls := "java/lang/String", name := "equals", desc := "(Ljava/lang/Object;)Z" } : Jvm.MethodName) jdk_42_method_66_code (3 : Nat) (Option.some Jvm.ClassFile.FieldType.boolean), Jvm.Cond.code ({ cls := "java/lang/StringLatin1", name := "equals", desc := "([B[B)Z" } : Jvm.MethodName) jdk_43_method_13_code (3 : Nat) (Option.some Jvm.ClassFile.FieldType.boolean), Jvm.Cond.code ({ cls := "java/lang/String", name := "charAt", desc := "(I)C" } : Jvm.MethodName) jdk_42_method_56_code (2 : Nat) (Option.some Jvm.ClassFile.FieldType.char), Jvm.Cond.code ({ cls := "java/lang/String", name := "isLatin1", desc := "()Z" } : Jvm.MethodName) jdk_42_method_154_code (1 : Nat) (Option.some Jvm.ClassFile.FieldType.boolean), Jvm.Cond.code ({ cls := "java/lang/StringLatin1", name := "charAt", desc := "([BI)C" } : Jvm.MethodName) jdk_43_method_2_code (2 : Nat) (Option.some Jvm.ClassFile.FieldType.char), Jvm.Cond.code ({ cls := "java/lang/String", name := "checkIndex", desc := "(II)V" } : Jvm.MethodName) jdk_42_method_155_code (2 : Nat) (Option.none : Option Jvm.ClassFile.FieldType), Jvm.Cond.code ({ cls := "jdk/internal/util/Preconditions", name := "checkIndex", desc := "(IILjava/util/function/BiFunction;)I" } : Jvm.MethodName) jdk_41_method_11_code (3 : Nat) (Option.some Jvm.ClassFile.FieldType.int), Jvm.Cond.code ({ cls := "java/util/Arrays", name := "copyOfRangeByte", desc := "([BII)[B" } : Jvm.MethodName) jdk_65_method_133_code (5 : Nat) (Option.some (Jvm.ClassFile.FieldType.array Jvm.ClassFile.FieldType.byte)), Jvm.Cond.code ({ cls := "java/util/Arrays", name := "checkLength", desc := "(II)V" } : Jvm.MethodName) jdk_65_method_131_code (2 : Nat) (Option.none : Option Jvm.ClassFile.FieldType), Jvm.Cond.code ({ cls := "java/lang/Math", name := "min", desc := "(II)I" } : Jvm.MethodName) jdk_29_method_69_code (2 : Nat) (Option.some Jvm.ClassFile.FieldType.int)]
set_option maxRecDepth 65536 in
theorem codes_eq : words1.filter isCode = codes1 := rfl
theorem w_codes : ∀ c ∈ words1.filter isCode, c.before args0 about1 = true := by
  rw [codes_eq]
  intro c hc
  simp only [codes1, List.mem_cons, List.not_mem_nil, or_false] at hc
  rcases hc with rfl | rfl | rfl | rfl | rfl | rfl | rfl | rfl | rfl | rfl | rfl | rfl | rfl | rfl | rfl | rfl | rfl | rfl | rfl | rfl | rfl | rfl | rfl | rfl | rfl | rfl | rfl | rfl | rfl | rfl | rfl | rfl
  · exact w_c0
  · exact w_c1
  · exact w_c2
  · exact w_c3
  · exact w_c4
  · exact w_c5
  · exact w_c6
  · exact w_c7
  · exact w_c8
  · exact w_c9
  · exact w_c10
  · exact w_c11
  · exact w_c12
  · exact w_c13
  · exact w_c14
  · exact w_c15
  · exact w_c16
  · exact w_c17
  · exact w_c18
  · exact w_c19
  · exact w_c20
  · exact w_c21
  · exact w_c22
  · exact w_c23
  · exact w_c24
  · exact w_c25
  · exact w_c26
  · exact w_c27
  · exact w_c28
  · exact w_c29
  · exact w_c30
  · exact w_c31
set_option maxRecDepth 65536 in
theorem w_t1 : (words1.take 24).all (fun c => isCode c || c.before args0 about1) = true := by decide +kernel
set_option maxRecDepth 65536 in
theorem w_t2 : ((words1.drop 24).take 24).all (fun c => isCode c || c.before args0 about1) = true := by decide +kernel
set_option maxRecDepth 65536 in
theorem w_t3 : (((words1.drop 24).drop 24).take 24).all (fun c => isCode c || c.before args0 about1) = true := by decide +kernel
set_option maxRecDepth 65536 in
theorem w_t4 : ((((words1.drop 24).drop 24).drop 24).take 24).all (fun c => isCode c || c.before args0 about1) = true := by decide +kernel
set_option maxRecDepth 65536 in
theorem w_t5 : (((((words1.drop 24).drop 24).drop 24).drop 24).take 24).all (fun c => isCode c || c.before args0 about1) = true := by decide +kernel
set_option maxRecDepth 65536 in
theorem w_t6 : ((((((words1.drop 24).drop 24).drop 24).drop 24).drop 24).take 24).all (fun c => isCode c || c.before args0 about1) = true := by decide +kernel
set_option maxRecDepth 65536 in
theorem w_t7 : (((((((words1.drop 24).drop 24).drop 24).drop 24).drop 24).drop 24).take 24).all (fun c => isCode c || c.before args0 about1) = true := by decide +kernel
set_option maxRecDepth 65536 in
theorem w_t8 : (((((((words1.drop 24).drop 24).drop 24).drop 24).drop 24).drop 24).drop 24).all (fun c => isCode c || c.before args0 about1) = true := by decide +kernel
theorem w_tables : (allAtoms (Jvm.Cond.code x code maxLocals ret :: tables_1)).before args0 about1 = true := by
  rw [allAtoms_all]
  show words1.all (fun c => c.before args0 about1) = true
  refine all_split ?_ w_codes
  rw [← List.take_append_drop 24 words1, List.all_append, w_t1, ← List.take_append_drop 24 (words1.drop 24), List.all_append, w_t2, ← List.take_append_drop 24 ((words1.drop 24).drop 24), List.all_append, w_t3, ← List.take_append_drop 24 (((words1.drop 24).drop 24).drop 24), List.all_append, w_t4, ← List.take_append_drop 24 ((((words1.drop 24).drop 24).drop 24).drop 24), List.all_append, w_t5, ← List.take_append_drop 24 (((((words1.drop 24).drop 24).drop 24).drop 24).drop 24), List.all_append, w_t6, ← List.take_append_drop 24 ((((((words1.drop 24).drop 24).drop 24).drop 24).drop 24).drop 24), List.all_append, w_t7, w_t8]
  rfl
set_option maxRecDepth 65536 in
theorem w_rest : rest_1_c.before args0 about1 = true := by decide +kernel
set_option maxRecDepth 65536 in
theorem w_case : (Jvm.Cond.and given_1 narrow_1).before args0 about1 = true := by decide +kernel
set_option maxRecDepth 65536 in
theorem w_consts : constsHeld consts_1 about1 := Jvm.Lit.constsHeldB_iff.mp (by decide +kernel)
theorem w_applies : (headSpec (Jvm.Cond.code x code maxLocals ret :: tables_1) room_1).applies x e0.platform about1 = true :=
  (Spec.applies_iff w_frames).mpr ⟨w_running, w_runnable, w_alone, w_named, w_hears, w_ripe, w_room, w_tables⟩
theorem atStart : AtStart classFile x code maxLocals ret World_1 tables_1 room_1 Calls_1 rest_1 Pre_1 launch0 p0 e0 about1 theMethod args0 below0 :=
  ⟨lists_1, trivial, launch0.admits_env _ _ _, launch0.least_env, fairChoices_fair.cas, fairChoices_fair.clock, w_frames, w_args, w_heap, w_applies, ⟨w_consts, trivial⟩, w_rest, w_case⟩
end start1
theorem witness_1 : WitnessClaimed_1 := ⟨start1.p0, start1.e0, start1.about1, start1.theMethod, start1.args0, start1.below0, start1.atStart⟩
end Jvm.Pilot.@@N@@
