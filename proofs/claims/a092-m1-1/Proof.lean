import JvmDerived
import JvmDerived.Pilot.@@N@@Statement
import JvmDerived.Pilot.@@N@@Code
set_option linter.unusedVariables false
set_option linter.unusedSimpArgs false
namespace Jvm.RoadKit
open Sem ClassFile Op Lib Jvm.Stand Jvm.Free Jvm.LawKit
section New
variable {p : Program} {l : Launch} {e : Env} {R : Room} {s : State} {m : MethodId} {args : Array Value} {below : List Frame} {meth : Method} {c : Code} {T : State} {locs : List Loc} {cells slots : Nat}
theorem retI (X : Stand p l e R s m args below meth c T locs cells slots) (hx : p.tables.exec = Jvm.exec) {pc : Nat} {Ls : Array Slot} {z : Int32} {rest : List Value} (hret : meth.sig.returnType = some .int) (hd : decode c.code pc = .ok (.ireturn, 1)) {fs : List Frame}
    (hl : ∀ (f : JFrame) (acts : List Action), f.method = m → f.locked = none → f.entered = [] → (doReturn e (T.setTop f) acts (some (.int z))).1 = T.setFrames fs) : Steps p.tables e below (T.setTop (mkF m pc Ls (.int z :: rest))) (T.setFrames fs) :=
  retOut X hx hret rfl (Or.inl ⟨rfl, Or.inl rfl, z, rfl⟩) hd hl
theorem retJ (X : Stand p l e R s m args below meth c T locs cells slots) (hx : p.tables.exec = Jvm.exec) {pc : Nat} {Ls : Array Slot} {z : Int64} {rest : List Value} (hret : meth.sig.returnType = some .long) (hd : decode c.code pc = .ok (.lreturn, 1)) {fs : List Frame}
    (hl : ∀ (f : JFrame) (acts : List Action), f.method = m → f.locked = none → f.entered = [] → (doReturn e (T.setTop f) acts (some (.long z))).1 = T.setFrames fs) : Steps p.tables e below (T.setTop (mkF m pc Ls (.long z :: rest))) (T.setFrames fs) :=
  retOut X hx hret rfl (Or.inr (Or.inl ⟨rfl, rfl, z, rfl⟩)) hd hl
theorem narA {t : FieldType} {w : Value} (ht : t.isReference = true) (hw : w.isRef = true) : narrow t w = w := by
  rcases ref_cases hw with rfl | ⟨z, rfl⟩ <;> cases t <;> first | rfl | (simp [FieldType.isReference] at ht)
theorem retA (X : Stand p l e R s m args below meth c T locs cells slots) (hx : p.tables.exec = Jvm.exec) {pc : Nat} {Ls : Array Slot} {t : FieldType} {w : Value} {rest : List Value} (hret : meth.sig.returnType = some t) (ht : t.isReference = true) (hw : w.isRef = true) (hd : decode c.code pc = .ok (.areturn, 1)) {fs : List Frame}
    (hl : ∀ (f : JFrame) (acts : List Action), f.method = m → f.locked = none → f.entered = [] → (doReturn e (T.setTop f) acts (some w)).1 = T.setFrames fs) : Steps p.tables e below (T.setTop (mkF m pc Ls (w :: rest))) (T.setFrames fs) :=
  retOut X hx hret (narA ht hw) (Or.inr (Or.inr (Or.inr (Or.inr ⟨rfl, ht, hw⟩)))) hd hl
theorem own_pack {n0 : Nat} {L Lc : List Loc} {k n rc rs C S' : Nat} (X : Stand p l e R s m args below meth c T L k n) (hl : L = locs ++ Lc) (hk : k = cells + rc) (hn : n = slots + rs) (N : Fr n0 locs) (Nq : Fr n0 Lc) (hC : cells + rc = C) (hS : slots + rs = S') : ∃ lc, Stand p l e R s m args below meth c T lc C S' ∧ Fr n0 lc := by
  subst hl hk hn hC hS; exact ⟨_, X, N.app Nq⟩
theorem own_pack1 {n0 : Nat} {a : Addr} {sl : Nat} (X : Stand p l e R s m args below meth c T (locs ++ [⟨a, sl⟩]) cells slots) (N : Fr n0 locs) (q : n0 ≤ a) : ∃ lc, Stand p l e R s m args below meth c T lc cells slots ∧ Fr n0 lc := ⟨_, X, Fr.snoc X N q⟩
/-- the run from a comes to an end that Q allows -/
def own_G (tb : Tables) (e : Env) (below : List Frame) (s : State) (Q : Option Value → Heap → List Loc → Prop) (C S : Nat) (a : State) : Prop :=
  ∃ (t : State) (o : Outcome), Steps tb e below a t ∧ t.status = .running ∧ Ended t below o ∧ ∃ v L, o = .returned v ∧ Q v t.heap L ∧ FrameEnd s o t L C S
theorem own_thr {tb : Tables} {Q : Option Value → Heap → List Loc → Prop} {C S : Nat} {a b : State} (h : ∀ t, Steps tb e below a t → Steps tb e below b t) (g : own_G tb e below s Q C S a) : own_G tb e below s Q C S b := by
  obtain ⟨t, o, h1, h2⟩ := g; exact ⟨t, o, h t h1, h2⟩
theorem own_end (X : Stand p l e R s m args below meth c T locs cells slots) (hlk : meth.locks = false) {v : Option Value} (hv : meth.sig.returnType = none → v = none) {g : JFrame} {Q : Option Value → Heap → List Loc → Prop} {C S : Nat}
    (hr : ∀ fs, (∀ (f : JFrame) (acts : List Action), f.method = m → f.locked = none → f.entered = [] → (doReturn e (T.setTop f) acts v).1 = T.setFrames fs) → Steps p.tables e below (T.setTop g) (T.setFrames fs))
    (hQ : Q v T.heap locs) (hC : cells ≤ C) (hS : slots ≤ S) : own_G p.tables e below s Q C S (T.setTop g) := by
  obtain ⟨fs, hr', hrun, hended, hW, hsame⟩ := X.leave (v := v) hv hlk
  exact ⟨_, _, hr fs hr', hrun, hended, _, _, rfl, hQ, ⟨_, rfl⟩, hW, hsame.mono hC hS⟩
def own_GW (tb : Tables) (e : Env) (below : List Frame) (s : State) (Q : Option Value → Heap → List Loc → Prop) (C S : Nat) (a : State) : Prop :=
  ∃ (t : State) (o : Outcome), Steps tb e below a t ∧ t.status = .running ∧ Ended t below o ∧ ∃ v L, o = .returned v ∧ Q v t.heap L ∧ ReturnedEndW s o t L C S
theorem own_thrW {tb : Tables} {Q : Option Value → Heap → List Loc → Prop} {C S : Nat} {a b : State} (h : ∀ t, Steps tb e below a t → Steps tb e below b t) (g : own_GW tb e below s Q C S a) : own_GW tb e below s Q C S b := by
  obtain ⟨t, o, h1, h2⟩ := g; exact ⟨t, o, h t h1, h2⟩
theorem own_endW {vm₁ : Vm} {k : Nat} (X : Stand p l e R (s.setVm vm₁) m args below meth c T locs cells slots) (hS : s.Since vm₁ k) (hk : k ≤ T.heap.size) (hlk : meth.locks = false) {v : Option Value} (hv : meth.sig.returnType = none → v = none) {g : JFrame} {Q : Option Value → Heap → List Loc → Prop} {C S : Nat}
    (hr : ∀ fs, (∀ (f : JFrame) (acts : List Action), f.method = m → f.locked = none → f.entered = [] → (doReturn e (T.setTop f) acts v).1 = T.setFrames fs) → Steps p.tables e below (T.setTop g) (T.setFrames fs))
    (hQ : Q v T.heap locs) (hC : cells ≤ C) (hSl : slots ≤ S) : own_GW p.tables e below s Q C S (T.setTop g) := by
  obtain ⟨fs, hr', hrun, hended, hret, hW, hint, hsame⟩ := X.leaveW hS hk (v := v) hv hlk
  exact ⟨_, _, hr fs hr', hrun, hended, _, _, rfl, hQ, ⟨_, rfl⟩, hW, hint, hsame.mono hC hSl⟩
end New
end Jvm.RoadKit
namespace Jvm.Pilot.@@N@@
open Jvm Jvm.ClassFile Sem Op Lib Jvm.Free Jvm.Stand Jvm.LawKit Jvm.RoadKit Bundle Jvm.Pilot.@@N@@.Jvm.D
theorem own_sa : ∀ a ∈ Bundle.stringAtoms, a ∈ tables_1 := by decide +kernel
theorem own_bb (x : Int32) : x.toInt8.toInt32.toInt8.toInt32 = x.toInt8.toInt32 := by
  rw [← Int32.toInt_inj]
  have h1 := c_i2b x
  have h2 := c_i2b x.toInt8.toInt32
  omega
theorem d2_0 : decode jdk_31_method_11_code 0 = .ok (.aload_n 0, 1) := by decide +kernel
theorem d2_1 : decode jdk_31_method_11_code 1 = .ok (.ifnonnull 12, 3) := by decide +kernel
theorem d2_13 : decode jdk_31_method_11_code 13 = .ok (.aload_n 0, 1) := by decide +kernel
theorem d2_14 : decode jdk_31_method_11_code 14 = .ok (.areturn, 1) := by decide +kernel
theorem pn_java_util_Objects : plainName "java/util/Objects" = true := by first | (simp [plainName, overriddenIn]; done) | decide +kernel
theorem ef_rmO (m : MethodId) (o0 : Addr) (o1 : Addr)  : entryFrame m #[(.ref o0), (.ref o1)] 2 = mkF m 0 #[.val (.ref o0), .val (.ref o1)] [] := by first |  (simp [entryFrame, mkF, argsToLocals, Value.category]; done) | rfl
def Q_rmO (Z : State) (o0 : Addr) (o1 : Addr) (h0 : Heap) (n0 : Nat) (v : Option Value) (h : Heap) (L : List Loc) : Prop := v = some (.ref o0) ∧ Fr n0 L ∧ h = h0
set_option maxRecDepth 65536 in
set_option maxHeartbeats 40000000 in
theorem rmO (l : Launch) (Z : State) (a0 : Array Value) (hw : ∀ d ∈ tables_1, d.before a0 Z = true) (ws : List Jvm.Cond) (o0 : Addr) (o1 : Addr) (h0 : Heap) (n0 : Nat) (Z0 : n0 ≤ h0.size) :
    MetFree l (⟨"java/util/Objects", "requireNonNull", "(Ljava/lang/Object;Ljava/lang/String;)Ljava/lang/Object;"⟩ : MethodName) (head1 (Jvm.Cond.code (⟨"java/util/Objects", "requireNonNull", "(Ljava/lang/Object;Ljava/lang/String;)Ljava/lang/Object;"⟩ : MethodName) jdk_31_method_11_code 2 (some (.object "java/lang/Object")) :: ws) ({ frames := 0, cells := 0, slots := 0, locals := 0 } : Room)) (fun a U => a = #[(.ref o0), (.ref o1)] ∧ Z.Warmed39 U.vm ∧ U.heap = h0) (fun _ _ _ _ _ => True) (fun _ U o U' => ∃ v L, o = .returned v ∧ Q_rmO Z o0 o1 h0 n0 v U'.heap L ∧ FrameEnd U o U' L ({ frames := 0, cells := 0, slots := 0, locals := 0 } : Room).cells ({ frames := 0, cells := 0, slots := 0, locals := 0 } : Room).slots) := by
  refine MetFree.of_bodySF (plainFor_of_name pn_java_util_Objects) hisR ?_
  intro p e s m args below meth c s₁ Bd hml0 hP hK
  obtain ⟨rfl, hZ, hh⟩ := hP
  have hx := Bd.exec
  have hby := Bd.bytes
  have hml : c.maxLocals = 2 := hml0
  have hown : s.vm.findClass "java/util/Objects" = some m.cls := findClass_of_methodNamed Bd.named
  have hnm := (name_of_methodNamed Bd.named Bd.method).1
  have hlk := Bd.notSynchronized
  have X0 : Stand p l e ({ frames := 0, cells := 0, slots := 0, locals := 0 } : Room) s m #[(.ref o0), (.ref o1)] below meth c s₁ [] 0 0 := Stand.of_body Bd
  have e0 : s₁.heap = h0 := by rw [← hh, Bd.state]; rfl
  have N0 := Fr.nil n0
  show own_G p.tables e below s (Q_rmO Z o0 o1 h0 n0) ({ frames := 0, cells := 0, slots := 0, locals := 0 } : Room).cells ({ frames := 0, cells := 0, slots := 0, locals := 0 } : Room).slots _
  refine own_thr (a := s₁.setTop (mkF m 0 #[.val (.ref o0), .val (.ref o1)] [])) (fun t kt => castTop (ef_rmO m o0 o1) kt) ?_
  refine own_thr (a := s₁.setTop (mkF m 14 #[.val (.ref o0), .val (.ref o1)] [(.ref o0)])) (fun t kt => ?_) ?_
  · show Steps p.tables e below (s₁.setTop (mkF m 0 #[.val (.ref o0), .val (.ref o1)] [])) _
    refine XS.aloadN X0.here hx rfl (hb hby d2_0) rfl rfl ?_
    refine XS.ifnonnullYes X0.here hx rfl (pc0 := 1) (pc' := 13) rfl (hb hby d2_1) rfl (by decide) (by decide) ?_
    refine XS.aloadN X0.here hx rfl (hb hby d2_13) rfl rfl ?_
    exact kt
  exact own_end X0 hlk (v := some (.ref o0)) (fun h => by rw [Bd.returns] at h; cases h) (fun fs hr => retA X0 hx Bd.returns rfl rfl (hb hby d2_14) hr) (by rw [e0]; exact ⟨rfl, N0, rfl⟩) (by decide : 0 ≤ _) (by decide : 0 ≤ _)
theorem d1_0 : decode prog_8_method_6_code 0 = .ok (.aload_n 0, 1) := by decide +kernel
theorem d1_1 : decode prog_8_method_6_code 1 = .ok (.ldc 33, 2) := by decide +kernel
theorem pd__28Ljava_2flang_2fObject_3bLjava_2flang_2fString_3b_29Ljava_2flang_2fObject_3b : parseMethodDescriptor "(Ljava/lang/Object;Ljava/lang/String;)Ljava/lang/Object;" = some ⟨[(.object "java/lang/Object"), (.object "java/lang/String")], some (.object "java/lang/Object")⟩ := by decide +kernel
theorem d1_3 : decode prog_8_method_6_code 3 = .ok (.invokestatic 35, 3) := by decide +kernel
theorem d1_6 : decode prog_8_method_6_code 6 = .ok (.pop, 1) := by decide +kernel
theorem d1_7 : decode prog_8_method_6_code 7 = .ok (.aload_n 0, 1) := by decide +kernel
theorem d1_8 : decode prog_8_method_6_code 8 = .ok (.arraylength, 1) := by decide +kernel
theorem d1_9 : decode prog_8_method_6_code 9 = .ok (.ldc 41, 2) := by decide +kernel
theorem d1_11 : decode prog_8_method_6_code 11 = .ok (.if_icmp .le 18, 3) := by decide +kernel
theorem d1_29 : decode prog_8_method_6_code 29 = .ok (.aload_n 0, 1) := by decide +kernel
theorem d1_30 : decode prog_8_method_6_code 30 = .ok (.areturn, 1) := by decide +kernel
theorem pn_com_example_chronoshard_chronoshard_model_Limits : plainName "com/example/chronoshard/chronoshard/model/Limits" = true := by first | (simp [plainName, overriddenIn]; done) | decide +kernel
theorem ef_rmC (m : MethodId) (o0 : Addr)  : entryFrame m #[(.ref o0)] 1 = mkF m 0 #[.val (.ref o0)] [] := by first |  (simp [entryFrame, mkF, argsToLocals, Value.category]; done) | rfl
def Q_rmC (Z : State) (o0 : Addr) (cl : Cell) (n : Int32) (h0 : Heap) (n0 : Nat) (v : Option Value) (h : Heap) (L : List Loc) : Prop := v = some (.ref o0) ∧ Fr n0 L ∧ Keep h0 h []
set_option maxRecDepth 65536 in
set_option maxHeartbeats 40000000 in
theorem rmC (l : Launch) (Z : State) (a0 : Array Value) (hw : ∀ d ∈ tables_1, d.before a0 Z = true) (ws : List Jvm.Cond) (o0 : Addr) (cl : Cell) (n : Int32) (h0 : Heap) (n0 : Nat) (Z0 : n0 ≤ h0.size) (Ar : Arr Z h0 o0 cl .byte) (hS : cl.slots.size = n.toNatClampNeg) (hM : ¬ n < 0) (hle : ¬ (65536 : Int32) < n) :
    MetFree l (⟨"com/example/chronoshard/chronoshard/model/Limits", "checkPayload", "([B)[B"⟩ : MethodName) (head1 (Jvm.Cond.code (⟨"com/example/chronoshard/chronoshard/model/Limits", "checkPayload", "([B)[B"⟩ : MethodName) prog_8_method_6_code 1 (some (.array .byte)) :: ws) ({ frames := 1, cells := 2, slots := 32, locals := 13 } : Room)) (fun a U => a = #[(.ref o0)] ∧ Z.Warmed39 U.vm ∧ U.heap = h0) (fun _ _ _ _ _ => True) (fun _ U o U' => ∃ v L, o = .returned v ∧ Q_rmC Z o0 cl n h0 n0 v U'.heap L ∧ ReturnedEndW U o U' L ({ frames := 1, cells := 2, slots := 32, locals := 13 } : Room).cells ({ frames := 1, cells := 2, slots := 32, locals := 13 } : Room).slots) := by
  refine MetFree.of_bodySF (plainFor_of_name pn_com_example_chronoshard_chronoshard_model_Limits) hisR ?_
  intro p e s m args below meth c s₁ Bd hml0 hP hK
  obtain ⟨rfl, hZ, hh⟩ := hP
  have hx := Bd.exec
  have hby := Bd.bytes
  have hml : c.maxLocals = 1 := hml0
  have hown : s.vm.findClass "com/example/chronoshard/chronoshard/model/Limits" = some m.cls := findClass_of_methodNamed Bd.named
  have hnm := (name_of_methodNamed Bd.named Bd.method).1
  have hlk := Bd.notSynchronized
  have X0 : Stand p l e ({ frames := 1, cells := 2, slots := 32, locals := 13 } : Room) (s.setVm s.vm) m #[(.ref o0)] below meth c s₁ [] 0 0 := Stand.of_body Bd
  have e0 : s₁.heap = h0 := by rw [← hh, Bd.state]; rfl
  have N0 := Fr.nil n0
  show own_GW p.tables e below s (Q_rmC Z o0 cl n h0 n0) ({ frames := 1, cells := 2, slots := 32, locals := 13 } : Room).cells ({ frames := 1, cells := 2, slots := 32, locals := 13 } : Room).slots _
  have hS0 : s.Since s.vm 0 := (State.WarmedH.refl s).since 0
  refine own_thrW (a := s₁.setTop (mkF m 0 #[.val (.ref o0)] [])) (fun t kt => castTop (ef_rmC m o0) kt) ?_
  refine own_thrW (a := s₁.setTop (mkF m 1 #[.val (.ref o0)] [(.ref o0)])) (fun t kt => ?_) ?_
  · show Steps p.tables e below (s₁.setTop (mkF m 0 #[.val (.ref o0)] [])) _
    refine XS.aloadN X0.here hx rfl (hb hby d1_0) rfl rfl ?_
    exact kt
  obtain ⟨b1, T1, h1, kk1, X1, e1, E1, hS1, hk1, hZ1, hown1, st1⟩ := ldcS X0 hx hZ hown (hw _ (List.mem_of_getElem? (i := 7) rfl)) (fun a ha => hw a (own_sa a ha)) e0 hS0 (Nat.zero_le _) (g := (mkF m 1 #[.val (.ref o0)] [(.ref o0)])) rfl (hb hby d1_1) (n := 28) (by decide) (by decide) (by decide : 0 + 2 ≤ _) (by decide : 0 + 32 ≤ _)
  have Z2 : n0 ≤ h1.size := Nat.le_trans Z0 E1.1
  have Z2h : h0.size ≤ h1.size := Nat.le_trans (Nat.le_refl h0.size) E1.1
  refine own_thrW (a := T1.setTop (mkF m 3 #[.val (.ref o0)] [(.ref b1), (.ref o0)])) (fun t kt => st1 t kt) ?_
  obtain ⟨_, _, ⟨T3, L3, k3, n3⟩, -, X3, ⟨Lc3, hQ3, l3, y3, z3⟩, st3⟩ := Jvm.LawKit.callS X1 hx (y := (⟨"java/util/Objects", "requireNonNull", "(Ljava/lang/Object;Ljava/lang/String;)Ljava/lang/Object;"⟩ : MethodName)) hown1 (mvT hZ1 (hw _ (List.mem_of_getElem? (i := 14) rfl))) (mvT hZ1 (hw _ (List.mem_of_getElem? (i := 15) rfl))) (mvT hZ1 (hw _ (List.mem_of_getElem? (i := 16) rfl))) (mvT hZ1 (hw _ (List.mem_of_getElem? (i := 17) rfl))) (by decide) (backOf (W := 0) (rmO l Z a0 hw [] o0 b1 h1 n0 Z2) hZ1 (hw _ (List.mem_of_getElem? (i := 17) rfl)) (hw _ (List.mem_of_getElem? (i := 16) rfl)) (by decide) (by decide)) (g := (mkF m 3 #[.val (.ref o0)] [(.ref b1), (.ref o0)])) rfl (by rw [hml]; rfl) (argsL := [(.ref o0), (.ref b1)]) (rest := []) (lenOf pd__28Ljava_2flang_2fObject_3bLjava_2flang_2fString_3b_29Ljava_2flang_2fObject_3b rfl) rfl (by show 2 * 0 + _ ≤ _; exact Nat.le_of_eq rfl) (hb hby d1_3) (fun _ _ => ⟨rfl, e1, (by decide : 2 + 0 ≤ _), (by decide : 32 + 0 ≤ _)⟩)
  dsimp only [Pt.U, Pt.locs, Pt.cells, Pt.slots] at X3 l3 y3 z3 st3 hQ3
  obtain ⟨rfl, N3q, e3⟩ := hQ3
  obtain ⟨lc3, X3, N3⟩ := own_pack X3 l3 y3 z3 N0 N3q (C := 2) (S' := 32) rfl rfl
  refine own_thrW (a := T3.setTop (mkF m 6 #[.val (.ref o0)] [(.ref o0)])) (fun t kt => st3 t kt) ?_
  refine own_thrW (a := T3.setTop (mkF m 8 #[.val (.ref o0)] [(.ref o0)])) (fun t kt => ?_) ?_
  · show Steps p.tables e below (T3.setTop (mkF m 6 #[.val (.ref o0)] [(.ref o0)])) _
    refine XS.pop X3.here hx rfl (hb hby d1_6) rfl rfl ?_
    refine XS.aloadN X3.here hx rfl (hb hby d1_7) rfl rfl ?_
    exact kt
  have Ar4 := (Ar.ext E1)
  refine own_thrW (a := T3.setTop (mkF m 30 #[.val (.ref o0)] [(.ref o0)])) (fun t kt => ?_) ?_
  · show Steps p.tables e below (T3.setTop (mkF m 8 #[.val (.ref o0)] [(.ref o0)])) _
    refine X3.arraylength hx (by rw [e3]; exact Ar4.1) (State.isArrayOf_alike hZ1.alike Ar4.2.1) (g := (mkF m 8 #[.val (.ref o0)] [(.ref o0)])) rfl rfl (hb hby d1_8) _ ?_
    rw [len_of hS hM]
    refine X3.ldcInt hx hown1 (mvT hZ1 (hw _ (List.mem_of_getElem? (i := 18) rfl))) (g := (mkF m 9 #[.val (.ref o0)] [(.int n)])) rfl (hb hby d1_9) _ ?_
    refine XS.icmpYes X3.here hx rfl (pc0 := 11) (pc' := 29) rfl (hb hby d1_11) rfl (flt hle).2.2.2 (by decide) (by decide) ?_
    refine XS.aloadN X3.here hx rfl (hb hby d1_29) rfl rfl ?_
    exact kt
  exact own_endW X3 hS1 (by rw [e3]; exact hk1) hlk (v := some (.ref o0)) (fun h => by rw [Bd.returns] at h; cases h) (fun fs hr => retA X3 hx Bd.returns rfl rfl (hb hby d1_30) hr) (by rw [e3]; exact ⟨rfl, N3, ((Keep.refl h0 []).ext E1)⟩) (by decide : 2 ≤ _) (by decide : 32 ≤ _)
theorem pd__28_5bB_29_5bB : parseMethodDescriptor "([B)[B" = some ⟨[(.array .byte)], some (.array .byte)⟩ := by decide +kernel
theorem pn_com_example_chronoshard_chronoshard_model_LimitsCheckPayloadPinLaw : plainName "com/example/chronoshard/chronoshard/model/LimitsCheckPayloadPinLaw" = true := by first | (simp [plainName, overriddenIn]; done) | decide +kernel
theorem ef_rm0 (m : MethodId) (p0 : Int32) (p1 : Int32) (p2 : Int32)  : entryFrame m #[(.int p0), (.int p1), (.int p2)] maxLocals = mkF m 0 #[.val (.int p0), .val (.int p1), .val (.int p2), .unset, .unset, .unset, .unset, .unset, .unset, .unset, .unset, .unset] [] := by first |  (simp [entryFrame, mkF, argsToLocals, Value.category, maxLocals]; done) | rfl
def Q0 (Z : State) (p0 : Int32) (p1 : Int32) (p2 : Int32) (h0 : Heap) (n0 : Nat) (v : Option Value) (h : Heap) (L : List Loc) : Prop := v = some (.int (1 : Int32)) ∧ Fr n0 L
set_option maxRecDepth 65536 in
set_option maxHeartbeats 40000000 in
theorem rm0 (l : Launch) (Z : State) (a0 : Array Value) (hw : ∀ d ∈ tables_1, d.before a0 Z = true) (ws : List Jvm.Cond) (p0 : Int32) (p1 : Int32) (p2 : Int32) (h0 : Heap) (n0 : Nat) (Z0 : n0 ≤ h0.size) :
    MetFree l x (head1 (Jvm.Cond.code x code maxLocals ret :: ws) room_1) (fun a U => a = #[(.int p0), (.int p1), (.int p2)] ∧ Z.Warmed39 U.vm ∧ U.heap = h0) (fun _ _ _ _ _ => True) (fun _ U o U' => ∃ v L, o = .returned v ∧ Q0 Z p0 p1 p2 h0 n0 v U'.heap L ∧ ReturnedEndW U o U' L room_1.cells room_1.slots) := by
  refine MetFree.of_bodySF (plainFor_of_name pn_com_example_chronoshard_chronoshard_model_LimitsCheckPayloadPinLaw) hisR ?_
  intro p e s m args below meth c s₁ Bd hml0 hP hK
  obtain ⟨rfl, hZ, hh⟩ := hP
  have hx := Bd.exec
  have hby := Bd.bytes
  have hml : c.maxLocals = 12 := hml0
  have hown : s.vm.findClass "com/example/chronoshard/chronoshard/model/LimitsCheckPayloadPinLaw" = some m.cls := findClass_of_methodNamed Bd.named
  have hnm := (name_of_methodNamed Bd.named Bd.method).1
  have hlk := Bd.notSynchronized
  have X0 : Stand p l e room_1 (s.setVm s.vm) m #[(.int p0), (.int p1), (.int p2)] below meth c s₁ [] 0 0 := Stand.of_body Bd
  have e0 : s₁.heap = h0 := by rw [← hh, Bd.state]; rfl
  have N0 := Fr.nil n0
  show own_GW p.tables e below s (Q0 Z p0 p1 p2 h0 n0) room_1.cells room_1.slots _
  have hS0 : s.Since s.vm 0 := (State.WarmedH.refl s).since 0
  refine own_thrW (a := s₁.setTop (mkF m 0 #[.val (.int p0), .val (.int p1), .val (.int p2), .unset, .unset, .unset, .unset, .unset, .unset, .unset, .unset, .unset] [])) (fun t kt => castTop (ef_rm0 m p0 p1 p2) kt) ?_
  refine own_thrW (a := s₁.setTop (mkF m 1 #[.val (.int p0), .val (.int p1), .val (.int p2), .unset, .unset, .unset, .unset, .unset, .unset, .unset, .unset, .unset] [(.int (0 : Int32))])) (fun t kt => ?_) ?_
  · show Steps p.tables e below (s₁.setTop (mkF m 0 #[.val (.int p0), .val (.int p1), .val (.int p2), .unset, .unset, .unset, .unset, .unset, .unset, .unset, .unset, .unset] [])) _
    refine XS.iconst X0.here hx rfl (hb hby at_0) ?_
    exact kt
  obtain ⟨T1, h1, k1, X1, e1, E1, A1, st1⟩ := newP X0 hx hZ (hw _ (List.mem_of_getElem? (i := 0) rfl)) e0 (g := (mkF m 1 #[.val (.int p0), .val (.int p1), .val (.int p2), .unset, .unset, .unset, .unset, .unset, .unset, .unset, .unset, .unset] [(.int (0 : Int32))])) rfl (hb hby at_1) rfl (by decide) (cap := 0) (by decide) (by decide) (by decide : 0 + 1 ≤ _) (by decide : 0 + 0 ≤ _)
  obtain ⟨b1, g1⟩ : ∃ z, z = h0.size := ⟨_, rfl⟩
  rw [← g1] at A1 st1
  have g_b1 : n0 ≤ b1 := Nat.le_trans Z0 (Nat.le_of_eq g1.symm)
  have sz_b1 : h0.size ≤ b1 := Nat.le_trans (Nat.le_refl h0.size) (Nat.le_of_eq g1.symm)
  have V_b1 : Arv Z h1 b1 k1 .byte (0 : Int32) [] (.int (0 : Int32)) := Arv.new A1 (by decide)
  have Z2 : n0 ≤ h1.size := Nat.le_trans Z0 E1.1
  have Z2h : h0.size ≤ h1.size := Nat.le_trans (Nat.le_refl h0.size) E1.1
  refine own_thrW (a := T1.setTop (mkF m 3 #[.val (.int p0), .val (.int p1), .val (.int p2), .unset, .unset, .unset, .unset, .unset, .unset, .unset, .unset, .unset] [(.ref b1)])) (fun t kt => st1 t kt) ?_
  refine own_thrW (a := T1.setTop (mkF m 5 #[.val (.int p0), .val (.int p1), .val (.int p2), .val (.ref b1), .unset, .unset, .unset, .unset, .unset, .unset, .unset, .unset] [(.int (4 : Int32))])) (fun t kt => ?_) ?_
  · show Steps p.tables e below (T1.setTop (mkF m 3 #[.val (.int p0), .val (.int p1), .val (.int p2), .unset, .unset, .unset, .unset, .unset, .unset, .unset, .unset, .unset] [(.ref b1)])) _
    refine XS.astoreN X1.here hx rfl (hb hby at_3) rfl rfl (l' := #[.val (.int p0), .val (.int p1), .val (.int p2), .val (.ref b1), .unset, .unset, .unset, .unset, .unset, .unset, .unset, .unset]) rfl ?_
    refine XS.iconst X1.here hx rfl (hb hby at_4) ?_
    exact kt
  obtain ⟨T3, h3, k3, X3, e3, E3, A3, st3⟩ := newP X1 hx hZ (hw _ (List.mem_of_getElem? (i := 0) rfl)) e1 (g := (mkF m 5 #[.val (.int p0), .val (.int p1), .val (.int p2), .val (.ref b1), .unset, .unset, .unset, .unset, .unset, .unset, .unset, .unset] [(.int (4 : Int32))])) rfl (hb hby at_5) rfl (by decide) (cap := 4) (by decide) (by decide) (by decide : 1 + 1 ≤ _) (by decide : 0 + 4 ≤ _)
  obtain ⟨b3, g3⟩ : ∃ z, z = h1.size := ⟨_, rfl⟩
  rw [← g3] at A3 st3
  have g_b3 : n0 ≤ b3 := Nat.le_trans Z2 (Nat.le_of_eq g3.symm)
  have sz_b3 : h0.size ≤ b3 := Nat.le_trans Z2h (Nat.le_of_eq g3.symm)
  have lt_b1_b3 : b1 < b3 := Nat.lt_of_lt_of_le V_b1.lt (Nat.le_of_eq g3.symm)
  have ne_b1_b3 : b1 ≠ b3 := Nat.ne_of_lt lt_b1_b3
  have V_b3 : Arv Z h3 b3 k3 .byte (4 : Int32) [(.int (0 : Int32)), (.int (0 : Int32)), (.int (0 : Int32)), (.int (0 : Int32))] (.int (0 : Int32)) := (Arv.new A3 (by decide)).pad (pad_rep [] (.int (0 : Int32)) 4)
  have Z4 : n0 ≤ h3.size := Nat.le_trans Z2 E3.1
  have Z4h : h0.size ≤ h3.size := Nat.le_trans Z2h E3.1
  refine own_thrW (a := T3.setTop (mkF m 7 #[.val (.int p0), .val (.int p1), .val (.int p2), .val (.ref b1), .unset, .unset, .unset, .unset, .unset, .unset, .unset, .unset] [(.ref b3)])) (fun t kt => st3 t kt) ?_
  refine own_thrW (a := T3.setTop (mkF m 14 #[.val (.int p0), .val (.int p1), .val (.int p2), .val (.ref b1), .val (.ref b3), .unset, .unset, .unset, .unset, .unset, .unset, .unset] [(.int (p0.toInt8.toInt32)), (.int (0 : Int32)), (.ref b3)])) (fun t kt => ?_) ?_
  · show Steps p.tables e below (T3.setTop (mkF m 7 #[.val (.int p0), .val (.int p1), .val (.int p2), .val (.ref b1), .unset, .unset, .unset, .unset, .unset, .unset, .unset, .unset] [(.ref b3)])) _
    refine XS.astore X3.here hx rfl (hb hby at_7) rfl rfl (l' := #[.val (.int p0), .val (.int p1), .val (.int p2), .val (.ref b1), .val (.ref b3), .unset, .unset, .unset, .unset, .unset, .unset, .unset]) rfl ?_
    refine XS.aload X3.here hx rfl (hb hby at_9) rfl rfl ?_
    refine XS.iconst X3.here hx rfl (hb hby at_11) ?_
    refine XS.iloadN X3.here hx rfl (hb hby at_12) rfl ?_
    refine XS.i2b X3.here hx rfl (hb hby at_13) rfl ?_
    exact kt
  obtain ⟨cl5, Ar5, q5, S5, M5, H5, G5⟩ := id V_b3
  have hin5 : ¬ ((0 : Int32) < 0 ∨ cl5.slots.size ≤ ((0 : Int32)).toNatClampNeg) := inb_of S5 ⟨by decide, by decide⟩
  obtain ⟨T5, h5, X5, e5, W5, st5⟩ := stB X3 hx hZ e3 Ar5 (j := (0 : Int32)) hin5 (g := (mkF m 14 #[.val (.int p0), .val (.int p1), .val (.int p2), .val (.ref b1), .val (.ref b3), .unset, .unset, .unset, .unset, .unset, .unset, .unset] [(.int (p0.toInt8.toInt32)), (.int (0 : Int32)), (.ref b3)])) rfl rfl (hb hby at_14)
  have Z6 : n0 ≤ h5.size := Nat.le_trans Z4 (Nat.le_of_eq W5.size.symm)
  have Z6h : h0.size ≤ h5.size := Nat.le_trans Z4h (Nat.le_of_eq W5.size.symm)
  have V5 : Arv Z h5 b3 k3 .byte (4 : Int32) [(.int ((p0.toInt8.toInt32).toInt8.toInt32)), (.int (0 : Int32)), (.int (0 : Int32)), (.int (0 : Int32))] (.int (0 : Int32)) := Arv.set Ar5 q5 S5 M5 H5 G5 (fits_nar_byte _) W5 0 rfl (Nat.le_of_ble_eq_true rfl)
  obtain ⟨lc5, X5, N5⟩ := own_pack1 X5 N0 g_b3
  refine own_thrW (a := T5.setTop (mkF m 15 #[.val (.int p0), .val (.int p1), .val (.int p2), .val (.ref b1), .val (.ref b3), .unset, .unset, .unset, .unset, .unset, .unset, .unset] [])) (fun t kt => st5 t kt) ?_
  refine own_thrW (a := T5.setTop (mkF m 23 #[.val (.int p0), .val (.int p1), .val (.int p2), .val (.ref b1), .val (.ref b3), .unset, .unset, .unset, .unset, .unset, .unset, .unset] [(.int ((p0 >>> ((8 : Int32) &&& 31)).toInt8.toInt32)), (.int (1 : Int32)), (.ref b3)])) (fun t kt => ?_) ?_
  · show Steps p.tables e below (T5.setTop (mkF m 15 #[.val (.int p0), .val (.int p1), .val (.int p2), .val (.ref b1), .val (.ref b3), .unset, .unset, .unset, .unset, .unset, .unset, .unset] [])) _
    refine XS.aload X5.here hx rfl (hb hby at_15) rfl rfl ?_
    refine XS.iconst X5.here hx rfl (hb hby at_17) ?_
    refine XS.iloadN X5.here hx rfl (hb hby at_18) rfl ?_
    refine XS.bipush X5.here hx rfl (hb hby at_19) ?_
    refine XS.ishr X5.here hx rfl (hb hby at_21) rfl ?_
    refine XS.i2b X5.here hx rfl (hb hby at_22) rfl ?_
    exact kt
  obtain ⟨cl7, Ar7, q7, S7, M7, H7, G7⟩ := id V5
  have hin7 : ¬ ((1 : Int32) < 0 ∨ cl7.slots.size ≤ ((1 : Int32)).toNatClampNeg) := inb_of S7 ⟨by decide, by decide⟩
  obtain ⟨T7, h7, X7, e7, W7, st7⟩ := stB X5 hx hZ e5 Ar7 (j := (1 : Int32)) hin7 (g := (mkF m 23 #[.val (.int p0), .val (.int p1), .val (.int p2), .val (.ref b1), .val (.ref b3), .unset, .unset, .unset, .unset, .unset, .unset, .unset] [(.int ((p0 >>> ((8 : Int32) &&& 31)).toInt8.toInt32)), (.int (1 : Int32)), (.ref b3)])) rfl rfl (hb hby at_23)
  have Z8 : n0 ≤ h7.size := Nat.le_trans Z6 (Nat.le_of_eq W7.size.symm)
  have Z8h : h0.size ≤ h7.size := Nat.le_trans Z6h (Nat.le_of_eq W7.size.symm)
  have V7 : Arv Z h7 b3 k3 .byte (4 : Int32) [(.int ((p0.toInt8.toInt32).toInt8.toInt32)), (.int (((p0 >>> ((8 : Int32) &&& 31)).toInt8.toInt32).toInt8.toInt32)), (.int (0 : Int32)), (.int (0 : Int32))] (.int (0 : Int32)) := Arv.set Ar7 q7 S7 M7 H7 G7 (fits_nar_byte _) W7 1 rfl (Nat.le_of_ble_eq_true rfl)
  obtain ⟨lc7, X7, N7⟩ := own_pack1 X7 N5 g_b3
  refine own_thrW (a := T7.setTop (mkF m 24 #[.val (.int p0), .val (.int p1), .val (.int p2), .val (.ref b1), .val (.ref b3), .unset, .unset, .unset, .unset, .unset, .unset, .unset] [])) (fun t kt => st7 t kt) ?_
  refine own_thrW (a := T7.setTop (mkF m 29 #[.val (.int p0), .val (.int p1), .val (.int p2), .val (.ref b1), .val (.ref b3), .unset, .unset, .unset, .unset, .unset, .unset, .unset] [(.int (p1.toInt8.toInt32)), (.int (2 : Int32)), (.ref b3)])) (fun t kt => ?_) ?_
  · show Steps p.tables e below (T7.setTop (mkF m 24 #[.val (.int p0), .val (.int p1), .val (.int p2), .val (.ref b1), .val (.ref b3), .unset, .unset, .unset, .unset, .unset, .unset, .unset] [])) _
    refine XS.aload X7.here hx rfl (hb hby at_24) rfl rfl ?_
    refine XS.iconst X7.here hx rfl (hb hby at_26) ?_
    refine XS.iloadN X7.here hx rfl (hb hby at_27) rfl ?_
    refine XS.i2b X7.here hx rfl (hb hby at_28) rfl ?_
    exact kt
  obtain ⟨cl9, Ar9, q9, S9, M9, H9, G9⟩ := id V7
  have hin9 : ¬ ((2 : Int32) < 0 ∨ cl9.slots.size ≤ ((2 : Int32)).toNatClampNeg) := inb_of S9 ⟨by decide, by decide⟩
  obtain ⟨T9, h9, X9, e9, W9, st9⟩ := stB X7 hx hZ e7 Ar9 (j := (2 : Int32)) hin9 (g := (mkF m 29 #[.val (.int p0), .val (.int p1), .val (.int p2), .val (.ref b1), .val (.ref b3), .unset, .unset, .unset, .unset, .unset, .unset, .unset] [(.int (p1.toInt8.toInt32)), (.int (2 : Int32)), (.ref b3)])) rfl rfl (hb hby at_29)
  have Z10 : n0 ≤ h9.size := Nat.le_trans Z8 (Nat.le_of_eq W9.size.symm)
  have Z10h : h0.size ≤ h9.size := Nat.le_trans Z8h (Nat.le_of_eq W9.size.symm)
  have V9 : Arv Z h9 b3 k3 .byte (4 : Int32) [(.int ((p0.toInt8.toInt32).toInt8.toInt32)), (.int (((p0 >>> ((8 : Int32) &&& 31)).toInt8.toInt32).toInt8.toInt32)), (.int ((p1.toInt8.toInt32).toInt8.toInt32)), (.int (0 : Int32))] (.int (0 : Int32)) := Arv.set Ar9 q9 S9 M9 H9 G9 (fits_nar_byte _) W9 2 rfl (Nat.le_of_ble_eq_true rfl)
  obtain ⟨lc9, X9, N9⟩ := own_pack1 X9 N7 g_b3
  refine own_thrW (a := T9.setTop (mkF m 30 #[.val (.int p0), .val (.int p1), .val (.int p2), .val (.ref b1), .val (.ref b3), .unset, .unset, .unset, .unset, .unset, .unset, .unset] [])) (fun t kt => st9 t kt) ?_
  refine own_thrW (a := T9.setTop (mkF m 38 #[.val (.int p0), .val (.int p1), .val (.int p2), .val (.ref b1), .val (.ref b3), .unset, .unset, .unset, .unset, .unset, .unset, .unset] [(.int ((p1 >>> ((24 : Int32) &&& 31)).toInt8.toInt32)), (.int (3 : Int32)), (.ref b3)])) (fun t kt => ?_) ?_
  · show Steps p.tables e below (T9.setTop (mkF m 30 #[.val (.int p0), .val (.int p1), .val (.int p2), .val (.ref b1), .val (.ref b3), .unset, .unset, .unset, .unset, .unset, .unset, .unset] [])) _
    refine XS.aload X9.here hx rfl (hb hby at_30) rfl rfl ?_
    refine XS.iconst X9.here hx rfl (hb hby at_32) ?_
    refine XS.iloadN X9.here hx rfl (hb hby at_33) rfl ?_
    refine XS.bipush X9.here hx rfl (hb hby at_34) ?_
    refine XS.ishr X9.here hx rfl (hb hby at_36) rfl ?_
    refine XS.i2b X9.here hx rfl (hb hby at_37) rfl ?_
    exact kt
  obtain ⟨cl11, Ar11, q11, S11, M11, H11, G11⟩ := id V9
  have hin11 : ¬ ((3 : Int32) < 0 ∨ cl11.slots.size ≤ ((3 : Int32)).toNatClampNeg) := inb_of S11 ⟨by decide, by decide⟩
  obtain ⟨T11, h11, X11, e11, W11, st11⟩ := stB X9 hx hZ e9 Ar11 (j := (3 : Int32)) hin11 (g := (mkF m 38 #[.val (.int p0), .val (.int p1), .val (.int p2), .val (.ref b1), .val (.ref b3), .unset, .unset, .unset, .unset, .unset, .unset, .unset] [(.int ((p1 >>> ((24 : Int32) &&& 31)).toInt8.toInt32)), (.int (3 : Int32)), (.ref b3)])) rfl rfl (hb hby at_38)
  have Z12 : n0 ≤ h11.size := Nat.le_trans Z10 (Nat.le_of_eq W11.size.symm)
  have Z12h : h0.size ≤ h11.size := Nat.le_trans Z10h (Nat.le_of_eq W11.size.symm)
  have V11 : Arv Z h11 b3 k3 .byte (4 : Int32) [(.int ((p0.toInt8.toInt32).toInt8.toInt32)), (.int (((p0 >>> ((8 : Int32) &&& 31)).toInt8.toInt32).toInt8.toInt32)), (.int ((p1.toInt8.toInt32).toInt8.toInt32)), (.int (((p1 >>> ((24 : Int32) &&& 31)).toInt8.toInt32).toInt8.toInt32))] (.int (0 : Int32)) := Arv.set Ar11 q11 S11 M11 H11 G11 (fits_nar_byte _) W11 3 rfl (Nat.le_of_ble_eq_true rfl)
  obtain ⟨lc11, X11, N11⟩ := own_pack1 X11 N9 g_b3
  refine own_thrW (a := T11.setTop (mkF m 39 #[.val (.int p0), .val (.int p1), .val (.int p2), .val (.ref b1), .val (.ref b3), .unset, .unset, .unset, .unset, .unset, .unset, .unset] [])) (fun t kt => st11 t kt) ?_
  refine own_thrW (a := T11.setTop (mkF m 41 #[.val (.int p0), .val (.int p1), .val (.int p2), .val (.ref b1), .val (.ref b3), .unset, .unset, .unset, .unset, .unset, .unset, .unset] [(.int (65536 : Int32))])) (fun t kt => ?_) ?_
  · show Steps p.tables e below (T11.setTop (mkF m 39 #[.val (.int p0), .val (.int p1), .val (.int p2), .val (.ref b1), .val (.ref b3), .unset, .unset, .unset, .unset, .unset, .unset, .unset] [])) _
    refine X11.ldcInt hx hown (mvT hZ (hw _ (List.mem_of_getElem? (i := 1) rfl))) (g := (mkF m 39 #[.val (.int p0), .val (.int p1), .val (.int p2), .val (.ref b1), .val (.ref b3), .unset, .unset, .unset, .unset, .unset, .unset, .unset] [])) rfl (hb hby at_39) _ ?_
    exact kt
  have c14 := (((((V_b1.ext E3).other W5 ne_b1_b3).other W7 ne_b1_b3).other W9 ne_b1_b3).other W11 ne_b1_b3)
  obtain ⟨T13, h13, k13, X13, e13, E13, A13, st13⟩ := newP X11 hx hZ (hw _ (List.mem_of_getElem? (i := 0) rfl)) e11 (g := (mkF m 41 #[.val (.int p0), .val (.int p1), .val (.int p2), .val (.ref b1), .val (.ref b3), .unset, .unset, .unset, .unset, .unset, .unset, .unset] [(.int (65536 : Int32))])) rfl (hb hby at_41) rfl (by decide) (cap := 65536) (by decide) (by decide) (by decide : 2 + 1 ≤ _) (by decide : 4 + 65536 ≤ _)
  obtain ⟨b13, g13⟩ : ∃ z, z = h11.size := ⟨_, rfl⟩
  rw [← g13] at A13 st13
  have g_b13 : n0 ≤ b13 := Nat.le_trans Z12 (Nat.le_of_eq g13.symm)
  have sz_b13 : h0.size ≤ b13 := Nat.le_trans Z12h (Nat.le_of_eq g13.symm)
  have lt_b1_b13 : b1 < b13 := Nat.lt_of_lt_of_le c14.lt (Nat.le_of_eq g13.symm)
  have ne_b1_b13 : b1 ≠ b13 := Nat.ne_of_lt lt_b1_b13
  have lt_b3_b13 : b3 < b13 := Nat.lt_of_lt_of_le V11.lt (Nat.le_of_eq g13.symm)
  have ne_b3_b13 : b3 ≠ b13 := Nat.ne_of_lt lt_b3_b13
  have V_b13 : Arv Z h13 b13 k13 .byte (65536 : Int32) [] (.int (0 : Int32)) := Arv.new A13 (by decide)
  have Z15 : n0 ≤ h13.size := Nat.le_trans Z12 E13.1
  have Z15h : h0.size ≤ h13.size := Nat.le_trans Z12h E13.1
  refine own_thrW (a := T13.setTop (mkF m 43 #[.val (.int p0), .val (.int p1), .val (.int p2), .val (.ref b1), .val (.ref b3), .unset, .unset, .unset, .unset, .unset, .unset, .unset] [(.ref b13)])) (fun t kt => st13 t kt) ?_
  refine own_thrW (a := T13.setTop (mkF m 50 #[.val (.int p0), .val (.int p1), .val (.int p2), .val (.ref b1), .val (.ref b3), .val (.ref b13), .unset, .unset, .unset, .unset, .unset, .unset] [(.int (p2.toInt8.toInt32)), (.int (0 : Int32)), (.ref b13)])) (fun t kt => ?_) ?_
  · show Steps p.tables e below (T13.setTop (mkF m 43 #[.val (.int p0), .val (.int p1), .val (.int p2), .val (.ref b1), .val (.ref b3), .unset, .unset, .unset, .unset, .unset, .unset, .unset] [(.ref b13)])) _
    refine XS.astore X13.here hx rfl (hb hby at_43) rfl rfl (l' := #[.val (.int p0), .val (.int p1), .val (.int p2), .val (.ref b1), .val (.ref b3), .val (.ref b13), .unset, .unset, .unset, .unset, .unset, .unset]) rfl ?_
    refine XS.aload X13.here hx rfl (hb hby at_45) rfl rfl ?_
    refine XS.iconst X13.here hx rfl (hb hby at_47) ?_
    refine XS.iloadN X13.here hx rfl (hb hby at_48) rfl ?_
    refine XS.i2b X13.here hx rfl (hb hby at_49) rfl ?_
    exact kt
  obtain ⟨cl16, Ar16, q16, S16, M16, H16, G16⟩ := id V_b13
  have hin16 : ¬ ((0 : Int32) < 0 ∨ cl16.slots.size ≤ ((0 : Int32)).toNatClampNeg) := inb_of S16 ⟨by decide, by decide⟩
  obtain ⟨T16, h16, X16, e16, W16, st16⟩ := stB X13 hx hZ e13 Ar16 (j := (0 : Int32)) hin16 (g := (mkF m 50 #[.val (.int p0), .val (.int p1), .val (.int p2), .val (.ref b1), .val (.ref b3), .val (.ref b13), .unset, .unset, .unset, .unset, .unset, .unset] [(.int (p2.toInt8.toInt32)), (.int (0 : Int32)), (.ref b13)])) rfl rfl (hb hby at_50)
  have Z17 : n0 ≤ h16.size := Nat.le_trans Z15 (Nat.le_of_eq W16.size.symm)
  have Z17h : h0.size ≤ h16.size := Nat.le_trans Z15h (Nat.le_of_eq W16.size.symm)
  have V16 : Arh Z h16 b13 k13 .byte (65536 : Int32) [((0 : Int32), (.int ((p2.toInt8.toInt32).toInt8.toInt32)))] [] (.int (0 : Int32)) := Arh.push (hs := []) Ar16 q16 S16 M16 H16 G16 (fits_nar_byte _) W16 hin16
  obtain ⟨lc16, X16, N16⟩ := own_pack1 X16 N11 g_b13
  refine own_thrW (a := T16.setTop (mkF m 51 #[.val (.int p0), .val (.int p1), .val (.int p2), .val (.ref b1), .val (.ref b3), .val (.ref b13), .unset, .unset, .unset, .unset, .unset, .unset] [])) (fun t kt => st16 t kt) ?_
  refine own_thrW (a := T16.setTop (mkF m 60 #[.val (.int p0), .val (.int p1), .val (.int p2), .val (.ref b1), .val (.ref b3), .val (.ref b13), .unset, .unset, .unset, .unset, .unset, .unset] [(.int ((p2 >>> ((8 : Int32) &&& 31)).toInt8.toInt32)), (.int (65535 : Int32)), (.ref b13)])) (fun t kt => ?_) ?_
  · show Steps p.tables e below (T16.setTop (mkF m 51 #[.val (.int p0), .val (.int p1), .val (.int p2), .val (.ref b1), .val (.ref b3), .val (.ref b13), .unset, .unset, .unset, .unset, .unset, .unset] [])) _
    refine XS.aload X16.here hx rfl (hb hby at_51) rfl rfl ?_
    refine X16.ldcInt hx hown (mvT hZ (hw _ (List.mem_of_getElem? (i := 2) rfl))) (g := (mkF m 53 #[.val (.int p0), .val (.int p1), .val (.int p2), .val (.ref b1), .val (.ref b3), .val (.ref b13), .unset, .unset, .unset, .unset, .unset, .unset] [(.ref b13)])) rfl (hb hby at_53) _ ?_
    refine XS.iloadN X16.here hx rfl (hb hby at_55) rfl ?_
    refine XS.bipush X16.here hx rfl (hb hby at_56) ?_
    refine XS.ishr X16.here hx rfl (hb hby at_58) rfl ?_
    refine XS.i2b X16.here hx rfl (hb hby at_59) rfl ?_
    exact kt
  obtain ⟨cl18, Ar18, q18, S18, M18, H18, G18⟩ := id V16
  have hin18 : ¬ ((65535 : Int32) < 0 ∨ cl18.slots.size ≤ ((65535 : Int32)).toNatClampNeg) := inb_of S18 ⟨by decide, by decide⟩
  obtain ⟨T18, h18, X18, e18, W18, st18⟩ := stB X16 hx hZ e16 Ar18 (j := (65535 : Int32)) hin18 (g := (mkF m 60 #[.val (.int p0), .val (.int p1), .val (.int p2), .val (.ref b1), .val (.ref b3), .val (.ref b13), .unset, .unset, .unset, .unset, .unset, .unset] [(.int ((p2 >>> ((8 : Int32) &&& 31)).toInt8.toInt32)), (.int (65535 : Int32)), (.ref b13)])) rfl rfl (hb hby at_60)
  have Z19 : n0 ≤ h18.size := Nat.le_trans Z17 (Nat.le_of_eq W18.size.symm)
  have Z19h : h0.size ≤ h18.size := Nat.le_trans Z17h (Nat.le_of_eq W18.size.symm)
  have V18 : Arh Z h18 b13 k13 .byte (65536 : Int32) [((65535 : Int32), (.int (((p2 >>> ((8 : Int32) &&& 31)).toInt8.toInt32).toInt8.toInt32))), ((0 : Int32), (.int ((p2.toInt8.toInt32).toInt8.toInt32)))] [] (.int (0 : Int32)) := Arh.push (hs := [((0 : Int32), (.int ((p2.toInt8.toInt32).toInt8.toInt32)))]) Ar18 q18 S18 M18 H18 G18 (fits_nar_byte _) W18 hin18
  obtain ⟨lc18, X18, N18⟩ := own_pack1 X18 N16 g_b13
  refine own_thrW (a := T18.setTop (mkF m 61 #[.val (.int p0), .val (.int p1), .val (.int p2), .val (.ref b1), .val (.ref b3), .val (.ref b13), .unset, .unset, .unset, .unset, .unset, .unset] [])) (fun t kt => st18 t kt) ?_
  refine own_thrW (a := T18.setTop (mkF m 62 #[.val (.int p0), .val (.int p1), .val (.int p2), .val (.ref b1), .val (.ref b3), .val (.ref b13), .unset, .unset, .unset, .unset, .unset, .unset] [(.ref b1)])) (fun t kt => ?_) ?_
  · show Steps p.tables e below (T18.setTop (mkF m 61 #[.val (.int p0), .val (.int p1), .val (.int p2), .val (.ref b1), .val (.ref b3), .val (.ref b13), .unset, .unset, .unset, .unset, .unset, .unset] [])) _
    refine XS.aloadN X18.here hx rfl (hb hby at_61) rfl rfl ?_
    exact kt
  obtain ⟨clv21, Arv21, -, Sv21, Mv21, -, -⟩ := id (((c14.ext E13).other W16 ne_b1_b13).other W18 ne_b1_b13)
  obtain ⟨_, _, ⟨T20, L20, k20, n20⟩, -, X20, hSq20, hgr20, ⟨Lc20, hQ20, l20, y20, z20⟩, st20⟩ := callSS X18 hx (y := (⟨"com/example/chronoshard/chronoshard/model/Limits", "checkPayload", "([B)[B"⟩ : MethodName)) hown (mvT hZ (hw _ (List.mem_of_getElem? (i := 3) rfl))) (mvT hZ (hw _ (List.mem_of_getElem? (i := 4) rfl))) (mvT hZ (hw _ (List.mem_of_getElem? (i := 5) rfl))) (mvT hZ (hw _ (List.mem_of_getElem? (i := 6) rfl))) (by decide) (backOfS (W := 0) (rmC l Z a0 hw [] b1 clv21 (0 : Int32) h18 n0 Z19 Arv21 Sv21 Mv21 (by decide)) hZ (hw _ (List.mem_of_getElem? (i := 6) rfl)) (hw _ (List.mem_of_getElem? (i := 5) rfl)) (by decide) (by decide)) (g := (mkF m 62 #[.val (.int p0), .val (.int p1), .val (.int p2), .val (.ref b1), .val (.ref b3), .val (.ref b13), .unset, .unset, .unset, .unset, .unset, .unset] [(.ref b1)])) rfl (by rw [hml]; rfl) (argsL := [(.ref b1)]) (rest := []) (lenOf pd__28_5bB_29_5bB rfl) rfl (by show 2 * 0 + _ ≤ _; exact Nat.le_of_eq rfl) (hb hby at_62) (fun _ _ => ⟨rfl, e18, (by decide : 3 + 2 ≤ _), (by decide : 65540 + 32 ≤ _)⟩)
  dsimp only [Pt.U, Pt.locs, Pt.cells, Pt.slots] at X20 l20 y20 z20 st20 hQ20 hSq20 hgr20
  have hS20 := hS0.trans hSq20 (Nat.le_trans (by rw [e18]; exact (Nat.zero_le _)) hgr20)
  have hZ20 : Z.Warmed39 (s.setVm T20.vm).vm := State.Warmed39.trans (t := s.setVm s.vm) hZ hSq20.1
  have hown20 : (s.setVm T20.vm).vm.findClass "com/example/chronoshard/chronoshard/model/LimitsCheckPayloadPinLaw" = some m.cls := by rw [show (s.setVm T20.vm).vm = T20.vm from rfl, hSq20.1.alike.findClass]; exact hown
  have X20 : Stand p l e room_1 (s.setVm T20.vm) m #[(.int p0), (.int p1), (.int p2)] below meth c T20 _ _ _ := X20
  obtain ⟨rfl, N20q, K20⟩ := hQ20
  have Z22 : n0 ≤ T20.heap.size := Nat.le_trans Z19 K20.1
  have Z22h : h0.size ≤ T20.heap.size := Nat.le_trans Z19h K20.1
  obtain ⟨lc20, X20, N20⟩ := own_pack X20 l20 y20 z20 N18 N20q (C := 5) (S' := 65572) rfl rfl
  refine own_thrW (a := T20.setTop (mkF m 65 #[.val (.int p0), .val (.int p1), .val (.int p2), .val (.ref b1), .val (.ref b3), .val (.ref b13), .unset, .unset, .unset, .unset, .unset, .unset] [(.ref b1)])) (fun t kt => st20.trans kt) ?_
  refine own_thrW (a := T20.setTop (mkF m 69 #[.val (.int p0), .val (.int p1), .val (.int p2), .val (.ref b1), .val (.ref b3), .val (.ref b13), .val (.ref b1), .unset, .unset, .unset, .unset, .unset] [(.ref b3)])) (fun t kt => ?_) ?_
  · show Steps p.tables e below (T20.setTop (mkF m 65 #[.val (.int p0), .val (.int p1), .val (.int p2), .val (.ref b1), .val (.ref b3), .val (.ref b13), .unset, .unset, .unset, .unset, .unset, .unset] [(.ref b1)])) _
    refine XS.astore X20.here hx rfl (hb hby at_65) rfl rfl (l' := #[.val (.int p0), .val (.int p1), .val (.int p2), .val (.ref b1), .val (.ref b3), .val (.ref b13), .val (.ref b1), .unset, .unset, .unset, .unset, .unset]) rfl ?_
    refine XS.aload X20.here hx rfl (hb hby at_67) rfl rfl ?_
    exact kt
  have c25 := ((((V11.ext E13).other W16 ne_b3_b13).other W18 ne_b3_b13).keep K20 nin0)
  obtain ⟨clv24, Arv24, -, Sv24, Mv24, -, -⟩ := id c25
  obtain ⟨_, _, ⟨T23, L23, k23, n23⟩, -, X23, hSq23, hgr23, ⟨Lc23, hQ23, l23, y23, z23⟩, st23⟩ := callSS X20 hx (y := (⟨"com/example/chronoshard/chronoshard/model/Limits", "checkPayload", "([B)[B"⟩ : MethodName)) hown20 (mvT hZ20 (hw _ (List.mem_of_getElem? (i := 3) rfl))) (mvT hZ20 (hw _ (List.mem_of_getElem? (i := 4) rfl))) (mvT hZ20 (hw _ (List.mem_of_getElem? (i := 5) rfl))) (mvT hZ20 (hw _ (List.mem_of_getElem? (i := 6) rfl))) (by decide) (backOfS (W := 0) (rmC l Z a0 hw [] b3 clv24 (4 : Int32) T20.heap n0 Z22 Arv24 Sv24 Mv24 (by decide)) hZ20 (hw _ (List.mem_of_getElem? (i := 6) rfl)) (hw _ (List.mem_of_getElem? (i := 5) rfl)) (by decide) (by decide)) (g := (mkF m 69 #[.val (.int p0), .val (.int p1), .val (.int p2), .val (.ref b1), .val (.ref b3), .val (.ref b13), .val (.ref b1), .unset, .unset, .unset, .unset, .unset] [(.ref b3)])) rfl (by rw [hml]; rfl) (argsL := [(.ref b3)]) (rest := []) (lenOf pd__28_5bB_29_5bB rfl) rfl (by show 2 * 0 + _ ≤ _; exact Nat.le_of_eq rfl) (hb hby at_69) (fun _ _ => ⟨rfl, rfl, (by decide : 5 + 2 ≤ _), (by decide : 65572 + 32 ≤ _)⟩)
  dsimp only [Pt.U, Pt.locs, Pt.cells, Pt.slots] at X23 l23 y23 z23 st23 hQ23 hSq23 hgr23
  have hS23 := hS20.trans hSq23 (Nat.le_trans (Nat.le_refl _) hgr23)
  have hZ23 : Z.Warmed39 (s.setVm T23.vm).vm := State.Warmed39.trans (t := s.setVm T20.vm) hZ20 hSq23.1
  have hown23 : (s.setVm T23.vm).vm.findClass "com/example/chronoshard/chronoshard/model/LimitsCheckPayloadPinLaw" = some m.cls := by rw [show (s.setVm T23.vm).vm = T23.vm from rfl, hSq23.1.alike.findClass]; exact hown20
  have X23 : Stand p l e room_1 (s.setVm T23.vm) m #[(.int p0), (.int p1), (.int p2)] below meth c T23 _ _ _ := X23
  obtain ⟨rfl, N23q, K23⟩ := hQ23
  have Z26 : n0 ≤ T23.heap.size := Nat.le_trans Z22 K23.1
  have Z26h : h0.size ≤ T23.heap.size := Nat.le_trans Z22h K23.1
  obtain ⟨lc23, X23, N23⟩ := own_pack X23 l23 y23 z23 N20 N23q (C := 7) (S' := 65604) rfl rfl
  refine own_thrW (a := T23.setTop (mkF m 72 #[.val (.int p0), .val (.int p1), .val (.int p2), .val (.ref b1), .val (.ref b3), .val (.ref b13), .val (.ref b1), .unset, .unset, .unset, .unset, .unset] [(.ref b3)])) (fun t kt => st23.trans kt) ?_
  refine own_thrW (a := T23.setTop (mkF m 76 #[.val (.int p0), .val (.int p1), .val (.int p2), .val (.ref b1), .val (.ref b3), .val (.ref b13), .val (.ref b1), .val (.ref b3), .unset, .unset, .unset, .unset] [(.ref b13)])) (fun t kt => ?_) ?_
  · show Steps p.tables e below (T23.setTop (mkF m 72 #[.val (.int p0), .val (.int p1), .val (.int p2), .val (.ref b1), .val (.ref b3), .val (.ref b13), .val (.ref b1), .unset, .unset, .unset, .unset, .unset] [(.ref b3)])) _
    refine XS.astore X23.here hx rfl (hb hby at_72) rfl rfl (l' := #[.val (.int p0), .val (.int p1), .val (.int p2), .val (.ref b1), .val (.ref b3), .val (.ref b13), .val (.ref b1), .val (.ref b3), .unset, .unset, .unset, .unset]) rfl ?_
    refine XS.aload X23.here hx rfl (hb hby at_74) rfl rfl ?_
    exact kt
  obtain ⟨clv28, Arv28, -, Sv28, Mv28, -, -⟩ := id ((V18.keep K20 nin0).keep K23 nin0)
  obtain ⟨_, _, ⟨T27, L27, k27, n27⟩, -, X27, hSq27, hgr27, ⟨Lc27, hQ27, l27, y27, z27⟩, st27⟩ := callSS X23 hx (y := (⟨"com/example/chronoshard/chronoshard/model/Limits", "checkPayload", "([B)[B"⟩ : MethodName)) hown23 (mvT hZ23 (hw _ (List.mem_of_getElem? (i := 3) rfl))) (mvT hZ23 (hw _ (List.mem_of_getElem? (i := 4) rfl))) (mvT hZ23 (hw _ (List.mem_of_getElem? (i := 5) rfl))) (mvT hZ23 (hw _ (List.mem_of_getElem? (i := 6) rfl))) (by decide) (backOfS (W := 0) (rmC l Z a0 hw [] b13 clv28 (65536 : Int32) T23.heap n0 Z26 Arv28 Sv28 Mv28 (by decide)) hZ23 (hw _ (List.mem_of_getElem? (i := 6) rfl)) (hw _ (List.mem_of_getElem? (i := 5) rfl)) (by decide) (by decide)) (g := (mkF m 76 #[.val (.int p0), .val (.int p1), .val (.int p2), .val (.ref b1), .val (.ref b3), .val (.ref b13), .val (.ref b1), .val (.ref b3), .unset, .unset, .unset, .unset] [(.ref b13)])) rfl (by rw [hml]; rfl) (argsL := [(.ref b13)]) (rest := []) (lenOf pd__28_5bB_29_5bB rfl) rfl (by show 2 * 0 + _ ≤ _; exact Nat.le_of_eq rfl) (hb hby at_76) (fun _ _ => ⟨rfl, rfl, (by decide : 7 + 2 ≤ _), (by decide : 65604 + 32 ≤ _)⟩)
  dsimp only [Pt.U, Pt.locs, Pt.cells, Pt.slots] at X27 l27 y27 z27 st27 hQ27 hSq27 hgr27
  have hS27 := hS23.trans hSq27 (Nat.le_trans (Nat.le_refl _) hgr27)
  have hZ27 : Z.Warmed39 (s.setVm T27.vm).vm := State.Warmed39.trans (t := s.setVm T23.vm) hZ23 hSq27.1
  have hown27 : (s.setVm T27.vm).vm.findClass "com/example/chronoshard/chronoshard/model/LimitsCheckPayloadPinLaw" = some m.cls := by rw [show (s.setVm T27.vm).vm = T27.vm from rfl, hSq27.1.alike.findClass]; exact hown23
  have X27 : Stand p l e room_1 (s.setVm T27.vm) m #[(.int p0), (.int p1), (.int p2)] below meth c T27 _ _ _ := X27
  obtain ⟨rfl, N27q, K27⟩ := hQ27
  have Z29 : n0 ≤ T27.heap.size := Nat.le_trans Z26 K27.1
  have Z29h : h0.size ≤ T27.heap.size := Nat.le_trans Z26h K27.1
  obtain ⟨lc27, X27, N27⟩ := own_pack X27 l27 y27 z27 N23 N27q (C := 9) (S' := 65636) rfl rfl
  refine own_thrW (a := T27.setTop (mkF m 79 #[.val (.int p0), .val (.int p1), .val (.int p2), .val (.ref b1), .val (.ref b3), .val (.ref b13), .val (.ref b1), .val (.ref b3), .unset, .unset, .unset, .unset] [(.ref b13)])) (fun t kt => st27.trans kt) ?_
  refine own_thrW (a := T27.setTop (mkF m 84 #[.val (.int p0), .val (.int p1), .val (.int p2), .val (.ref b1), .val (.ref b3), .val (.ref b13), .val (.ref b1), .val (.ref b3), .val (.ref b13), .unset, .unset, .unset] [(.ref b1), (.ref b1)])) (fun t kt => ?_) ?_
  · show Steps p.tables e below (T27.setTop (mkF m 79 #[.val (.int p0), .val (.int p1), .val (.int p2), .val (.ref b1), .val (.ref b3), .val (.ref b13), .val (.ref b1), .val (.ref b3), .unset, .unset, .unset, .unset] [(.ref b13)])) _
    refine XS.astore X27.here hx rfl (hb hby at_79) rfl rfl (l' := #[.val (.int p0), .val (.int p1), .val (.int p2), .val (.ref b1), .val (.ref b3), .val (.ref b13), .val (.ref b1), .val (.ref b3), .val (.ref b13), .unset, .unset, .unset]) rfl ?_
    refine XS.aload X27.here hx rfl (hb hby at_81) rfl rfl ?_
    refine XS.aloadN X27.here hx rfl (hb hby at_83) rfl rfl ?_
    exact kt
  refine own_thrW (a := T27.setTop (mkF m 89 #[.val (.int p0), .val (.int p1), .val (.int p2), .val (.ref b1), .val (.ref b3), .val (.ref b13), .val (.ref b1), .val (.ref b3), .val (.ref b13), .unset, .unset, .unset] [(.ref b1)])) (fun t kt => ?_) ?_
  · show Steps p.tables e below (T27.setTop (mkF m 84 #[.val (.int p0), .val (.int p1), .val (.int p2), .val (.ref b1), .val (.ref b3), .val (.ref b13), .val (.ref b1), .val (.ref b3), .val (.ref b13), .unset, .unset, .unset] [(.ref b1), (.ref b1)])) _
    refine Jvm.RoadKit.acmp (g := (mkF m 84 #[.val (.int p0), .val (.int p1), .val (.int p2), .val (.ref b1), .val (.ref b3), .val (.ref b13), .val (.ref b1), .val (.ref b3), .val (.ref b13), .unset, .unset, .unset] [(.ref b1), (.ref b1)])) X27 hx rfl rfl rfl (pc0 := 84) (pc' := 87) (same := true) rfl (hb hby at_84) rfl (decide_eq_true rfl) (by decide) (by decide) ?_
    refine XS.aload X27.here hx rfl (hb hby at_87) rfl rfl ?_
    exact kt
  have c31 := ((((((c14.ext E13).other W16 ne_b1_b13).other W18 ne_b1_b13).keep K20 nin0).keep K23 nin0).keep K27 nin0)
  obtain ⟨cl30, Ar30, -, S30, M30, -, -⟩ := id c31
  refine own_thrW (a := T27.setTop (mkF m 104 #[.val (.int p0), .val (.int p1), .val (.int p2), .val (.ref b1), .val (.ref b3), .val (.ref b13), .val (.ref b1), .val (.ref b3), .val (.ref b13), .val (.int (1 : Int32)), .unset, .unset] [(.ref b3), (.ref b3)])) (fun t kt => ?_) ?_
  · show Steps p.tables e below (T27.setTop (mkF m 89 #[.val (.int p0), .val (.int p1), .val (.int p2), .val (.ref b1), .val (.ref b3), .val (.ref b13), .val (.ref b1), .val (.ref b3), .val (.ref b13), .unset, .unset, .unset] [(.ref b1)])) _
    refine X27.arraylength hx Ar30.1 (State.isArrayOf_alike hZ27.alike Ar30.2.1) (g := (mkF m 89 #[.val (.int p0), .val (.int p1), .val (.int p2), .val (.ref b1), .val (.ref b3), .val (.ref b13), .val (.ref b1), .val (.ref b3), .val (.ref b13), .unset, .unset, .unset] [(.ref b1)])) rfl rfl (hb hby at_89) _ ?_
    rw [len_of S30 M30]
    refine XS.ifNo X27.here hx rfl (hb hby at_90) rfl ((if0 _ _).trans (teq rfl).2) ?_
    refine XS.iconst X27.here hx rfl (hb hby at_93) ?_
    refine XS.goto X27.here hx rfl (pc0 := 94) (pc' := 98) rfl (hb hby at_94) (by decide) (by decide) ?_
    refine XS.istore X27.here hx rfl (hb hby at_98) rfl (l' := #[.val (.int p0), .val (.int p1), .val (.int p2), .val (.ref b1), .val (.ref b3), .val (.ref b13), .val (.ref b1), .val (.ref b3), .val (.ref b13), .val (.int (1 : Int32)), .unset, .unset]) rfl ?_
    refine XS.aload X27.here hx rfl (hb hby at_100) rfl rfl ?_
    refine XS.aload X27.here hx rfl (hb hby at_102) rfl rfl ?_
    exact kt
  refine own_thrW (a := T27.setTop (mkF m 109 #[.val (.int p0), .val (.int p1), .val (.int p2), .val (.ref b1), .val (.ref b3), .val (.ref b13), .val (.ref b1), .val (.ref b3), .val (.ref b13), .val (.int (1 : Int32)), .unset, .unset] [(.ref b3)])) (fun t kt => ?_) ?_
  · show Steps p.tables e below (T27.setTop (mkF m 104 #[.val (.int p0), .val (.int p1), .val (.int p2), .val (.ref b1), .val (.ref b3), .val (.ref b13), .val (.ref b1), .val (.ref b3), .val (.ref b13), .val (.int (1 : Int32)), .unset, .unset] [(.ref b3), (.ref b3)])) _
    refine Jvm.RoadKit.acmp (g := (mkF m 104 #[.val (.int p0), .val (.int p1), .val (.int p2), .val (.ref b1), .val (.ref b3), .val (.ref b13), .val (.ref b1), .val (.ref b3), .val (.ref b13), .val (.int (1 : Int32)), .unset, .unset] [(.ref b3), (.ref b3)])) X27 hx rfl rfl rfl (pc0 := 104) (pc' := 107) (same := true) rfl (hb hby at_104) rfl (decide_eq_true rfl) (by decide) (by decide) ?_
    refine XS.aload X27.here hx rfl (hb hby at_107) rfl rfl ?_
    exact kt
  obtain ⟨cl32, Ar32, -, S32, M32, -, -⟩ := id ((c25.keep K23 nin0).keep K27 nin0)
  refine own_thrW (a := T27.setTop (mkF m 117 #[.val (.int p0), .val (.int p1), .val (.int p2), .val (.ref b1), .val (.ref b3), .val (.ref b13), .val (.ref b1), .val (.ref b3), .val (.ref b13), .val (.int (1 : Int32)), .unset, .unset] [(.int (0 : Int32)), (.ref b3)])) (fun t kt => ?_) ?_
  · show Steps p.tables e below (T27.setTop (mkF m 109 #[.val (.int p0), .val (.int p1), .val (.int p2), .val (.ref b1), .val (.ref b3), .val (.ref b13), .val (.ref b1), .val (.ref b3), .val (.ref b13), .val (.int (1 : Int32)), .unset, .unset] [(.ref b3)])) _
    refine X27.arraylength hx Ar32.1 (State.isArrayOf_alike hZ27.alike Ar32.2.1) (g := (mkF m 109 #[.val (.int p0), .val (.int p1), .val (.int p2), .val (.ref b1), .val (.ref b3), .val (.ref b13), .val (.ref b1), .val (.ref b3), .val (.ref b13), .val (.int (1 : Int32)), .unset, .unset] [(.ref b3)])) rfl rfl (hb hby at_109) _ ?_
    rw [len_of S32 M32]
    refine XS.iconst X27.here hx rfl (hb hby at_110) ?_
    refine XS.icmpNo X27.here hx rfl (hb hby at_111) rfl (teq rfl).2 ?_
    refine XS.aload X27.here hx rfl (hb hby at_114) rfl rfl ?_
    refine XS.iconst X27.here hx rfl (hb hby at_116) ?_
    exact kt
  obtain ⟨cl33, Ar33, -, S33, M33, H33, -⟩ := id ((c25.keep K23 nin0).keep K27 nin0)
  have hin33 : ¬ ((0 : Int32) < 0 ∨ cl33.slots.size ≤ ((0 : Int32)).toNatClampNeg) := inb_of S33 ⟨by decide, by decide⟩
  have hat33 : cl33.slots[((0 : Int32)).toNatClampNeg]? = some (.int ((p0.toInt8.toInt32).toInt8.toInt32)) := Has.at H33 hin33 rfl
  refine own_thrW (a := T27.setTop (mkF m 126 #[.val (.int p0), .val (.int p1), .val (.int p2), .val (.ref b1), .val (.ref b3), .val (.ref b13), .val (.ref b1), .val (.ref b3), .val (.ref b13), .val (.int (1 : Int32)), .unset, .unset] [(.int (1 : Int32)), (.ref b3)])) (fun t kt => ?_) ?_
  · show Steps p.tables e below (T27.setTop (mkF m 117 #[.val (.int p0), .val (.int p1), .val (.int p2), .val (.ref b1), .val (.ref b3), .val (.ref b13), .val (.ref b1), .val (.ref b3), .val (.ref b13), .val (.int (1 : Int32)), .unset, .unset] [(.int (0 : Int32)), (.ref b3)])) _
    refine X27.baloadBytes hx (j := (0 : Int32)) (v := (.int ((p0.toInt8.toInt32).toInt8.toInt32))) Ar33.1 (State.isArrayOf_alike hZ27.alike Ar33.2.1) Ar33.2.2 hin33 hat33 (g := (mkF m 117 #[.val (.int p0), .val (.int p1), .val (.int p2), .val (.ref b1), .val (.ref b3), .val (.ref b13), .val (.ref b1), .val (.ref b3), .val (.ref b13), .val (.int (1 : Int32)), .unset, .unset] [(.int (0 : Int32)), (.ref b3)])) rfl rfl (hb hby at_117) _ ?_
    refine XS.iloadN X27.here hx rfl (hb hby at_118) rfl ?_
    refine XS.i2b X27.here hx rfl (hb hby at_119) rfl ?_
    refine XS.icmpNo X27.here hx rfl (hb hby at_120) rfl (teq (own_bb _)).2 ?_
    refine XS.aload X27.here hx rfl (hb hby at_123) rfl rfl ?_
    refine XS.iconst X27.here hx rfl (hb hby at_125) ?_
    exact kt
  obtain ⟨cl34, Ar34, -, S34, M34, H34, -⟩ := id ((c25.keep K23 nin0).keep K27 nin0)
  have hin34 : ¬ ((1 : Int32) < 0 ∨ cl34.slots.size ≤ ((1 : Int32)).toNatClampNeg) := inb_of S34 ⟨by decide, by decide⟩
  have hat34 : cl34.slots[((1 : Int32)).toNatClampNeg]? = some (.int (((p0 >>> ((8 : Int32) &&& 31)).toInt8.toInt32).toInt8.toInt32)) := Has.at H34 hin34 rfl
  refine own_thrW (a := T27.setTop (mkF m 138 #[.val (.int p0), .val (.int p1), .val (.int p2), .val (.ref b1), .val (.ref b3), .val (.ref b13), .val (.ref b1), .val (.ref b3), .val (.ref b13), .val (.int (1 : Int32)), .unset, .unset] [(.int (2 : Int32)), (.ref b3)])) (fun t kt => ?_) ?_
  · show Steps p.tables e below (T27.setTop (mkF m 126 #[.val (.int p0), .val (.int p1), .val (.int p2), .val (.ref b1), .val (.ref b3), .val (.ref b13), .val (.ref b1), .val (.ref b3), .val (.ref b13), .val (.int (1 : Int32)), .unset, .unset] [(.int (1 : Int32)), (.ref b3)])) _
    refine X27.baloadBytes hx (j := (1 : Int32)) (v := (.int (((p0 >>> ((8 : Int32) &&& 31)).toInt8.toInt32).toInt8.toInt32))) Ar34.1 (State.isArrayOf_alike hZ27.alike Ar34.2.1) Ar34.2.2 hin34 hat34 (g := (mkF m 126 #[.val (.int p0), .val (.int p1), .val (.int p2), .val (.ref b1), .val (.ref b3), .val (.ref b13), .val (.ref b1), .val (.ref b3), .val (.ref b13), .val (.int (1 : Int32)), .unset, .unset] [(.int (1 : Int32)), (.ref b3)])) rfl rfl (hb hby at_126) _ ?_
    refine XS.iloadN X27.here hx rfl (hb hby at_127) rfl ?_
    refine XS.bipush X27.here hx rfl (hb hby at_128) ?_
    refine XS.ishr X27.here hx rfl (hb hby at_130) rfl ?_
    refine XS.i2b X27.here hx rfl (hb hby at_131) rfl ?_
    refine XS.icmpNo X27.here hx rfl (hb hby at_132) rfl (teq (own_bb _)).2 ?_
    refine XS.aload X27.here hx rfl (hb hby at_135) rfl rfl ?_
    refine XS.iconst X27.here hx rfl (hb hby at_137) ?_
    exact kt
  obtain ⟨cl35, Ar35, -, S35, M35, H35, -⟩ := id ((c25.keep K23 nin0).keep K27 nin0)
  have hin35 : ¬ ((2 : Int32) < 0 ∨ cl35.slots.size ≤ ((2 : Int32)).toNatClampNeg) := inb_of S35 ⟨by decide, by decide⟩
  have hat35 : cl35.slots[((2 : Int32)).toNatClampNeg]? = some (.int ((p1.toInt8.toInt32).toInt8.toInt32)) := Has.at H35 hin35 rfl
  refine own_thrW (a := T27.setTop (mkF m 147 #[.val (.int p0), .val (.int p1), .val (.int p2), .val (.ref b1), .val (.ref b3), .val (.ref b13), .val (.ref b1), .val (.ref b3), .val (.ref b13), .val (.int (1 : Int32)), .unset, .unset] [(.int (3 : Int32)), (.ref b3)])) (fun t kt => ?_) ?_
  · show Steps p.tables e below (T27.setTop (mkF m 138 #[.val (.int p0), .val (.int p1), .val (.int p2), .val (.ref b1), .val (.ref b3), .val (.ref b13), .val (.ref b1), .val (.ref b3), .val (.ref b13), .val (.int (1 : Int32)), .unset, .unset] [(.int (2 : Int32)), (.ref b3)])) _
    refine X27.baloadBytes hx (j := (2 : Int32)) (v := (.int ((p1.toInt8.toInt32).toInt8.toInt32))) Ar35.1 (State.isArrayOf_alike hZ27.alike Ar35.2.1) Ar35.2.2 hin35 hat35 (g := (mkF m 138 #[.val (.int p0), .val (.int p1), .val (.int p2), .val (.ref b1), .val (.ref b3), .val (.ref b13), .val (.ref b1), .val (.ref b3), .val (.ref b13), .val (.int (1 : Int32)), .unset, .unset] [(.int (2 : Int32)), (.ref b3)])) rfl rfl (hb hby at_138) _ ?_
    refine XS.iloadN X27.here hx rfl (hb hby at_139) rfl ?_
    refine XS.i2b X27.here hx rfl (hb hby at_140) rfl ?_
    refine XS.icmpNo X27.here hx rfl (hb hby at_141) rfl (teq (own_bb _)).2 ?_
    refine XS.aload X27.here hx rfl (hb hby at_144) rfl rfl ?_
    refine XS.iconst X27.here hx rfl (hb hby at_146) ?_
    exact kt
  obtain ⟨cl36, Ar36, -, S36, M36, H36, -⟩ := id ((c25.keep K23 nin0).keep K27 nin0)
  have hin36 : ¬ ((3 : Int32) < 0 ∨ cl36.slots.size ≤ ((3 : Int32)).toNatClampNeg) := inb_of S36 ⟨by decide, by decide⟩
  have hat36 : cl36.slots[((3 : Int32)).toNatClampNeg]? = some (.int (((p1 >>> ((24 : Int32) &&& 31)).toInt8.toInt32).toInt8.toInt32)) := Has.at H36 hin36 rfl
  refine own_thrW (a := T27.setTop (mkF m 167 #[.val (.int p0), .val (.int p1), .val (.int p2), .val (.ref b1), .val (.ref b3), .val (.ref b13), .val (.ref b1), .val (.ref b3), .val (.ref b13), .val (.int (1 : Int32)), .val (.int (1 : Int32)), .unset] [(.ref b13), (.ref b13)])) (fun t kt => ?_) ?_
  · show Steps p.tables e below (T27.setTop (mkF m 147 #[.val (.int p0), .val (.int p1), .val (.int p2), .val (.ref b1), .val (.ref b3), .val (.ref b13), .val (.ref b1), .val (.ref b3), .val (.ref b13), .val (.int (1 : Int32)), .unset, .unset] [(.int (3 : Int32)), (.ref b3)])) _
    refine X27.baloadBytes hx (j := (3 : Int32)) (v := (.int (((p1 >>> ((24 : Int32) &&& 31)).toInt8.toInt32).toInt8.toInt32))) Ar36.1 (State.isArrayOf_alike hZ27.alike Ar36.2.1) Ar36.2.2 hin36 hat36 (g := (mkF m 147 #[.val (.int p0), .val (.int p1), .val (.int p2), .val (.ref b1), .val (.ref b3), .val (.ref b13), .val (.ref b1), .val (.ref b3), .val (.ref b13), .val (.int (1 : Int32)), .unset, .unset] [(.int (3 : Int32)), (.ref b3)])) rfl rfl (hb hby at_147) _ ?_
    refine XS.iloadN X27.here hx rfl (hb hby at_148) rfl ?_
    refine XS.bipush X27.here hx rfl (hb hby at_149) ?_
    refine XS.ishr X27.here hx rfl (hb hby at_151) rfl ?_
    refine XS.i2b X27.here hx rfl (hb hby at_152) rfl ?_
    refine XS.icmpNo X27.here hx rfl (hb hby at_153) rfl (teq (own_bb _)).2 ?_
    refine XS.iconst X27.here hx rfl (hb hby at_156) ?_
    refine XS.goto X27.here hx rfl (pc0 := 157) (pc' := 161) rfl (hb hby at_157) (by decide) (by decide) ?_
    refine XS.istore X27.here hx rfl (hb hby at_161) rfl (l' := #[.val (.int p0), .val (.int p1), .val (.int p2), .val (.ref b1), .val (.ref b3), .val (.ref b13), .val (.ref b1), .val (.ref b3), .val (.ref b13), .val (.int (1 : Int32)), .val (.int (1 : Int32)), .unset]) rfl ?_
    refine XS.aload X27.here hx rfl (hb hby at_163) rfl rfl ?_
    refine XS.aload X27.here hx rfl (hb hby at_165) rfl rfl ?_
    exact kt
  refine own_thrW (a := T27.setTop (mkF m 172 #[.val (.int p0), .val (.int p1), .val (.int p2), .val (.ref b1), .val (.ref b3), .val (.ref b13), .val (.ref b1), .val (.ref b3), .val (.ref b13), .val (.int (1 : Int32)), .val (.int (1 : Int32)), .unset] [(.ref b13)])) (fun t kt => ?_) ?_
  · show Steps p.tables e below (T27.setTop (mkF m 167 #[.val (.int p0), .val (.int p1), .val (.int p2), .val (.ref b1), .val (.ref b3), .val (.ref b13), .val (.ref b1), .val (.ref b3), .val (.ref b13), .val (.int (1 : Int32)), .val (.int (1 : Int32)), .unset] [(.ref b13), (.ref b13)])) _
    refine Jvm.RoadKit.acmp (g := (mkF m 167 #[.val (.int p0), .val (.int p1), .val (.int p2), .val (.ref b1), .val (.ref b3), .val (.ref b13), .val (.ref b1), .val (.ref b3), .val (.ref b13), .val (.int (1 : Int32)), .val (.int (1 : Int32)), .unset] [(.ref b13), (.ref b13)])) X27 hx rfl rfl rfl (pc0 := 167) (pc' := 170) (same := true) rfl (hb hby at_167) rfl (decide_eq_true rfl) (by decide) (by decide) ?_
    refine XS.aload X27.here hx rfl (hb hby at_170) rfl rfl ?_
    exact kt
  obtain ⟨cl37, Ar37, -, S37, M37, -, -⟩ := id (((V18.keep K20 nin0).keep K23 nin0).keep K27 nin0)
  refine own_thrW (a := T27.setTop (mkF m 181 #[.val (.int p0), .val (.int p1), .val (.int p2), .val (.ref b1), .val (.ref b3), .val (.ref b13), .val (.ref b1), .val (.ref b3), .val (.ref b13), .val (.int (1 : Int32)), .val (.int (1 : Int32)), .unset] [(.int (0 : Int32)), (.ref b13)])) (fun t kt => ?_) ?_
  · show Steps p.tables e below (T27.setTop (mkF m 172 #[.val (.int p0), .val (.int p1), .val (.int p2), .val (.ref b1), .val (.ref b3), .val (.ref b13), .val (.ref b1), .val (.ref b3), .val (.ref b13), .val (.int (1 : Int32)), .val (.int (1 : Int32)), .unset] [(.ref b13)])) _
    refine X27.arraylength hx Ar37.1 (State.isArrayOf_alike hZ27.alike Ar37.2.1) (g := (mkF m 172 #[.val (.int p0), .val (.int p1), .val (.int p2), .val (.ref b1), .val (.ref b3), .val (.ref b13), .val (.ref b1), .val (.ref b3), .val (.ref b13), .val (.int (1 : Int32)), .val (.int (1 : Int32)), .unset] [(.ref b13)])) rfl rfl (hb hby at_172) _ ?_
    rw [len_of S37 M37]
    refine X27.ldcInt hx hown27 (mvT hZ27 (hw _ (List.mem_of_getElem? (i := 1) rfl))) (g := (mkF m 173 #[.val (.int p0), .val (.int p1), .val (.int p2), .val (.ref b1), .val (.ref b3), .val (.ref b13), .val (.ref b1), .val (.ref b3), .val (.ref b13), .val (.int (1 : Int32)), .val (.int (1 : Int32)), .unset] [(.int (65536 : Int32))])) rfl (hb hby at_173) _ ?_
    refine XS.icmpNo X27.here hx rfl (hb hby at_175) rfl (teq rfl).2 ?_
    refine XS.aload X27.here hx rfl (hb hby at_178) rfl rfl ?_
    refine XS.iconst X27.here hx rfl (hb hby at_180) ?_
    exact kt
  obtain ⟨cl38, Ar38, -, S38, M38, H38, -⟩ := id (((V18.keep K20 nin0).keep K23 nin0).keep K27 nin0)
  have hin38 : ¬ ((0 : Int32) < 0 ∨ cl38.slots.size ≤ ((0 : Int32)).toNatClampNeg) := inb_of S38 ⟨by decide, by decide⟩
  have hat38 : cl38.slots[((0 : Int32)).toNatClampNeg]? = some (.int ((p2.toInt8.toInt32).toInt8.toInt32)) := atH H38 hin38 (by simp [getH]; try decide)
  refine own_thrW (a := T27.setTop (mkF m 191 #[.val (.int p0), .val (.int p1), .val (.int p2), .val (.ref b1), .val (.ref b3), .val (.ref b13), .val (.ref b1), .val (.ref b3), .val (.ref b13), .val (.int (1 : Int32)), .val (.int (1 : Int32)), .unset] [(.int (65535 : Int32)), (.ref b13)])) (fun t kt => ?_) ?_
  · show Steps p.tables e below (T27.setTop (mkF m 181 #[.val (.int p0), .val (.int p1), .val (.int p2), .val (.ref b1), .val (.ref b3), .val (.ref b13), .val (.ref b1), .val (.ref b3), .val (.ref b13), .val (.int (1 : Int32)), .val (.int (1 : Int32)), .unset] [(.int (0 : Int32)), (.ref b13)])) _
    refine X27.baloadBytes hx (j := (0 : Int32)) (v := (.int ((p2.toInt8.toInt32).toInt8.toInt32))) Ar38.1 (State.isArrayOf_alike hZ27.alike Ar38.2.1) Ar38.2.2 hin38 hat38 (g := (mkF m 181 #[.val (.int p0), .val (.int p1), .val (.int p2), .val (.ref b1), .val (.ref b3), .val (.ref b13), .val (.ref b1), .val (.ref b3), .val (.ref b13), .val (.int (1 : Int32)), .val (.int (1 : Int32)), .unset] [(.int (0 : Int32)), (.ref b13)])) rfl rfl (hb hby at_181) _ ?_
    refine XS.iloadN X27.here hx rfl (hb hby at_182) rfl ?_
    refine XS.i2b X27.here hx rfl (hb hby at_183) rfl ?_
    refine XS.icmpNo X27.here hx rfl (hb hby at_184) rfl (teq (own_bb _)).2 ?_
    refine XS.aload X27.here hx rfl (hb hby at_187) rfl rfl ?_
    refine X27.ldcInt hx hown27 (mvT hZ27 (hw _ (List.mem_of_getElem? (i := 2) rfl))) (g := (mkF m 189 #[.val (.int p0), .val (.int p1), .val (.int p2), .val (.ref b1), .val (.ref b3), .val (.ref b13), .val (.ref b1), .val (.ref b3), .val (.ref b13), .val (.int (1 : Int32)), .val (.int (1 : Int32)), .unset] [(.ref b13)])) rfl (hb hby at_189) _ ?_
    exact kt
  obtain ⟨cl39, Ar39, -, S39, M39, H39, -⟩ := id (((V18.keep K20 nin0).keep K23 nin0).keep K27 nin0)
  have hin39 : ¬ ((65535 : Int32) < 0 ∨ cl39.slots.size ≤ ((65535 : Int32)).toNatClampNeg) := inb_of S39 ⟨by decide, by decide⟩
  have hat39 : cl39.slots[((65535 : Int32)).toNatClampNeg]? = some (.int (((p2 >>> ((8 : Int32) &&& 31)).toInt8.toInt32).toInt8.toInt32)) := atH H39 hin39 (by simp [getH]; try decide)
  refine own_thrW (a := T27.setTop (mkF m 203 #[.val (.int p0), .val (.int p1), .val (.int p2), .val (.ref b1), .val (.ref b3), .val (.ref b13), .val (.ref b1), .val (.ref b3), .val (.ref b13), .val (.int (1 : Int32)), .val (.int (1 : Int32)), .unset] [(.int (1 : Int32)), (.ref b13)])) (fun t kt => ?_) ?_
  · show Steps p.tables e below (T27.setTop (mkF m 191 #[.val (.int p0), .val (.int p1), .val (.int p2), .val (.ref b1), .val (.ref b3), .val (.ref b13), .val (.ref b1), .val (.ref b3), .val (.ref b13), .val (.int (1 : Int32)), .val (.int (1 : Int32)), .unset] [(.int (65535 : Int32)), (.ref b13)])) _
    refine X27.baloadBytes hx (j := (65535 : Int32)) (v := (.int (((p2 >>> ((8 : Int32) &&& 31)).toInt8.toInt32).toInt8.toInt32))) Ar39.1 (State.isArrayOf_alike hZ27.alike Ar39.2.1) Ar39.2.2 hin39 hat39 (g := (mkF m 191 #[.val (.int p0), .val (.int p1), .val (.int p2), .val (.ref b1), .val (.ref b3), .val (.ref b13), .val (.ref b1), .val (.ref b3), .val (.ref b13), .val (.int (1 : Int32)), .val (.int (1 : Int32)), .unset] [(.int (65535 : Int32)), (.ref b13)])) rfl rfl (hb hby at_191) _ ?_
    refine XS.iloadN X27.here hx rfl (hb hby at_192) rfl ?_
    refine XS.bipush X27.here hx rfl (hb hby at_193) ?_
    refine XS.ishr X27.here hx rfl (hb hby at_195) rfl ?_
    refine XS.i2b X27.here hx rfl (hb hby at_196) rfl ?_
    refine XS.icmpNo X27.here hx rfl (hb hby at_197) rfl (teq (own_bb _)).2 ?_
    refine XS.aload X27.here hx rfl (hb hby at_200) rfl rfl ?_
    refine XS.iconst X27.here hx rfl (hb hby at_202) ?_
    exact kt
  obtain ⟨cl40, Ar40, -, S40, M40, H40, -⟩ := id (((V18.keep K20 nin0).keep K23 nin0).keep K27 nin0)
  have hin40 : ¬ ((1 : Int32) < 0 ∨ cl40.slots.size ≤ ((1 : Int32)).toNatClampNeg) := inb_of S40 ⟨by decide, by decide⟩
  have hat40 : cl40.slots[((1 : Int32)).toNatClampNeg]? = some (.int (0 : Int32)) := atH H40 hin40 (by simp [getH]; try decide)
  refine own_thrW (a := T27.setTop (mkF m 234 #[.val (.int p0), .val (.int p1), .val (.int p2), .val (.ref b1), .val (.ref b3), .val (.ref b13), .val (.ref b1), .val (.ref b3), .val (.ref b13), .val (.int (1 : Int32)), .val (.int (1 : Int32)), .val (.int (1 : Int32))] [(.int (1 : Int32))])) (fun t kt => ?_) ?_
  · show Steps p.tables e below (T27.setTop (mkF m 203 #[.val (.int p0), .val (.int p1), .val (.int p2), .val (.ref b1), .val (.ref b3), .val (.ref b13), .val (.ref b1), .val (.ref b3), .val (.ref b13), .val (.int (1 : Int32)), .val (.int (1 : Int32)), .unset] [(.int (1 : Int32)), (.ref b13)])) _
    refine X27.baloadBytes hx (j := (1 : Int32)) (v := (.int (0 : Int32))) Ar40.1 (State.isArrayOf_alike hZ27.alike Ar40.2.1) Ar40.2.2 hin40 hat40 (g := (mkF m 203 #[.val (.int p0), .val (.int p1), .val (.int p2), .val (.ref b1), .val (.ref b3), .val (.ref b13), .val (.ref b1), .val (.ref b3), .val (.ref b13), .val (.int (1 : Int32)), .val (.int (1 : Int32)), .unset] [(.int (1 : Int32)), (.ref b13)])) rfl rfl (hb hby at_203) _ ?_
    refine XS.ifNo X27.here hx rfl (hb hby at_204) rfl ((if0 _ _).trans (teq rfl).2) ?_
    refine XS.iconst X27.here hx rfl (hb hby at_207) ?_
    refine XS.goto X27.here hx rfl (pc0 := 208) (pc' := 212) rfl (hb hby at_208) (by decide) (by decide) ?_
    refine XS.istore X27.here hx rfl (hb hby at_212) rfl (l' := #[.val (.int p0), .val (.int p1), .val (.int p2), .val (.ref b1), .val (.ref b3), .val (.ref b13), .val (.ref b1), .val (.ref b3), .val (.ref b13), .val (.int (1 : Int32)), .val (.int (1 : Int32)), .val (.int (1 : Int32))]) rfl ?_
    refine XS.iload X27.here hx rfl (hb hby at_214) rfl ?_
    refine XS.ifNo X27.here hx rfl (hb hby at_216) rfl ((if0 _ _).trans (feq (by decide)).1) ?_
    refine XS.iload X27.here hx rfl (hb hby at_219) rfl ?_
    refine XS.ifNo X27.here hx rfl (hb hby at_221) rfl ((if0 _ _).trans (feq (by decide)).1) ?_
    refine XS.iload X27.here hx rfl (hb hby at_224) rfl ?_
    refine XS.ifNo X27.here hx rfl (hb hby at_226) rfl ((if0 _ _).trans (feq (by decide)).1) ?_
    refine XS.iconst X27.here hx rfl (hb hby at_229) ?_
    refine XS.goto X27.here hx rfl (pc0 := 230) (pc' := 234) rfl (hb hby at_230) (by decide) (by decide) ?_
    exact kt
  exact own_endW X27 hS27 (Nat.le_refl _) hlk (v := some (.int (1 : Int32))) (fun h => by rw [Bd.returns] at h; cases h) (fun fs hr => retN X27 hx (t := .boolean) Bd.returns (by simp) (hb hby at_234) hr) ⟨rfl, N27⟩ (by decide : 9 ≤ _) (by decide : 65636 ≤ _)
set_option maxRecDepth 65536 in
set_option maxHeartbeats 40000000 in
theorem comes_1 {Post : Tables → Env → Array Value → State → Outcome → State → Prop} (hpost : ∀ tb e args s v u, (limb_1_1.after args s (.returned v) u = true ∧ limb_1_2.after args s (.returned v) u = true ∧ True) → ReturnedEndW s (.returned v) u (Jvm.fieldLocs frame_1_writes args s ++ Jvm.arrayLocs frame_1_arrays args s ++ Jvm.staticLocs frame_1_statics s) 16 132224 → Post tb e args s (.returned v) u) :
    ArmFor flags0 classFile x code maxLocals ret World_1 tables_1 room_1 Calls_1 rest_1 Pre_1 Post := by
  intro l hfl _ _ p e ha hc hk s m args below hf hA hF happ hP
  obtain ⟨hcalls, hrest, hpre⟩ := hP
  obtain ⟨-, -, -, hnamed, -, -, -, hat⟩ := (Spec.applies_iff hf).mp happ
  obtain ⟨hg, hn⟩ := and_e (Cond.before_iff.mp (show (Jvm.Cond.and given_1 narrow_1).before args s = true from hpre))
  obtain ⟨g1, g2⟩ := and_e hg
  obtain ⟨g3, g4⟩ := and_e g2
  obtain ⟨g5, g6⟩ := and_e g4
  obtain ⟨w0, w1, w2, rfl⟩ : ∃ w0 w1 w2 : Value, args = #[w0, w1, w2] := by
    have hs : args.size = 3 := by simpa [Cond.value, given_1] using g1
    obtain ⟨L⟩ := args
    match L, hs with
    | [w0, w1, w2], _ => exact ⟨w0, w1, w2, rfl⟩
  have hw := fun d (hd : d ∈ tables_1) => atoms_spec (ws := Jvm.Cond.code x code maxLocals ret :: tables_1) hat d (List.mem_cons_of_mem _ hd)
  have hfit : Fit s := fun {y c} hc i hi => by
    obtain ⟨ha, rfl⟩ := Array.getElem?_eq_some_iff.mp hc
    have q := List.all_eq_true.mp ((Array.all_eq_true_iff_forall_mem.mp hF) _ (Array.getElem_mem ha)) i (List.mem_range.mpr hi)
    simpa [Array.getElem?_eq_getElem hi] using q
  obtain ⟨i0, ei0⟩ := is_v g3
  obtain rfl : w0 = (.int i0) := Option.some.inj ei0
  obtain ⟨i1, ei1⟩ := is_v g5
  obtain rfl : w1 = (.int i1) := Option.some.inj ei1
  obtain ⟨i2, ei2⟩ := is_v g6
  obtain rfl : w2 = (.int i2) := Option.some.inj ei2
  obtain ⟨n, o, h1, h2, h3, _, L, rfl, ⟨rfl, N⟩, hq⟩ := rm0 l s _ hw tables_1 i0 i1 i2 s.heap s.heap.size (Nat.le_refl _) p e ha hc hk s m _ below hf ((Spec.applies_iff_loose hf).mp happ).1 ⟨rfl, State.Warmed39.refl s, rfl⟩ trivial
  refine ⟨n, _, h1, h2, h3, hpost _ _ _ _ _ _ ⟨Cond.after_iff.mpr rfl, Cond.after_iff.mpr (eq_i res_at (Term.int_eval (1)) rfl), trivial⟩ ⟨hq.1, hq.2.1, hq.2.2.1, (hq.2.2.2.sift fun y hy => Or.inr (N y hy)).mono (by decide) (by decide)⟩⟩
theorem main_1_1 : Claimed_1_1 := comes_1 fun _ _ _ _ _ _ h hF => ⟨h.1, hF⟩
theorem main_1_2 : Claimed_1_2 := comes_1 fun _ _ _ _ _ _ h hF => ⟨h.2.1, hF⟩
end Jvm.Pilot.@@N@@
namespace Jvm.Pilot.@@N@@
open Jvm Jvm.ClassFile Sem Op Lib Jvm.Free Jvm.Stand Jvm.Pilot.@@N@@.Jvm.D
/-! MADE BY PROGRAM (witnessworld.py) out of the Statement's table words and the real class files: 15 classes; the members and pool entries that the words name. The judged class is class 1, her method 1. -/
namespace start1
open Jvm.ClassFile
def u (s : String) : CpInfo := .utf8 (stringToUtf16 s)
/-- a pool by its gaps: so many unusable entries, then the entry; so many at the end -/
def gap : Nat → List CpInfo → List CpInfo
  | 0, r => r
  | n + 1, r => .unusable :: gap n r
def poolList (es : List (Nat × CpInfo)) (last : Nat) : List CpInfo := es.foldr (fun e r => gap e.1 (e.2 :: r)) (gap last [])
def pool (es : List (Nat × CpInfo)) (last : Nat) : Array CpInfo := ⟨poolList es last⟩
def fileOf (pool : Array CpInfo) (this : Nat) (attrs : Array Attribute := #[]) (ms : Array MethodInfo := #[]) (fl : Nat := 33) (sup : Nat := 0) (ifs : Array Nat := #[]) (fds : Array FieldInfo := #[]) : ClassFile where
  minorVersion := 0
  majorVersion := 65
  constantPool := pool
  accessFlags := fl
  thisClass := this
  superClass := sup
  interfaces := ifs
  fields := fds
  methods := ms
  attributes := attrs
def plain (name : String) (sup : Option ClassId) : Class where
  name := name
  kind := .ordinary
  loader := none
  accessFlags := 33
  super := sup
  interfaces := #[]
  cf := none
  fields := #[]
  methods := #[]
  instanceTypes := #[]
  staticTypes := #[]
  resolved := #[]
  callSites := []
  init := .initialized
  statics := none
  mirror := none

def pool0 : Array CpInfo := pool [(5, u "<init>"), (0, u "()V"), (1, .class_ 10), (1, u "java/lang/Object")] 113

def k0m0 : Method := { name := "<init>", desc := "()V", sig := { parameters := [], returnType := none }, accessFlags := 1, code := none }
/-- java/lang/Object -/
def k0 : Class := { plain "java/lang/Object" none with
  accessFlags := 33
  interfaces := #[]
  cf := some (fileOf pool0 8 #[] #[{ accessFlags := 1, nameIndex := 5, descriptorIndex := 6, attributes := #[] }] 33 0 #[] #[])
  fields := #[]
  methods := #[k0m0]
  instanceTypes := #[]
  staticTypes := #[]
  resolved := Array.replicate 124 none
  statics := none }

def pool1 : Array CpInfo := pool [(2, .class_ 4), (1, u "java/lang/Object"), (0, u "<init>"), (0, u "()V"), (0, .integer 65536), (0, .integer 65535), (0, .methodref 10 11), (0, .class_ 12), (0, .nameAndType 13 14), (0, u "com/example/chronoshard/chronoshard/model/Limits"), (0, u "checkPayload"), (0, u "([B)[B"), (0, .class_ 16), (0, u "com/example/chronoshard/chronoshard/model/LimitsCheckPayloadPinLaw"), (2, u "law"), (0, u "(III)Z")] 5

def k1m0 : Method := { name := "<init>", desc := "()V", sig := { parameters := [], returnType := none }, accessFlags := 2, code := none }
def k1c1 : Code := { maxStack := 4, maxLocals := 12, code := code, exceptionTable := #[], attributes := #[] }
def k1m1 : Method := { name := "law", desc := "(III)Z", sig := { parameters := [.int, .int, .int], returnType := some .boolean }, accessFlags := 9, code := some k1c1 }
/-- com/example/chronoshard/chronoshard/model/LimitsCheckPayloadPinLaw -/
def k1 : Class := { plain "com/example/chronoshard/chronoshard/model/LimitsCheckPayloadPinLaw" (some 0) with
  accessFlags := 49
  interfaces := #[]
  cf := some (fileOf pool1 15 #[] #[{ accessFlags := 2, nameIndex := 5, descriptorIndex := 6, attributes := #[] }, { accessFlags := 9, nameIndex := 19, descriptorIndex := 20, attributes := #[] }] 49 2 #[] #[])
  fields := #[]
  methods := #[k1m0, k1m1]
  instanceTypes := #[]
  staticTypes := #[]
  resolved := Array.replicate 26 none
  statics := none }

def pool2 : Array CpInfo := pool [(2, .class_ 4), (1, u "java/lang/Object"), (0, u "<init>"), (0, u "()V"), (2, .class_ 10), (0, u "com/example/chronoshard/chronoshard/model/Limits"), (4, u "NAME_CHARACTER"), (0, u "Ljava/util/function/IntPredicate;"), (16, .string 34), (0, u "payload"), (0, .methodref 36 37), (0, .class_ 38), (0, .nameAndType 39 40), (0, u "java/util/Objects"), (0, u "requireNonNull"), (0, u "(Ljava/lang/Object;Ljava/lang/String;)Ljava/lang/Object;"), (0, .integer 65536), (55, u "MAX_TASK_NAME_LENGTH"), (0, u "I"), (2, u "MAX_INSTANCE_ID_LENGTH"), (1, u "MAX_NODE_ID_LENGTH"), (0, u "MAX_SCHEDULE_NAME_LENGTH"), (0, u "MAX_PAYLOAD_BYTES"), (0, u "NAME_CHARACTERS"), (0, u "Ljava/lang/String;"), (7, u "checkPayload"), (0, u "([B)[B")] 39

def k2m0 : Method := { name := "<init>", desc := "()V", sig := { parameters := [], returnType := none }, accessFlags := 2, code := none }
def k2c1 : Code := { maxStack := 3, maxLocals := 1, code := prog_8_method_6_code, exceptionTable := #[], attributes := #[] }
def k2m1 : Method := { name := "checkPayload", desc := "([B)[B", sig := { parameters := [(.array .byte)], returnType := some (.array .byte) }, accessFlags := 9, code := some k2c1 }
/-- com/example/chronoshard/chronoshard/model/Limits -/
def k2 : Class := { plain "com/example/chronoshard/chronoshard/model/Limits" (some 0) with
  accessFlags := 49
  interfaces := #[]
  cf := some (fileOf pool2 9 #[] #[{ accessFlags := 2, nameIndex := 5, descriptorIndex := 6, attributes := #[] }, { accessFlags := 9, nameIndex := 115, descriptorIndex := 116, attributes := #[] }] 49 2 #[] #[{ accessFlags := 25, nameIndex := 97, descriptorIndex := 98, attributes := #[] }, { accessFlags := 25, nameIndex := 101, descriptorIndex := 98, attributes := #[] }, { accessFlags := 25, nameIndex := 103, descriptorIndex := 98, attributes := #[] }, { accessFlags := 25, nameIndex := 104, descriptorIndex := 98, attributes := #[] }, { accessFlags := 25, nameIndex := 105, descriptorIndex := 98, attributes := #[] }, { accessFlags := 26, nameIndex := 106, descriptorIndex := 107, attributes := #[] }, { accessFlags := 26, nameIndex := 15, descriptorIndex := 16, attributes := #[] }])
  fields := #[{ name := "MAX_TASK_NAME_LENGTH", type := .int, accessFlags := 25, slot := 0, constantValue := 0 }, { name := "MAX_INSTANCE_ID_LENGTH", type := .int, accessFlags := 25, slot := 1, constantValue := 0 }, { name := "MAX_NODE_ID_LENGTH", type := .int, accessFlags := 25, slot := 2, constantValue := 0 }, { name := "MAX_SCHEDULE_NAME_LENGTH", type := .int, accessFlags := 25, slot := 3, constantValue := 0 }, { name := "MAX_PAYLOAD_BYTES", type := .int, accessFlags := 25, slot := 4, constantValue := 0 }, { name := "NAME_CHARACTERS", type := (.object "java/lang/String"), accessFlags := 26, slot := 5, constantValue := 0 }, { name := "NAME_CHARACTER", type := (.object "java/util/function/IntPredicate"), accessFlags := 26, slot := 6, constantValue := 0 }]
  methods := #[k2m0, k2m1]
  instanceTypes := #[]
  staticTypes := #[.int, .int, .int, .int, .int, (.object "java/lang/String"), (.object "java/util/function/IntPredicate")]
  resolved := Array.replicate 156 none
  statics := none }

def pool3 : Array CpInfo := pool [(1, .class_ 2), (0, u "java/io/Serializable"), (0, .class_ 4), (0, u "java/lang/Object")] 2

/-- java/io/Serializable -/
def k3 : Class := { plain "java/io/Serializable" (some 0) with
  accessFlags := 1537
  interfaces := #[]
  cf := some (fileOf pool3 1 #[] #[] 1537 3 #[] #[])
  fields := #[]
  methods := #[]
  instanceTypes := #[]
  staticTypes := #[]
  resolved := Array.replicate 7 none
  statics := none }

def pool4 : Array CpInfo := pool [(1, .class_ 2), (0, u "java/lang/Comparable"), (0, .class_ 4), (0, u "java/lang/Object")] 7

/-- java/lang/Comparable -/
def k4 : Class := { plain "java/lang/Comparable" (some 0) with
  accessFlags := 1537
  interfaces := #[]
  cf := some (fileOf pool4 1 #[] #[] 1537 3 #[] #[])
  fields := #[]
  methods := #[]
  instanceTypes := #[]
  staticTypes := #[]
  resolved := Array.replicate 12 none
  statics := none }

def pool5 : Array CpInfo := pool [(2, .class_ 4), (1, u "java/lang/CharSequence"), (42, .class_ 48), (0, u "java/lang/CharSequence$1CodePointIterator"), (10, .class_ 60), (0, u "java/lang/CharSequence$1CharIterator"), (5, .class_ 67), (0, u "java/lang/Object")] 63

/-- java/lang/CharSequence -/
def k5 : Class := { plain "java/lang/CharSequence" (some 0) with
  accessFlags := 1537
  interfaces := #[]
  cf := some (fileOf pool5 2 #[.nestMembers #[47, 59]] #[] 1537 66 #[] #[])
  fields := #[]
  methods := #[]
  instanceTypes := #[]
  staticTypes := #[]
  resolved := Array.replicate 131 none
  statics := none }

def pool6 : Array CpInfo := pool [(1, .class_ 2), (0, u "java/lang/constant/Constable"), (0, .class_ 4), (0, u "java/lang/Object")] 6

/-- java/lang/constant/Constable -/
def k6 : Class := { plain "java/lang/constant/Constable" (some 0) with
  accessFlags := 1537
  interfaces := #[]
  cf := some (fileOf pool6 1 #[] #[] 1537 3 #[] #[])
  fields := #[]
  methods := #[]
  instanceTypes := #[]
  staticTypes := #[]
  resolved := Array.replicate 11 none
  statics := none }

def pool7 : Array CpInfo := pool [(1, .class_ 2), (0, u "java/lang/constant/ConstantDesc"), (0, .class_ 4), (0, u "java/lang/Object")] 32

/-- java/lang/constant/ConstantDesc -/
def k7 : Class := { plain "java/lang/constant/ConstantDesc" (some 0) with
  accessFlags := 1537
  interfaces := #[]
  cf := some (fileOf pool7 1 #[] #[] 1537 3 #[] #[])
  fields := #[]
  methods := #[]
  instanceTypes := #[]
  staticTypes := #[]
  resolved := Array.replicate 37 none
  statics := none }

def pool8 : Array CpInfo := pool [(2, .class_ 4), (1, u "java/lang/Object"), (0, u "<init>"), (0, u "()V"), (3, .class_ 12), (1, u "java/lang/String"), (0, u "value"), (0, u "[B"), (2, u "coder"), (0, u "B"), (2, u "hash"), (0, u "I"), (2, u "hashIsZero"), (0, u "Z"), (13, u "COMPACT_STRINGS"), (534, .class_ 576), (0, u "java/lang/CharSequence"), (22, u "CASE_INSENSITIVE_ORDER"), (0, u "Ljava/util/Comparator;"), (500, u "serialPersistentFields"), (0, u "[Ljava/io/ObjectStreamField;"), (0, .class_ 1104), (0, u "java/lang/String$CaseInsensitiveComparator"), (1, .class_ 1107), (0, u "java/io/Serializable"), (0, .class_ 1109), (0, u "java/lang/Comparable"), (0, .class_ 1111), (0, u "java/lang/constant/Constable"), (0, .class_ 1113), (0, u "java/lang/constant/ConstantDesc"), (2, u "serialVersionUID"), (0, u "J"), (3, u "REPL"), (0, u "C"), (2, u "LATIN1"), (1, u "UTF16")] 323

def k8m0 : Method := { name := "<init>", desc := "()V", sig := { parameters := [], returnType := none }, accessFlags := 1, code := none }
/-- java/lang/String -/
def k8 : Class := { plain "java/lang/String" (some 0) with
  accessFlags := 49
  interfaces := #[3, 4, 5, 6, 7]
  cf := some (fileOf pool8 10 #[.nestMembers #[1103]] #[{ accessFlags := 1, nameIndex := 5, descriptorIndex := 6, attributes := #[] }] 49 2 #[1106, 1108, 575, 1110, 1112] #[{ accessFlags := 18, nameIndex := 13, descriptorIndex := 14, attributes := #[] }, { accessFlags := 18, nameIndex := 17, descriptorIndex := 18, attributes := #[] }, { accessFlags := 2, nameIndex := 21, descriptorIndex := 22, attributes := #[] }, { accessFlags := 2, nameIndex := 25, descriptorIndex := 26, attributes := #[] }, { accessFlags := 26, nameIndex := 1116, descriptorIndex := 1117, attributes := #[] }, { accessFlags := 24, nameIndex := 40, descriptorIndex := 26, attributes := #[] }, { accessFlags := 26, nameIndex := 1101, descriptorIndex := 1102, attributes := #[] }, { accessFlags := 26, nameIndex := 1121, descriptorIndex := 1122, attributes := #[] }, { accessFlags := 25, nameIndex := 599, descriptorIndex := 600, attributes := #[] }, { accessFlags := 24, nameIndex := 1125, descriptorIndex := 18, attributes := #[] }, { accessFlags := 24, nameIndex := 1127, descriptorIndex := 18, attributes := #[] }])
  fields := #[{ name := "value", type := (.array .byte), accessFlags := 18, slot := 0, constantValue := 0 }, { name := "coder", type := .byte, accessFlags := 18, slot := 1, constantValue := 0 }, { name := "hash", type := .int, accessFlags := 2, slot := 2, constantValue := 0 }, { name := "hashIsZero", type := .boolean, accessFlags := 2, slot := 3, constantValue := 0 }, { name := "serialVersionUID", type := .long, accessFlags := 26, slot := 0, constantValue := 0 }, { name := "COMPACT_STRINGS", type := .boolean, accessFlags := 24, slot := 1, constantValue := 0 }, { name := "serialPersistentFields", type := (.array (.object "java/io/ObjectStreamField")), accessFlags := 26, slot := 2, constantValue := 0 }, { name := "REPL", type := .char, accessFlags := 26, slot := 3, constantValue := 0 }, { name := "CASE_INSENSITIVE_ORDER", type := (.object "java/util/Comparator"), accessFlags := 25, slot := 4, constantValue := 0 }, { name := "LATIN1", type := .byte, accessFlags := 24, slot := 5, constantValue := 0 }, { name := "UTF16", type := .byte, accessFlags := 24, slot := 6, constantValue := 0 }]
  methods := #[k8m0]
  instanceTypes := #[(.array .byte), .byte, .int, .boolean]
  staticTypes := #[.long, .boolean, (.array (.object "java/io/ObjectStreamField")), .char, (.object "java/util/Comparator"), .byte, .byte]
  resolved := Array.replicate 1451 none
  statics := none }

def pool9 : Array CpInfo := pool [(2, .class_ 4), (1, u "java/lang/Object"), (0, u "<init>"), (0, u "()V"), (35, .class_ 44), (1, u "java/util/Objects"), (0, u "requireNonNull"), (48, u "(Ljava/lang/Object;Ljava/lang/String;)Ljava/lang/Object;")] 89

def k9m0 : Method := { name := "<init>", desc := "()V", sig := { parameters := [], returnType := none }, accessFlags := 2, code := none }
def k9c1 : Code := { maxStack := 3, maxLocals := 2, code := jdk_31_method_11_code, exceptionTable := #[], attributes := #[] }
def k9m1 : Method := { name := "requireNonNull", desc := "(Ljava/lang/Object;Ljava/lang/String;)Ljava/lang/Object;", sig := { parameters := [(.object "java/lang/Object"), (.object "java/lang/String")], returnType := some (.object "java/lang/Object") }, accessFlags := 9, code := some k9c1 }
/-- java/util/Objects -/
def k9 : Class := { plain "java/util/Objects" (some 0) with
  accessFlags := 49
  interfaces := #[]
  cf := some (fileOf pool9 42 #[] #[{ accessFlags := 2, nameIndex := 5, descriptorIndex := 6, attributes := #[] }, { accessFlags := 9, nameIndex := 45, descriptorIndex := 94, attributes := #[] }] 49 2 #[] #[])
  fields := #[]
  methods := #[k9m0, k9m1]
  instanceTypes := #[]
  staticTypes := #[]
  resolved := Array.replicate 184 none
  statics := none }

def pool10 : Array CpInfo := pool [(1, u "java/lang/Cloneable"), (0, .class_ 1), (0, u "java/lang/Object"), (0, .class_ 3)] 3

/-- java/lang/Cloneable -/
def k10 : Class := { plain "java/lang/Cloneable" (some 0) with
  accessFlags := 1537
  interfaces := #[]
  cf := some (fileOf pool10 2 #[] #[] 1537 4 #[] #[])
  fields := #[]
  methods := #[]
  instanceTypes := #[]
  staticTypes := #[]
  resolved := Array.replicate 8 none
  statics := none }

/-- the primitive byte -/
def k11 : Class := { plain "byte" none with kind := .primitive 'B', accessFlags := 0x411 }
/-- [B -/
def k12 : Class := { plain "[B" (some 0) with kind := .array 11 .byte, interfaces := #[10, 3], accessFlags := 1041 }

/-- the primitive int -/
def k13 : Class := { plain "int" none with kind := .primitive 'I', accessFlags := 0x411 }
/-- [I -/
def k14 : Class := { plain "[I" (some 0) with kind := .array 13 .int, interfaces := #[10, 3], accessFlags := 1041 }

def heap : Heap := #[]
def classes : Array Class := #[k0, k1, k2, k3, k4, k5, k6, k7, k8, k9, k10, k11, k12, k13, k14]
def interned : List (Array UInt16 × Addr) := []
def slotsUsed : Nat := 0
def theMethod : MethodId := ⟨1, 1⟩
def args0 : Array Value := #[.int 5, .int 6, .int 7]
def aboutOver (below : List Frame) : State where
  vm := { classes := classes, interned := interned.toArray }
  heap := heap
  slotsUsed := slotsUsed
  threads := #[{ frames := .invoking theMethod args0 :: below }]
def below0 : List Frame := [.native { method := ⟨0, 0⟩, args := #[] }]
def about1 : State := aboutOver below0
def p0 : Program := .bare "" "" ""
def e0 : Env := launch0.env 0 0 0
theorem w_frames : about1.frames = Frame.invoking theMethod args0 :: below0 := rfl
set_option maxRecDepth 65536 in
theorem w_args : argsFit about1.vm theMethod args0 = true := by decide +kernel
set_option maxRecDepth 65536 in
theorem w_heap : heapFits about1 = true := by decide +kernel
set_option maxRecDepth 65536 in
theorem w_runnable : about1.curStatus? = some .runnable := by decide +kernel
set_option maxRecDepth 65536 in
theorem w_alone : about1.alone = true := by decide +kernel
set_option maxRecDepth 65536 in
theorem w_named : about1.methodNamed? x = some theMethod := by decide +kernel
set_option maxRecDepth 65536 in
theorem w_hears : about1.hears theMethod below0 = true := by decide +kernel
set_option maxRecDepth 65536 in
theorem w_ripe : about1.ripe theMethod args0 below0 = true := by decide +kernel
theorem w_running : about1.status = .running := rfl
set_option maxRecDepth 65536 in
theorem w_room : about1.hasRoom e0.platform room_1 = true :=
  launch0.hasRoom_least _ room_1 (by decide +kernel) (by decide +kernel) (by decide +kernel) (by decide +kernel) (by decide +kernel) (by decide +kernel)
theorem allAtoms_all (ts : List Jvm.Cond) (a : Array Jvm.Value) (st : Jvm.State) : (allAtoms ts).before a st = ts.all (fun c => c.before a st) := by
  induction ts with
  | nil => rfl
  | cons c t ih =>
    show (Jvm.Cond.and c (allAtoms t)).before a st = _
    rw [Jvm.Cond.before_and, ih, List.all_cons]
def words1 : List Jvm.Cond := Jvm.Cond.code x code maxLocals ret :: tables_1
/-- a 'code' word, met by the world's own term for the bytes: nothing is compared byte by byte -/
theorem code_word {y : MethodName} {bytes : ByteArray} {mx : Nat} {rt : Option FieldType} {a : Array Value} {s : State} {m : MethodId} {meth : Method} {c : Code} (h1 : s.methodNamed? y = some m) (h2 : s.vm.method? m = some meth) (h3 : meth.code = some c) (h4 : c.code = bytes)
    (h5 : (c.maxLocals == mx && c.exceptionTable.isEmpty && decide (c.maxStack ≤ mostOperands) && decide (meth.sig.returnType = rt) && !meth.locks && decide (parseMethodDescriptor y.desc = some meth.sig)) = true) : (Jvm.Cond.code y bytes mx rt).before a s = true := by
  simp only [Bool.and_eq_true, beq_iff_eq, Bool.not_eq_true', decide_eq_true_eq] at h5
  obtain ⟨⟨⟨⟨⟨g1, g2⟩, g3⟩, g4⟩, g5⟩, g6⟩ := h5
  simp [Cond.before, Cond.holds, Cond.value, h1, h2, h3, h4, g1, g2, g3, g4, g5, g6]
def isCode : Jvm.Cond → Bool
  | .code _ _ _ _ => true
  | _ => false
theorem all_split {L : List Jvm.Cond} {P : Jvm.Cond → Bool} (h1 : L.all (fun c => isCode c || P c) = true) (h2 : ∀ c ∈ L.filter isCode, P c = true) : L.all P = true := by
  refine List.all_eq_true.mpr fun c hc => ?_
  have h := List.all_eq_true.mp h1 c hc
  rcases Bool.eq_false_or_eq_true (isCode c) with hi | hi
  · exact h2 c (List.mem_filter.mpr ⟨hc, hi⟩)
  · simpa [hi] using h
set_option maxRecDepth 65536 in
theorem w_c0 : (Jvm.Cond.code x code maxLocals ret).before args0 about1 = true := code_word (m := ⟨1, 1⟩) (meth := k1m1) (c := k1c1) (by decide +kernel) rfl rfl rfl (by decide +kernel)
set_option maxRecDepth 65536 in
theorem w_c1 : (Jvm.Cond.code ({ cls := "com/example/chronoshard/chronoshard/model/Limits", name := "checkPayload", desc := "([B)[B" } : Jvm.MethodName) prog_8_method_6_code (1 : Nat) (Option.some (Jvm.ClassFile.FieldType.array Jvm.ClassFile.FieldType.byte))).before args0 about1 = true := code_word (m := ⟨2, 1⟩) (meth := k2m1) (c := k2c1) (by decide +kernel) rfl rfl rfl (by decide +kernel)
set_option maxRecDepth 65536 in
theorem w_c2 : (Jvm.Cond.code ({ cls := "java/util/Objects", name := "requireNonNull", desc := "(Ljava/lang/Object;Ljava/lang/String;)Ljava/lang/Object;" } : Jvm.MethodName) jdk_31_method_11_code (2 : Nat) (Option.some (Jvm.ClassFile.FieldType.object "java/lang/Object"))).before args0 about1 = true := code_word (m := ⟨9, 1⟩) (meth := k9m1) (c := k9c1) (by decide +kernel) rfl rfl rfl (by decide +kernel)
def codes1 : List Jvm.Cond := [Jvm.Cond.code x code maxLocals ret, Jvm.Cond.code ({ cls := "com/example/chronoshard/chronoshard/model/Limits", name := "checkPayload", desc := "([B)[B" } : Jvm.MethodName) prog_8_method_6_code (1 : Nat) (Option.some (Jvm.ClassFile.FieldType.array Jvm.ClassFile.FieldType.byte)), Jvm.Cond.code ({ cls := "java/util/Objects", name := "requireNonNull", desc := "(Ljava/lang/Object;Ljava/lang/String;)Ljava/lang/Object;" } : Jvm.MethodName) jdk_31_method_11_code (2 : Nat) (Option.some (Jvm.ClassFile.FieldType.object "java/lang/Object"))]
set_option maxRecDepth 65536 in
theorem codes_eq : words1.filter isCode = codes1 := rfl
theorem w_codes : ∀ c ∈ words1.filter isCode, c.before args0 about1 = true := by
  rw [codes_eq]
  intro c hc
  simp only [codes1, List.mem_cons, List.not_mem_nil, or_false] at hc
  rcases hc with rfl | rfl | rfl
  · exact w_c0
  · exact w_c1
  · exact w_c2
set_option maxRecDepth 65536 in
theorem w_t1 : words1.all (fun c => isCode c || c.before args0 about1) = true := by decide +kernel
theorem w_tables : (allAtoms (Jvm.Cond.code x code maxLocals ret :: tables_1)).before args0 about1 = true := by
  rw [allAtoms_all]
  show words1.all (fun c => c.before args0 about1) = true
  refine all_split ?_ w_codes
  rw [w_t1]
set_option maxRecDepth 65536 in
theorem w_case : (Jvm.Cond.and given_1 narrow_1).before args0 about1 = true := by decide +kernel
theorem w_applies : (headSpec (Jvm.Cond.code x code maxLocals ret :: tables_1) room_1).applies x e0.platform about1 = true :=
  (Spec.applies_iff w_frames).mpr ⟨w_running, w_runnable, w_alone, w_named, w_hears, w_ripe, w_room, w_tables⟩
theorem atStart : AtStart classFile x code maxLocals ret World_1 tables_1 room_1 Calls_1 rest_1 Pre_1 launch0 p0 e0 about1 theMethod args0 below0 :=
  ⟨lists_1, trivial, launch0.admits_env _ _ _, launch0.least_env, fairChoices_fair.cas, fairChoices_fair.clock, w_frames, w_args, w_heap, w_applies, trivial, trivial, w_case⟩
end start1
theorem witness_1 : WitnessClaimed_1 := ⟨start1.p0, start1.e0, start1.about1, start1.theMethod, start1.args0, start1.below0, start1.atStart⟩
end Jvm.Pilot.@@N@@
