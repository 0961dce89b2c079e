import JvmDerived
import JvmDerived.Pilot.@@N@@Statement
import JvmDerived.Pilot.@@N@@Code
set_option linter.unusedVariables false
set_option linter.unusedSimpArgs false
namespace Jvm.RoadKit
open Sem ClassFile Op Lib Jvm.Stand Jvm.Free Jvm.LawKit
section New
variable {p : Program} {l : Launch} {e : Env} {R : Room} {s : State} {m : MethodId} {args : Array Value} {below : List Frame} {meth : Method} {c : Code} {T : State} {locs : List Loc} {cells slots : Nat}
theorem retI (X : Stand p l e R s m args below meth c T locs cells slots) (hx : p.tables.exec = Jvm.exec) {pc : Nat} {Ls : Array Slot} {z : Int32} {rest : List Value} (hret : meth.sig.returnType = some .int) (hd : decode c.code pc = .ok (.ireturn, 1)) {fs : List Frame}
    (hl : ∀ (f : JFrame) (acts : List Action), f.method = m → f.locked = none → f.entered = [] → (doReturn e (T.setTop f) acts (some (.int z))).1 = T.setFrames fs) : Steps p.tables e below (T.setTop (mkF m pc Ls (.int z :: rest))) (T.setFrames fs) :=
  retOut X hx hret rfl (Or.inl ⟨rfl, Or.inl rfl, z, rfl⟩) hd hl
theorem retJ (X : Stand p l e R s m args below meth c T locs cells slots) (hx : p.tables.exec = Jvm.exec) {pc : Nat} {Ls : Array Slot} {z : Int64} {rest : List Value} (hret : meth.sig.returnType = some .long) (hd : decode c.code pc = .ok (.lreturn, 1)) {fs : List Frame}
    (hl : ∀ (f : JFrame) (acts : List Action), f.method = m → f.locked = none → f.entered = [] → (doReturn e (T.setTop f) acts (some (.long z))).1 = T.setFrames fs) : Steps p.tables e below (T.setTop (mkF m pc Ls (.long z :: rest))) (T.setFrames fs) :=
  retOut X hx hret rfl (Or.inr (Or.inl ⟨rfl, rfl, z, rfl⟩)) hd hl
theorem narA {t : FieldType} {w : Value} (ht : t.isReference = true) (hw : w.isRef = true) : narrow t w = w := by
  rcases ref_cases hw with rfl | ⟨z, rfl⟩ <;> cases t <;> first | rfl | (simp [FieldType.isReference] at ht)
theorem retA (X : Stand p l e R s m args below meth c T locs cells slots) (hx : p.tables.exec = Jvm.exec) {pc : Nat} {Ls : Array Slot} {t : FieldType} {w : Value} {rest : List Value} (hret : meth.sig.returnType = some t) (ht : t.isReference = true) (hw : w.isRef = true) (hd : decode c.code pc = .ok (.areturn, 1)) {fs : List Frame}
    (hl : ∀ (f : JFrame) (acts : List Action), f.method = m → f.locked = none → f.entered = [] → (doReturn e (T.setTop f) acts (some w)).1 = T.setFrames fs) : Steps p.tables e below (T.setTop (mkF m pc Ls (w :: rest))) (T.setFrames fs) :=
  retOut X hx hret (narA ht hw) (Or.inr (Or.inr (Or.inr (Or.inr ⟨rfl, ht, hw⟩)))) hd hl
theorem own_pack {n0 : Nat} {L Lc : List Loc} {k n rc rs C S' : Nat} (X : Stand p l e R s m args below meth c T L k n) (hl : L = locs ++ Lc) (hk : k = cells + rc) (hn : n = slots + rs) (N : Fr n0 locs) (Nq : Fr n0 Lc) (hC : cells + rc = C) (hS : slots + rs = S') : ∃ lc, Stand p l e R s m args below meth c T lc C S' ∧ Fr n0 lc := by
  subst hl hk hn hC hS; exact ⟨_, X, N.app Nq⟩
theorem own_pack1 {n0 : Nat} {a : Addr} {sl : Nat} (X : Stand p l e R s m args below meth c T (locs ++ [⟨a, sl⟩]) cells slots) (N : Fr n0 locs) (q : n0 ≤ a) : ∃ lc, Stand p l e R s m args below meth c T lc cells slots ∧ Fr n0 lc := ⟨_, X, Fr.snoc X N q⟩
/-- the run from a comes to an end that Q allows -/
def own_G (tb : Tables) (e : Env) (below : List Frame) (s : State) (Q : Option Value → Heap → List Loc → Prop) (C S : Nat) (a : State) : Prop :=
  ∃ (t : State) (o : Outcome), Steps tb e below a t ∧ t.status = .running ∧ Ended t below o ∧ ∃ v L, o = .returned v ∧ Q v t.heap L ∧ FrameEnd s o t L C S
theorem own_thr {tb : Tables} {Q : Option Value → Heap → List Loc → Prop} {C S : Nat} {a b : State} (h : ∀ t, Steps tb e below a t → Steps tb e below b t) (g : own_G tb e below s Q C S a) : own_G tb e below s Q C S b := by
  obtain ⟨t, o, h1, h2⟩ := g; exact ⟨t, o, h t h1, h2⟩
theorem own_end (X : Stand p l e R s m args below meth c T locs cells slots) (hlk : meth.locks = false) {v : Option Value} (hv : meth.sig.returnType = none → v = none) {g : JFrame} {Q : Option Value → Heap → List Loc → Prop} {C S : Nat}
    (hr : ∀ fs, (∀ (f : JFrame) (acts : List Action), f.method = m → f.locked = none → f.entered = [] → (doReturn e (T.setTop f) acts v).1 = T.setFrames fs) → Steps p.tables e below (T.setTop g) (T.setFrames fs))
    (hQ : Q v T.heap locs) (hC : cells ≤ C) (hS : slots ≤ S) : own_G p.tables e below s Q C S (T.setTop g) := by
  obtain ⟨fs, hr', hrun, hended, hW, hsame⟩ := X.leave (v := v) hv hlk
  exact ⟨_, _, hr fs hr', hrun, hended, _, _, rfl, hQ, ⟨_, rfl⟩, hW, hsame.mono hC hS⟩
def own_GW (tb : Tables) (e : Env) (below : List Frame) (s : State) (Q : Option Value → Heap → List Loc → Prop) (C S : Nat) (a : State) : Prop :=
  ∃ (t : State) (o : Outcome), Steps tb e below a t ∧ t.status = .running ∧ Ended t below o ∧ ∃ v L, o = .returned v ∧ Q v t.heap L ∧ ReturnedEndW s o t L C S
theorem own_thrW {tb : Tables} {Q : Option Value → Heap → List Loc → Prop} {C S : Nat} {a b : State} (h : ∀ t, Steps tb e below a t → Steps tb e below b t) (g : own_GW tb e below s Q C S a) : own_GW tb e below s Q C S b := by
  obtain ⟨t, o, h1, h2⟩ := g; exact ⟨t, o, h t h1, h2⟩
theorem own_endW {vm₁ : Vm} {k : Nat} (X : Stand p l e R (s.setVm vm₁) m args below meth c T locs cells slots) (hS : s.Since vm₁ k) (hk : k ≤ T.heap.size) (hlk : meth.locks = false) {v : Option Value} (hv : meth.sig.returnType = none → v = none) {g : JFrame} {Q : Option Value → Heap → List Loc → Prop} {C S : Nat}
    (hr : ∀ fs, (∀ (f : JFrame) (acts : List Action), f.method = m → f.locked = none → f.entered = [] → (doReturn e (T.setTop f) acts v).1 = T.setFrames fs) → Steps p.tables e below (T.setTop g) (T.setFrames fs))
    (hQ : Q v T.heap locs) (hC : cells ≤ C) (hSl : slots ≤ S) : own_GW p.tables e below s Q C S (T.setTop g) := by
  obtain ⟨fs, hr', hrun, hended, hret, hW, hint, hsame⟩ := X.leaveW hS hk (v := v) hv hlk
  exact ⟨_, _, hr fs hr', hrun, hended, _, _, rfl, hQ, ⟨_, rfl⟩, hW, hint, hsame.mono hC hSl⟩
end New
end Jvm.RoadKit
namespace Jvm.Pilot.@@N@@
open Jvm Jvm.ClassFile Sem Op Lib Jvm.Free Jvm.Stand Jvm.LawKit Jvm.RoadKit Bundle Jvm.Pilot.@@N@@.Jvm.D
theorem d1_0 : decode method_2_code 0 = .ok (.lload_n 0, 1) := by decide +kernel
theorem d1_1 : decode method_2_code 1 = .ok (.lconst 0, 1) := by decide +kernel
theorem d1_2 : decode method_2_code 2 = .ok (.lcmp, 1) := by decide +kernel
theorem d1_3 : decode method_2_code 3 = .ok (.ifCond .ne 5, 3) := by decide +kernel
theorem d1_6 : decode method_2_code 6 = .ok (.lconst 1, 1) := by decide +kernel
theorem d1_7 : decode method_2_code 7 = .ok (.lreturn, 1) := by decide +kernel
theorem d1_8 : decode method_2_code 8 = .ok (.lload_n 0, 1) := by decide +kernel
theorem d1_9 : decode method_2_code 9 = .ok (.lreturn, 1) := by decide +kernel
theorem pn_com_example_bouncer_bouncer_RequestIdEqualsPinLaw : plainName "com/example/bouncer/bouncer/RequestIdEqualsPinLaw" = true := by first | (simp [plainName, overriddenIn]; done) | decide +kernel
theorem ef_rmZ (m : MethodId) (q0 : Int64)  : entryFrame m #[(.long q0)] 2 = mkF m 0 #[.val (.long q0), .second] [] := by first |  (simp [entryFrame, mkF, argsToLocals, Value.category]; done) | rfl
def f_rmZ (q0 : Int64) : Int64 := if q0 = (0 : Int64) then (1 : Int64) else q0
def Q_rmZ (Z : State) (q0 : Int64) (h0 : Heap) (n0 : Nat) (v : Option Value) (h : Heap) (L : List Loc) : Prop := v = some (.long (f_rmZ q0)) ∧ Fr n0 L ∧ h = h0
set_option maxRecDepth 65536 in
set_option maxHeartbeats 40000000 in
theorem rmZ (l : Launch) (Z : State) (a0 : Array Value) (hw : ∀ d ∈ tables_1, d.before a0 Z = true) (ws : List Jvm.Cond) (q0 : Int64) (h0 : Heap) (n0 : Nat) (Z0 : n0 ≤ h0.size) :
    MetFree l (⟨"com/example/bouncer/bouncer/RequestIdEqualsPinLaw", "nz", "(J)J"⟩ : MethodName) (head1 (Jvm.Cond.code (⟨"com/example/bouncer/bouncer/RequestIdEqualsPinLaw", "nz", "(J)J"⟩ : MethodName) method_2_code 2 (some .long) :: ws) ({ frames := 0, cells := 0, slots := 0, locals := 0 } : Room)) (fun a U => a = #[(.long q0)] ∧ Z.Warmed39 U.vm ∧ U.heap = h0) (fun _ _ _ _ _ => True) (fun _ U o U' => ∃ v L, o = .returned v ∧ Q_rmZ Z q0 h0 n0 v U'.heap L ∧ FrameEnd U o U' L ({ frames := 0, cells := 0, slots := 0, locals := 0 } : Room).cells ({ frames := 0, cells := 0, slots := 0, locals := 0 } : Room).slots) := by
  refine MetFree.of_bodySF (plainFor_of_name pn_com_example_bouncer_bouncer_RequestIdEqualsPinLaw) hisR ?_
  intro p e s m args below meth c s₁ Bd hml0 hP hK
  obtain ⟨rfl, hZ, hh⟩ := hP
  have hx := Bd.exec
  have hby := Bd.bytes
  have hml : c.maxLocals = 2 := hml0
  have hown : s.vm.findClass "com/example/bouncer/bouncer/RequestIdEqualsPinLaw" = some m.cls := findClass_of_methodNamed Bd.named
  have hnm := (name_of_methodNamed Bd.named Bd.method).1
  have hlk := Bd.notSynchronized
  have X0 : Stand p l e ({ frames := 0, cells := 0, slots := 0, locals := 0 } : Room) s m #[(.long q0)] below meth c s₁ [] 0 0 := Stand.of_body Bd
  have e0 : s₁.heap = h0 := by rw [← hh, Bd.state]; rfl
  have N0 := Fr.nil n0
  show own_G p.tables e below s (Q_rmZ Z q0 h0 n0) ({ frames := 0, cells := 0, slots := 0, locals := 0 } : Room).cells ({ frames := 0, cells := 0, slots := 0, locals := 0 } : Room).slots _
  refine own_thr (a := s₁.setTop (mkF m 0 #[.val (.long q0), .second] [])) (fun t kt => castTop (ef_rmZ m q0) kt) ?_
  refine own_thr (a := s₁.setTop (mkF m 3 #[.val (.long q0), .second] [(.int (lcmpW q0 (0 : Int64)))])) (fun t kt => ?_) ?_
  · show Steps p.tables e below (s₁.setTop (mkF m 0 #[.val (.long q0), .second] [])) _
    refine XS.lloadN X0.here hx rfl (hb hby d1_0) rfl ?_
    show Steps p.tables e below (s₁.setTop (mkF m 1 #[.val (.long q0), .second] [(.long q0)])) _
    refine XS.lconst X0.here hx rfl (hb hby d1_1) ?_
    show Steps p.tables e below (s₁.setTop (mkF m 2 #[.val (.long q0), .second] [(.long (0 : Int64)), (.long q0)])) _
    refine XS.lcmp X0.here hx rfl (hb hby d1_2) rfl ?_
    exact kt
  by_cases hc1 : q0 = (0 : Int64)
  · refine own_thr (a := s₁.setTop (mkF m 7 #[.val (.long q0), .second] [(.long (1 : Int64))])) (fun t kt => ?_) ?_
    · show Steps p.tables e below (s₁.setTop (mkF m 3 #[.val (.long q0), .second] [(.int (lcmpW q0 (0 : Int64)))])) _
      refine XS.ifNo X0.here hx rfl (hb hby d1_3) rfl ((if0 _ _).trans (teq ((lw_eq q0 (0 : Int64)).mpr hc1)).2) ?_
      show Steps p.tables e below (s₁.setTop (mkF m 6 #[.val (.long q0), .second] [])) _
      refine XS.lconst X0.here hx rfl (hb hby d1_6) ?_
      exact kt
    exact own_end X0 hlk (v := some (.long (1 : Int64))) (fun h => by rw [Bd.returns] at h; cases h) (fun fs hr => retJ X0 hx Bd.returns (hb hby d1_7) hr) (by rw [e0]; exact ⟨(by rw [f_rmZ, if_pos hc1]), N0, rfl⟩) (by decide : 0 ≤ _) (by decide : 0 ≤ _)
  · refine own_thr (a := s₁.setTop (mkF m 9 #[.val (.long q0), .second] [(.long q0)])) (fun t kt => ?_) ?_
    · show Steps p.tables e below (s₁.setTop (mkF m 3 #[.val (.long q0), .second] [(.int (lcmpW q0 (0 : Int64)))])) _
      refine XS.ifYes X0.here hx rfl (pc0 := 3) (pc' := 8) rfl (hb hby d1_3) rfl ((if0 _ _).trans (feq (fun q => hc1 ((lw_eq q0 (0 : Int64)).mp q))).2) (by decide) (by decide) ?_
      show Steps p.tables e below (s₁.setTop (mkF m 8 #[.val (.long q0), .second] [])) _
      refine XS.lloadN X0.here hx rfl (hb hby d1_8) rfl ?_
      exact kt
    exact own_end X0 hlk (v := some (.long q0)) (fun h => by rw [Bd.returns] at h; cases h) (fun fs hr => retJ X0 hx Bd.returns (hb hby d1_9) hr) (by rw [e0]; exact ⟨(by rw [f_rmZ, if_neg hc1]), N0, rfl⟩) (by decide : 0 ≤ _) (by decide : 0 ≤ _)
theorem d2_0 : decode prog_12_method_1_code 0 = .ok (.aload_n 0, 1) := by decide +kernel
theorem d2_1 : decode prog_12_method_1_code 1 = .ok (.invokespecial 1, 3) := by decide +kernel
theorem d2_4 : decode prog_12_method_1_code 4 = .ok (.lload_n 1, 1) := by decide +kernel
theorem d2_5 : decode prog_12_method_1_code 5 = .ok (.lconst 0, 1) := by decide +kernel
theorem d2_6 : decode prog_12_method_1_code 6 = .ok (.lcmp, 1) := by decide +kernel
theorem d2_7 : decode prog_12_method_1_code 7 = .ok (.ifCond .ne 13, 3) := by decide +kernel
theorem d2_20 : decode prog_12_method_1_code 20 = .ok (.lload_n 3, 1) := by decide +kernel
theorem d2_21 : decode prog_12_method_1_code 21 = .ok (.lconst 0, 1) := by decide +kernel
theorem d2_22 : decode prog_12_method_1_code 22 = .ok (.lcmp, 1) := by decide +kernel
theorem d2_23 : decode prog_12_method_1_code 23 = .ok (.ifCond .ge 27, 3) := by decide +kernel
theorem d2_50 : decode prog_12_method_1_code 50 = .ok (.aload_n 0, 1) := by decide +kernel
theorem d2_51 : decode prog_12_method_1_code 51 = .ok (.lload_n 1, 1) := by decide +kernel
theorem d2_52 : decode prog_12_method_1_code 52 = .ok (.putfield 28, 3) := by decide +kernel
theorem d2_55 : decode prog_12_method_1_code 55 = .ok (.aload_n 0, 1) := by decide +kernel
theorem d2_56 : decode prog_12_method_1_code 56 = .ok (.lload_n 3, 1) := by decide +kernel
theorem d2_57 : decode prog_12_method_1_code 57 = .ok (.putfield 34, 3) := by decide +kernel
theorem d2_60 : decode prog_12_method_1_code 60 = .ok (.return_, 1) := by decide +kernel
theorem pn_com_example_bouncer_bouncer_RequestId : plainName "com/example/bouncer/bouncer/RequestId" = true := by first | (simp [plainName, overriddenIn]; done) | decide +kernel
theorem ef_rmI (m : MethodId) (o0 : Addr) (q1 : Int64) (q2 : Int64)  : entryFrame m #[(.ref o0), (.long q1), (.long q2)] 5 = mkF m 0 #[.val (.ref o0), .val (.long q1), .second, .val (.long q2), .second] [] := by first |  (simp [entryFrame, mkF, argsToLocals, Value.category]; done) | rfl
def Q_rmI (Z : State) (o0 : Addr) (q1 : Int64) (q2 : Int64) (h0 : Heap) (n0 : Nat) (v : Option Value) (h : Heap) (L : List Loc) : Prop := v = none ∧ Fr n0 L ∧ Keep h0 h [o0] ∧ Exa Z h o0 "com/example/bouncer/bouncer/RequestId" ∧ Fld Z h o0 "com/example/bouncer/bouncer/RequestId" "clientId" "J" (.long q1) ∧ Fld Z h o0 "com/example/bouncer/bouncer/RequestId" "requestNumber" "J" (.long q2)
set_option maxRecDepth 65536 in
set_option maxHeartbeats 40000000 in
theorem rmI (l : Launch) (Z : State) (a0 : Array Value) (hw : ∀ d ∈ tables_1, d.before a0 Z = true) (ws : List Jvm.Cond) (o0 : Addr) (q1 : Int64) (q2 : Int64) (h0 : Heap) (n0 : Nat) (Z0 : n0 ≤ h0.size) (E_o0 : Exa Z h0 o0 "com/example/bouncer/bouncer/RequestId") (F_clientId_o0 : Fld Z h0 o0 "com/example/bouncer/bouncer/RequestId" "clientId" "J" (.long (0 : Int64))) (F_requestNumber_o0 : Fld Z h0 o0 "com/example/bouncer/bouncer/RequestId" "requestNumber" "J" (.long (0 : Int64))) (g_o0 : n0 ≤ o0) (hp1 : ¬ q1 = (0 : Int64)) (hp2 : ¬ q2 < (0 : Int64)) :
    MetFree l (⟨"com/example/bouncer/bouncer/RequestId", "<init>", "(JJ)V"⟩ : MethodName) (head1 (Jvm.Cond.code (⟨"com/example/bouncer/bouncer/RequestId", "<init>", "(JJ)V"⟩ : MethodName) prog_12_method_1_code 5 none :: ws) ({ frames := 1, cells := 0, slots := 0, locals := 12 } : Room)) (fun a U => a = #[(.ref o0), (.long q1), (.long q2)] ∧ Z.Warmed39 U.vm ∧ U.heap = h0) (fun _ _ _ _ _ => True) (fun _ U o U' => ∃ v L, o = .returned v ∧ Q_rmI Z o0 q1 q2 h0 n0 v U'.heap L ∧ FrameEnd U o U' L ({ frames := 1, cells := 0, slots := 0, locals := 12 } : Room).cells ({ frames := 1, cells := 0, slots := 0, locals := 12 } : Room).slots) := by
  refine MetFree.of_bodySF (plainFor_of_name pn_com_example_bouncer_bouncer_RequestId) hisR ?_
  intro p e s m args below meth c s₁ Bd hml0 hP hK
  obtain ⟨rfl, hZ, hh⟩ := hP
  have hx := Bd.exec
  have hby := Bd.bytes
  have hml : c.maxLocals = 5 := hml0
  have hown : s.vm.findClass "com/example/bouncer/bouncer/RequestId" = some m.cls := findClass_of_methodNamed Bd.named
  have hnm := (name_of_methodNamed Bd.named Bd.method).1
  have hlk := Bd.notSynchronized
  have X0 : Stand p l e ({ frames := 1, cells := 0, slots := 0, locals := 12 } : Room) s m #[(.ref o0), (.long q1), (.long q2)] below meth c s₁ [] 0 0 := Stand.of_body Bd
  have e0 : s₁.heap = h0 := by rw [← hh, Bd.state]; rfl
  have N0 := Fr.nil n0
  show own_G p.tables e below s (Q_rmI Z o0 q1 q2 h0 n0) ({ frames := 1, cells := 0, slots := 0, locals := 12 } : Room).cells ({ frames := 1, cells := 0, slots := 0, locals := 12 } : Room).slots _
  refine own_thr (a := s₁.setTop (mkF m 0 #[.val (.ref o0), .val (.long q1), .second, .val (.long q2), .second] [])) (fun t kt => castTop (ef_rmI m o0 q1 q2) kt) ?_
  refine own_thr (a := s₁.setTop (mkF m 1 #[.val (.ref o0), .val (.long q1), .second, .val (.long q2), .second] [(.ref o0)])) (fun t kt => ?_) ?_
  · show Steps p.tables e below (s₁.setTop (mkF m 0 #[.val (.ref o0), .val (.long q1), .second, .val (.long q2), .second] [])) _
    refine XS.aloadN X0.here hx rfl (hb hby d2_0) rfl rfl ?_
    exact kt
  obtain ⟨T1, X1, e1, st1⟩ := initO X0 hx hZ hown (hw _ (List.mem_of_getElem? (i := 11) rfl)) (hw _ (List.mem_of_getElem? (i := 12) rfl)) (hw _ (List.mem_of_getElem? (i := 13) rfl)) e0 (g := (mkF m 1 #[.val (.ref o0), .val (.long q1), .second, .val (.long q2), .second] [(.ref o0)])) rfl (by rw [hml]; rfl) rfl (hb hby d2_1) (by decide) (W := 0) (by show 2 * 0 + _ ≤ _; exact Nat.le_of_eq rfl) (by decide)
  refine own_thr (a := T1.setTop (mkF m 4 #[.val (.ref o0), .val (.long q1), .second, .val (.long q2), .second] [])) (fun t kt => st1 t kt) ?_
  refine own_thr (a := T1.setTop (mkF m 52 #[.val (.ref o0), .val (.long q1), .second, .val (.long q2), .second] [(.long q1), (.ref o0)])) (fun t kt => ?_) ?_
  · show Steps p.tables e below (T1.setTop (mkF m 4 #[.val (.ref o0), .val (.long q1), .second, .val (.long q2), .second] [])) _
    refine XS.lloadN X1.here hx rfl (hb hby d2_4) rfl ?_
    show Steps p.tables e below (T1.setTop (mkF m 5 #[.val (.ref o0), .val (.long q1), .second, .val (.long q2), .second] [(.long q1)])) _
    refine XS.lconst X1.here hx rfl (hb hby d2_5) ?_
    show Steps p.tables e below (T1.setTop (mkF m 6 #[.val (.ref o0), .val (.long q1), .second, .val (.long q2), .second] [(.long (0 : Int64)), (.long q1)])) _
    refine XS.lcmp X1.here hx rfl (hb hby d2_6) rfl ?_
    show Steps p.tables e below (T1.setTop (mkF m 7 #[.val (.ref o0), .val (.long q1), .second, .val (.long q2), .second] [(.int (lcmpW q1 (0 : Int64)))])) _
    refine XS.ifYes X1.here hx rfl (pc0 := 7) (pc' := 20) rfl (hb hby d2_7) rfl ((if0 _ _).trans (feq (fun q => hp1 ((lw_eq q1 (0 : Int64)).mp q))).2) (by decide) (by decide) ?_
    show Steps p.tables e below (T1.setTop (mkF m 20 #[.val (.ref o0), .val (.long q1), .second, .val (.long q2), .second] [])) _
    refine XS.lloadN X1.here hx rfl (hb hby d2_20) rfl ?_
    show Steps p.tables e below (T1.setTop (mkF m 21 #[.val (.ref o0), .val (.long q1), .second, .val (.long q2), .second] [(.long q2)])) _
    refine XS.lconst X1.here hx rfl (hb hby d2_21) ?_
    show Steps p.tables e below (T1.setTop (mkF m 22 #[.val (.ref o0), .val (.long q1), .second, .val (.long q2), .second] [(.long (0 : Int64)), (.long q2)])) _
    refine XS.lcmp X1.here hx rfl (hb hby d2_22) rfl ?_
    show Steps p.tables e below (T1.setTop (mkF m 23 #[.val (.ref o0), .val (.long q1), .second, .val (.long q2), .second] [(.int (lcmpW q2 (0 : Int64)))])) _
    refine XS.ifYes X1.here hx rfl (pc0 := 23) (pc' := 50) rfl (hb hby d2_23) rfl ((if0 _ _).trans (flt (fun q => hp2 ((lw_lt q2 (0 : Int64)).mp q))).2.1) (by decide) (by decide) ?_
    show Steps p.tables e below (T1.setTop (mkF m 50 #[.val (.ref o0), .val (.long q1), .second, .val (.long q2), .second] [])) _
    refine XS.aloadN X1.here hx rfl (hb hby d2_50) rfl rfl ?_
    show Steps p.tables e below (T1.setTop (mkF m 51 #[.val (.ref o0), .val (.long q1), .second, .val (.long q2), .second] [(.ref o0)])) _
    refine XS.lloadN X1.here hx rfl (hb hby d2_51) rfl ?_
    exact kt
  obtain ⟨T2, h2, X2, e2, W2, st2⟩ := putF X1 hx hZ hown (host := "") (Or.inl (hw _ (List.mem_of_getElem? (i := 14) rfl))) Via.refl e1 F_clientId_o0 E_o0 (Or.inr ⟨(hw _ (List.mem_of_getElem? (i := 15) rfl)), rfl, hnm⟩) (hw _ (List.mem_of_getElem? (i := 6) rfl)) (ty := .long) (by decide) rfl rfl (g := (mkF m 52 #[.val (.ref o0), .val (.long q1), .second, .val (.long q2), .second] [(.long q1), (.ref o0)])) rfl rfl (hb hby d2_52)
  have Fw2 := F_clientId_o0.same W2
  have Z3 : n0 ≤ h2.size := Nat.le_trans Z0 (Nat.le_of_eq W2.size.symm)
  have Z3h : h0.size ≤ h2.size := Nat.le_trans (Nat.le_refl h0.size) (Nat.le_of_eq W2.size.symm)
  obtain ⟨lc2, X2, N2⟩ := own_pack1 X2 N0 g_o0
  refine own_thr (a := T2.setTop (mkF m 55 #[.val (.ref o0), .val (.long q1), .second, .val (.long q2), .second] [])) (fun t kt => st2 t kt) ?_
  refine own_thr (a := T2.setTop (mkF m 57 #[.val (.ref o0), .val (.long q1), .second, .val (.long q2), .second] [(.long q2), (.ref o0)])) (fun t kt => ?_) ?_
  · show Steps p.tables e below (T2.setTop (mkF m 55 #[.val (.ref o0), .val (.long q1), .second, .val (.long q2), .second] [])) _
    refine XS.aloadN X2.here hx rfl (hb hby d2_55) rfl rfl ?_
    show Steps p.tables e below (T2.setTop (mkF m 56 #[.val (.ref o0), .val (.long q1), .second, .val (.long q2), .second] [(.ref o0)])) _
    refine XS.lloadN X2.here hx rfl (hb hby d2_56) rfl ?_
    exact kt
  have c4 := (F_requestNumber_o0.other W2 (Or.inr (slot_ne (Or.inr (hw _ (List.mem_of_getElem? (i := 17) rfl))) (Or.inr (hw _ (List.mem_of_getElem? (i := 15) rfl))) (by decide) (t := .long) (t' := .long) (by decide) (by decide))))
  obtain ⟨T5, h5, X5, e5, W5, st5⟩ := putF X2 hx hZ hown (host := "") (Or.inl (hw _ (List.mem_of_getElem? (i := 16) rfl))) Via.refl e2 c4 (E_o0.wr W2) (Or.inr ⟨(hw _ (List.mem_of_getElem? (i := 17) rfl)), rfl, hnm⟩) (hw _ (List.mem_of_getElem? (i := 6) rfl)) (ty := .long) (by decide) rfl rfl (g := (mkF m 57 #[.val (.ref o0), .val (.long q1), .second, .val (.long q2), .second] [(.long q2), (.ref o0)])) rfl rfl (hb hby d2_57)
  have Fw5 := c4.same W5
  have Z6 : n0 ≤ h5.size := Nat.le_trans Z3 (Nat.le_of_eq W5.size.symm)
  have Z6h : h0.size ≤ h5.size := Nat.le_trans Z3h (Nat.le_of_eq W5.size.symm)
  obtain ⟨lc5, X5, N5⟩ := own_pack1 X5 N2 g_o0
  refine own_thr (a := T5.setTop (mkF m 60 #[.val (.ref o0), .val (.long q1), .second, .val (.long q2), .second] [])) (fun t kt => st5 t kt) ?_
  have c7 := (Fw2.other W5 (Or.inr (slot_ne (Or.inr (hw _ (List.mem_of_getElem? (i := 15) rfl))) (Or.inr (hw _ (List.mem_of_getElem? (i := 17) rfl))) (by decide) (t := .long) (t' := .long) (by decide) (by decide))))
  exact own_end X5 hlk (v := none) (fun _ => rfl) (fun fs hr => X5.returnOut hx Bd.returns (hb hby d2_60) hr) (by rw [e5]; exact ⟨rfl, N5, (((Keep.refl h0 [o0]).wr W2 (Or.inl (List.mem_of_getElem? (i := 0) rfl))).wr W5 (Or.inl (List.mem_of_getElem? (i := 0) rfl))), ((E_o0.wr W2).wr W5), c7, Fw5⟩) (by decide : 0 ≤ _) (by decide : 0 ≤ _)
theorem d7_0 : decode jdk_18_method_1_code 0 = .ok (.aload_n 0, 1) := by decide +kernel
theorem d7_1 : decode jdk_18_method_1_code 1 = .ok (.invokespecial 1, 3) := by decide +kernel
theorem d7_4 : decode jdk_18_method_1_code 4 = .ok (.return_, 1) := by decide +kernel
theorem pn_java_lang_Number : plainName "java/lang/Number" = true := by first | (simp [plainName, overriddenIn]; done) | decide +kernel
theorem ef_rmNI (m : MethodId) (o0 : Addr)  : entryFrame m #[(.ref o0)] 1 = mkF m 0 #[.val (.ref o0)] [] := by first |  (simp [entryFrame, mkF, argsToLocals, Value.category]; done) | rfl
def Q_rmNI (Z : State) (o0 : Addr) (h0 : Heap) (n0 : Nat) (v : Option Value) (h : Heap) (L : List Loc) : Prop := v = none ∧ Fr n0 L ∧ h = h0
set_option maxRecDepth 65536 in
set_option maxHeartbeats 40000000 in
theorem rmNI (l : Launch) (Z : State) (a0 : Array Value) (hw : ∀ d ∈ tables_1, d.before a0 Z = true) (ws : List Jvm.Cond) (o0 : Addr) (h0 : Heap) (n0 : Nat) (Z0 : n0 ≤ h0.size) :
    MetFree l (⟨"java/lang/Number", "<init>", "()V"⟩ : MethodName) (head1 (Jvm.Cond.code (⟨"java/lang/Number", "<init>", "()V"⟩ : MethodName) jdk_18_method_1_code 1 none :: ws) ({ frames := 1, cells := 0, slots := 0, locals := 12 } : Room)) (fun a U => a = #[(.ref o0)] ∧ Z.Warmed39 U.vm ∧ U.heap = h0) (fun _ _ _ _ _ => True) (fun _ U o U' => ∃ v L, o = .returned v ∧ Q_rmNI Z o0 h0 n0 v U'.heap L ∧ FrameEnd U o U' L ({ frames := 1, cells := 0, slots := 0, locals := 12 } : Room).cells ({ frames := 1, cells := 0, slots := 0, locals := 12 } : Room).slots) := by
  refine MetFree.of_bodySF (plainFor_of_name pn_java_lang_Number) hisR ?_
  intro p e s m args below meth c s₁ Bd hml0 hP hK
  obtain ⟨rfl, hZ, hh⟩ := hP
  have hx := Bd.exec
  have hby := Bd.bytes
  have hml : c.maxLocals = 1 := hml0
  have hown : s.vm.findClass "java/lang/Number" = some m.cls := findClass_of_methodNamed Bd.named
  have hnm := (name_of_methodNamed Bd.named Bd.method).1
  have hlk := Bd.notSynchronized
  have X0 : Stand p l e ({ frames := 1, cells := 0, slots := 0, locals := 12 } : Room) s m #[(.ref o0)] below meth c s₁ [] 0 0 := Stand.of_body Bd
  have e0 : s₁.heap = h0 := by rw [← hh, Bd.state]; rfl
  have N0 := Fr.nil n0
  show own_G p.tables e below s (Q_rmNI Z o0 h0 n0) ({ frames := 1, cells := 0, slots := 0, locals := 12 } : Room).cells ({ frames := 1, cells := 0, slots := 0, locals := 12 } : Room).slots _
  refine own_thr (a := s₁.setTop (mkF m 0 #[.val (.ref o0)] [])) (fun t kt => castTop (ef_rmNI m o0) kt) ?_
  refine own_thr (a := s₁.setTop (mkF m 1 #[.val (.ref o0)] [(.ref o0)])) (fun t kt => ?_) ?_
  · show Steps p.tables e below (s₁.setTop (mkF m 0 #[.val (.ref o0)] [])) _
    refine XS.aloadN X0.here hx rfl (hb hby d7_0) rfl rfl ?_
    exact kt
  obtain ⟨T1, X1, e1, st1⟩ := initO X0 hx hZ hown (hw _ (List.mem_of_getElem? (i := 48) rfl)) (hw _ (List.mem_of_getElem? (i := 12) rfl)) (hw _ (List.mem_of_getElem? (i := 13) rfl)) e0 (g := (mkF m 1 #[.val (.ref o0)] [(.ref o0)])) rfl (by rw [hml]; rfl) rfl (hb hby d7_1) (by decide) (W := 0) (by show 2 * 0 + _ ≤ _; exact Nat.le_of_eq rfl) (by decide)
  refine own_thr (a := T1.setTop (mkF m 4 #[.val (.ref o0)] [])) (fun t kt => st1 t kt) ?_
  exact own_end X1 hlk (v := none) (fun _ => rfl) (fun fs hr => X1.returnOut hx Bd.returns (hb hby d7_4) hr) (by rw [e1]; exact ⟨rfl, N0, rfl⟩) (by decide : 0 ≤ _) (by decide : 0 ≤ _)
theorem d6_0 : decode jdk_35_method_26_code 0 = .ok (.aload_n 0, 1) := by decide +kernel
theorem pd__28_29V : parseMethodDescriptor "()V" = some ⟨[], none⟩ := by decide +kernel
theorem d6_1 : decode jdk_35_method_26_code 1 = .ok (.invokespecial 270, 3) := by decide +kernel
theorem d6_4 : decode jdk_35_method_26_code 4 = .ok (.aload_n 0, 1) := by decide +kernel
theorem d6_5 : decode jdk_35_method_26_code 5 = .ok (.lload_n 1, 1) := by decide +kernel
theorem d6_6 : decode jdk_35_method_26_code 6 = .ok (.putfield 273, 3) := by decide +kernel
theorem d6_9 : decode jdk_35_method_26_code 9 = .ok (.return_, 1) := by decide +kernel
theorem pn_java_lang_Long : plainName "java/lang/Long" = true := by first | (simp [plainName, overriddenIn]; done) | decide +kernel
theorem ef_rmLI (m : MethodId) (o0 : Addr) (q1 : Int64)  : entryFrame m #[(.ref o0), (.long q1)] 3 = mkF m 0 #[.val (.ref o0), .val (.long q1), .second] [] := by first |  (simp [entryFrame, mkF, argsToLocals, Value.category]; done) | rfl
def Q_rmLI (Z : State) (o0 : Addr) (q1 : Int64) (h0 : Heap) (n0 : Nat) (v : Option Value) (h : Heap) (L : List Loc) : Prop := v = none ∧ Fr n0 L ∧ Keep h0 h [o0] ∧ Exa Z h o0 "java/lang/Long" ∧ Fld Z h o0 "java/lang/Long" "value" "J" (.long q1)
set_option maxRecDepth 65536 in
set_option maxHeartbeats 40000000 in
theorem rmLI (l : Launch) (Z : State) (a0 : Array Value) (hw : ∀ d ∈ tables_1, d.before a0 Z = true) (ws : List Jvm.Cond) (o0 : Addr) (q1 : Int64) (h0 : Heap) (n0 : Nat) (Z0 : n0 ≤ h0.size) (E_o0 : Exa Z h0 o0 "java/lang/Long") (F_value_o0 : Fld Z h0 o0 "java/lang/Long" "value" "J" (.long (0 : Int64))) (g_o0 : n0 ≤ o0) :
    MetFree l (⟨"java/lang/Long", "<init>", "(J)V"⟩ : MethodName) (head1 (Jvm.Cond.code (⟨"java/lang/Long", "<init>", "(J)V"⟩ : MethodName) jdk_35_method_26_code 3 none :: ws) ({ frames := 2, cells := 0, slots := 0, locals := 24 } : Room)) (fun a U => a = #[(.ref o0), (.long q1)] ∧ Z.Warmed39 U.vm ∧ U.heap = h0) (fun _ _ _ _ _ => True) (fun _ U o U' => ∃ v L, o = .returned v ∧ Q_rmLI Z o0 q1 h0 n0 v U'.heap L ∧ FrameEnd U o U' L ({ frames := 2, cells := 0, slots := 0, locals := 24 } : Room).cells ({ frames := 2, cells := 0, slots := 0, locals := 24 } : Room).slots) := by
  refine MetFree.of_bodySF (plainFor_of_name pn_java_lang_Long) hisR ?_
  intro p e s m args below meth c s₁ Bd hml0 hP hK
  obtain ⟨rfl, hZ, hh⟩ := hP
  have hx := Bd.exec
  have hby := Bd.bytes
  have hml : c.maxLocals = 3 := hml0
  have hown : s.vm.findClass "java/lang/Long" = some m.cls := findClass_of_methodNamed Bd.named
  have hnm := (name_of_methodNamed Bd.named Bd.method).1
  have hlk := Bd.notSynchronized
  have X0 : Stand p l e ({ frames := 2, cells := 0, slots := 0, locals := 24 } : Room) s m #[(.ref o0), (.long q1)] below meth c s₁ [] 0 0 := Stand.of_body Bd
  have e0 : s₁.heap = h0 := by rw [← hh, Bd.state]; rfl
  have N0 := Fr.nil n0
  show own_G p.tables e below s (Q_rmLI Z o0 q1 h0 n0) ({ frames := 2, cells := 0, slots := 0, locals := 24 } : Room).cells ({ frames := 2, cells := 0, slots := 0, locals := 24 } : Room).slots _
  refine own_thr (a := s₁.setTop (mkF m 0 #[.val (.ref o0), .val (.long q1), .second] [])) (fun t kt => castTop (ef_rmLI m o0 q1) kt) ?_
  refine own_thr (a := s₁.setTop (mkF m 1 #[.val (.ref o0), .val (.long q1), .second] [(.ref o0)])) (fun t kt => ?_) ?_
  · show Steps p.tables e below (s₁.setTop (mkF m 0 #[.val (.ref o0), .val (.long q1), .second] [])) _
    refine XS.aloadN X0.here hx rfl (hb hby d6_0) rfl rfl ?_
    exact kt
  obtain ⟨_, _, ⟨T1, L1, k1, n1⟩, -, X1, ⟨Lc1, hQ1, l1, y1, z1⟩, st1⟩ := X0.specialBack hx (y := (⟨"java/lang/Number", "<init>", "()V"⟩ : MethodName)) rfl hown (mvT hZ (hw _ (List.mem_of_getElem? (i := 42) rfl))) (mvT hZ (hw _ (List.mem_of_getElem? (i := 43) rfl))) (mvT hZ (hw _ (List.mem_of_getElem? (i := 47) rfl))) (by decide) (backOf (W := 0) (rmNI l Z a0 hw [] o0 h0 n0 Z0) hZ (hw _ (List.mem_of_getElem? (i := 47) rfl)) (hw _ (List.mem_of_getElem? (i := 46) rfl)) (by decide) (by decide)) (g := (mkF m 1 #[.val (.ref o0), .val (.long q1), .second] [(.ref o0)])) rfl (by rw [hml]; rfl) (Steps.refl _) (a := o0) (argsL := []) (rest := []) (lenOf pd__28_29V rfl) rfl (by show 2 * 0 + _ ≤ _; exact Nat.le_of_eq rfl) (hb hby d6_1) (fun _ _ => ⟨rfl, e0, (by decide : 0 + 0 ≤ _), (by decide : 0 + 0 ≤ _)⟩)
  dsimp only [Pt.U, Pt.locs, Pt.cells, Pt.slots] at X1 l1 y1 z1 st1 hQ1
  obtain ⟨rfl, N1q, e1⟩ := hQ1
  obtain ⟨lc1, X1, N1⟩ := own_pack X1 l1 y1 z1 N0 N1q (C := 0) (S' := 0) rfl rfl
  refine own_thr (a := T1.setTop (mkF m 4 #[.val (.ref o0), .val (.long q1), .second] [])) (fun t kt => st1.trans kt) ?_
  refine own_thr (a := T1.setTop (mkF m 6 #[.val (.ref o0), .val (.long q1), .second] [(.long q1), (.ref o0)])) (fun t kt => ?_) ?_
  · show Steps p.tables e below (T1.setTop (mkF m 4 #[.val (.ref o0), .val (.long q1), .second] [])) _
    refine XS.aloadN X1.here hx rfl (hb hby d6_4) rfl rfl ?_
    show Steps p.tables e below (T1.setTop (mkF m 5 #[.val (.ref o0), .val (.long q1), .second] [(.ref o0)])) _
    refine XS.lloadN X1.here hx rfl (hb hby d6_5) rfl ?_
    exact kt
  obtain ⟨T2, h2, X2, e2, W2, st2⟩ := putF X1 hx hZ hown (host := "") (Or.inl (hw _ (List.mem_of_getElem? (i := 49) rfl))) Via.refl e1 F_value_o0 E_o0 (Or.inr ⟨(hw _ (List.mem_of_getElem? (i := 50) rfl)), rfl, hnm⟩) (hw _ (List.mem_of_getElem? (i := 37) rfl)) (ty := .long) (by decide) rfl rfl (g := (mkF m 6 #[.val (.ref o0), .val (.long q1), .second] [(.long q1), (.ref o0)])) rfl rfl (hb hby d6_6)
  have Fw2 := F_value_o0.same W2
  have Z3 : n0 ≤ h2.size := Nat.le_trans Z0 (Nat.le_of_eq W2.size.symm)
  have Z3h : h0.size ≤ h2.size := Nat.le_trans (Nat.le_refl h0.size) (Nat.le_of_eq W2.size.symm)
  obtain ⟨lc2, X2, N2⟩ := own_pack1 X2 N1 g_o0
  refine own_thr (a := T2.setTop (mkF m 9 #[.val (.ref o0), .val (.long q1), .second] [])) (fun t kt => st2 t kt) ?_
  exact own_end X2 hlk (v := none) (fun _ => rfl) (fun fs hr => X2.returnOut hx Bd.returns (hb hby d6_9) hr) (by rw [e2]; exact ⟨rfl, N2, ((Keep.refl h0 [o0]).wr W2 (Or.inl (List.mem_of_getElem? (i := 0) rfl))), (E_o0.wr W2), Fw2⟩) (by decide : 0 ≤ _) (by decide : 0 ≤ _)
theorem own_cidx {q : Int64} (h1 : ¬ q < (-128 : Int64)) (h2 : ¬ (127 : Int64) < q) : ¬ (q.toInt32 + (128 : Int32)) < (0 : Int32) ∧ (q.toInt32 + (128 : Int32)).toNatClampNeg < 256 := by
  rw [Int64.lt_iff_toInt_lt] at h1 h2
  have e1 : (-128 : Int64).toInt = -128 := rfl
  have e2 : (127 : Int64).toInt = 127 := rfl
  have e3 : (128 : Int32).toInt = 128 := rfl
  have e0 : (0 : Int32).toInt = 0 := rfl
  have h3 := c_l2i q
  have h4 := rng32 q.toInt32
  have h5 := c_iadd q.toInt32 (128 : Int32)
  have h6 := rng32 (q.toInt32 + (128 : Int32))
  rw [Int32.lt_iff_toInt_lt]
  refine ⟨by omega, ?_⟩
  show (q.toInt32 + (128 : Int32)).toInt.toNat < 256
  omega
theorem d4_0 : decode jdk_35_method_24_code 0 = .ok (.sipush 128, 3) := by decide +kernel
theorem d4_3 : decode jdk_35_method_24_code 3 = .ok (.istore_n 2, 1) := by decide +kernel
theorem d4_4 : decode jdk_35_method_24_code 4 = .ok (.lload_n 0, 1) := by decide +kernel
theorem d4_5 : decode jdk_35_method_24_code 5 = .ok (.ldc2_w 230, 3) := by decide +kernel
theorem d4_8 : decode jdk_35_method_24_code 8 = .ok (.lcmp, 1) := by decide +kernel
theorem d4_9 : decode jdk_35_method_24_code 9 = .ok (.ifCond .lt 22, 3) := by decide +kernel
theorem d4_31 : decode jdk_35_method_24_code 31 = .ok (.new 1, 3) := by decide +kernel
theorem d4_34 : decode jdk_35_method_24_code 34 = .ok (.dup, 1) := by decide +kernel
theorem d4_35 : decode jdk_35_method_24_code 35 = .ok (.lload_n 0, 1) := by decide +kernel
theorem pd__28J_29V : parseMethodDescriptor "(J)V" = some ⟨[.long], none⟩ := by decide +kernel
theorem d4_36 : decode jdk_35_method_24_code 36 = .ok (.invokespecial 240, 3) := by decide +kernel
theorem d4_39 : decode jdk_35_method_24_code 39 = .ok (.areturn, 1) := by decide +kernel
theorem d4_12 : decode jdk_35_method_24_code 12 = .ok (.lload_n 0, 1) := by decide +kernel
theorem d4_13 : decode jdk_35_method_24_code 13 = .ok (.ldc2_w 232, 3) := by decide +kernel
theorem d4_16 : decode jdk_35_method_24_code 16 = .ok (.lcmp, 1) := by decide +kernel
theorem d4_17 : decode jdk_35_method_24_code 17 = .ok (.ifCond .gt 14, 3) := by decide +kernel
theorem d4_20 : decode jdk_35_method_24_code 20 = .ok (.getstatic 234, 3) := by decide +kernel
theorem d4_23 : decode jdk_35_method_24_code 23 = .ok (.lload_n 0, 1) := by decide +kernel
theorem d4_24 : decode jdk_35_method_24_code 24 = .ok (.l2i, 1) := by decide +kernel
theorem d4_25 : decode jdk_35_method_24_code 25 = .ok (.sipush 128, 3) := by decide +kernel
theorem d4_28 : decode jdk_35_method_24_code 28 = .ok (.iadd, 1) := by decide +kernel
theorem d4_29 : decode jdk_35_method_24_code 29 = .ok (.aaload, 1) := by decide +kernel
theorem d4_30 : decode jdk_35_method_24_code 30 = .ok (.areturn, 1) := by decide +kernel
theorem ef_rmV (m : MethodId) (q0 : Int64)  : entryFrame m #[(.long q0)] 3 = mkF m 0 #[.val (.long q0), .second, .unset] [] := by first |  (simp [entryFrame, mkF, argsToLocals, Value.category]; done) | rfl
def Q_rmV (Z : State) (q0 : Int64) (ca : Addr) (clc : Cell) (h0 : Heap) (n0 : Nat) (v : Option Value) (h : Heap) (L : List Loc) : Prop := ∃ r : Addr, v = some (.ref r) ∧ Fr n0 L ∧ Keep h0 h [] ∧ Exa Z h r "java/lang/Long"
set_option maxRecDepth 65536 in
set_option maxHeartbeats 40000000 in
theorem rmV (l : Launch) (Z : State) (a0 : Array Value) (hw : ∀ d ∈ tables_1, d.before a0 Z = true) (ws : List Jvm.Cond) (q0 : Int64) (ca : Addr) (clc : Cell) (h0 : Heap) (n0 : Nat) (Z0 : n0 ≤ h0.size) (S_c : Sta Z h0 "java/lang/Long$LongCache" "cache" "[Ljava/lang/Long;" (.ref ca)) (Arc : Arr Z h0 ca clc (.object "java/lang/Long")) (hsz : clc.slots.size = 256) (hall : ∀ i : Nat, i < 256 → ∃ r : Addr, clc.slots[i]? = some (.ref r) ∧ Exa Z h0 r "java/lang/Long") :
    MetFree l (⟨"java/lang/Long", "valueOf", "(J)Ljava/lang/Long;"⟩ : MethodName) (head1 (Jvm.Cond.code (⟨"java/lang/Long", "valueOf", "(J)Ljava/lang/Long;"⟩ : MethodName) jdk_35_method_24_code 3 (some (.object "java/lang/Long")) :: ws) ({ frames := 3, cells := 1, slots := 1, locals := 39 } : Room)) (fun a U => a = #[(.long q0)] ∧ Z.Warmed39 U.vm ∧ U.heap = h0) (fun _ _ _ _ _ => True) (fun _ U o U' => ∃ v L, o = .returned v ∧ Q_rmV Z q0 ca clc h0 n0 v U'.heap L ∧ FrameEnd U o U' L ({ frames := 3, cells := 1, slots := 1, locals := 39 } : Room).cells ({ frames := 3, cells := 1, slots := 1, locals := 39 } : Room).slots) := by
  refine MetFree.of_bodySF (plainFor_of_name pn_java_lang_Long) hisR ?_
  intro p e s m args below meth c s₁ Bd hml0 hP hK
  obtain ⟨rfl, hZ, hh⟩ := hP
  have hx := Bd.exec
  have hby := Bd.bytes
  have hml : c.maxLocals = 3 := hml0
  have hown : s.vm.findClass "java/lang/Long" = some m.cls := findClass_of_methodNamed Bd.named
  have hnm := (name_of_methodNamed Bd.named Bd.method).1
  have hlk := Bd.notSynchronized
  have X0 : Stand p l e ({ frames := 3, cells := 1, slots := 1, locals := 39 } : Room) s m #[(.long q0)] below meth c s₁ [] 0 0 := Stand.of_body Bd
  have e0 : s₁.heap = h0 := by rw [← hh, Bd.state]; rfl
  have N0 := Fr.nil n0
  show own_G p.tables e below s (Q_rmV Z q0 ca clc h0 n0) ({ frames := 3, cells := 1, slots := 1, locals := 39 } : Room).cells ({ frames := 3, cells := 1, slots := 1, locals := 39 } : Room).slots _
  refine own_thr (a := s₁.setTop (mkF m 0 #[.val (.long q0), .second, .unset] [])) (fun t kt => castTop (ef_rmV m q0) kt) ?_
  refine own_thr (a := s₁.setTop (mkF m 9 #[.val (.long q0), .second, .val (.int (128 : Int32))] [(.int (lcmpW q0 (-128 : Int64)))])) (fun t kt => ?_) ?_
  · show Steps p.tables e below (s₁.setTop (mkF m 0 #[.val (.long q0), .second, .unset] [])) _
    refine XS.sipush X0.here hx rfl (hb hby d4_0) ?_
    show Steps p.tables e below (s₁.setTop (mkF m 3 #[.val (.long q0), .second, .unset] [(.int (128 : Int32))])) _
    refine XS.istoreN X0.here hx rfl (hb hby d4_3) rfl (l' := #[.val (.long q0), .second, .val (.int (128 : Int32))]) rfl ?_
    show Steps p.tables e below (s₁.setTop (mkF m 4 #[.val (.long q0), .second, .val (.int (128 : Int32))] [])) _
    refine XS.lloadN X0.here hx rfl (hb hby d4_4) rfl ?_
    show Steps p.tables e below (s₁.setTop (mkF m 5 #[.val (.long q0), .second, .val (.int (128 : Int32))] [(.long q0)])) _
    refine X0.ldc2Long hx hown (mvT hZ (hw _ (List.mem_of_getElem? (i := 22) rfl))) (g := (mkF m 5 #[.val (.long q0), .second, .val (.int (128 : Int32))] [(.long q0)])) rfl (hb hby d4_5) _ ?_
    show Steps p.tables e below (s₁.setTop (mkF m 8 #[.val (.long q0), .second, .val (.int (128 : Int32))] [(.long (-128 : Int64)), (.long q0)])) _
    refine XS.lcmp X0.here hx rfl (hb hby d4_8) rfl ?_
    exact kt
  by_cases hc1 : q0 < (-128 : Int64)
  · refine own_thr (a := s₁.setTop (mkF m 31 #[.val (.long q0), .second, .val (.int (128 : Int32))] [])) (fun t kt => ?_) ?_
    · show Steps p.tables e below (s₁.setTop (mkF m 9 #[.val (.long q0), .second, .val (.int (128 : Int32))] [(.int (lcmpW q0 (-128 : Int64)))])) _
      refine XS.ifYes X0.here hx rfl (pc0 := 9) (pc' := 31) rfl (hb hby d4_9) rfl ((if0 _ _).trans (tlt ((lw_lt q0 (-128 : Int64)).mpr hc1)).1) (by decide) (by decide) ?_
      exact kt
    obtain ⟨T2, h2, X2, e2, E2, A2, D2, U2, st2⟩ := newO X0 hx hZ hown (hw _ (List.mem_of_getElem? (i := 36) rfl)) (hw _ (List.mem_of_getElem? (i := 37) rfl)) (hw _ (List.mem_of_getElem? (i := 20) rfl)) e0 (g := (mkF m 31 #[.val (.long q0), .second, .val (.int (128 : Int32))] [])) rfl (hb hby d4_31) (by decide : 0 + 1 ≤ _) (by decide : 0 + 1 ≤ _)
    obtain ⟨b2, g2⟩ : ∃ z, z = h0.size := ⟨_, rfl⟩
    rw [← g2] at A2 D2 st2 U2
    have g_b2 : n0 ≤ b2 := Nat.le_trans Z0 (Nat.le_of_eq g2.symm)
    have sz_b2 : h0.size ≤ b2 := Nat.le_trans (Nat.le_refl h0.size) (Nat.le_of_eq g2.symm)
    have Z3 : n0 ≤ h2.size := Nat.le_trans Z0 E2.1
    have Z3h : h0.size ≤ h2.size := Nat.le_trans (Nat.le_refl h0.size) E2.1
    have F_value_b2 : Fld Z h2 b2 "java/lang/Long" "value" "J" (.long (0 : Int64)) := D2 (Or.inr (hw _ (List.mem_of_getElem? (i := 50) rfl))) (ty := .long) (by decide)
    refine own_thr (a := T2.setTop (mkF m 34 #[.val (.long q0), .second, .val (.int (128 : Int32))] [(.ref b2)])) (fun t kt => st2 t kt) ?_
    refine own_thr (a := T2.setTop (mkF m 36 #[.val (.long q0), .second, .val (.int (128 : Int32))] [(.long q0), (.ref b2), (.ref b2)])) (fun t kt => ?_) ?_
    · show Steps p.tables e below (T2.setTop (mkF m 34 #[.val (.long q0), .second, .val (.int (128 : Int32))] [(.ref b2)])) _
      refine XS.dup X2.here hx rfl (hb hby d4_34) rfl rfl ?_
      show Steps p.tables e below (T2.setTop (mkF m 35 #[.val (.long q0), .second, .val (.int (128 : Int32))] [(.ref b2), (.ref b2)])) _
      refine XS.lloadN X2.here hx rfl (hb hby d4_35) rfl ?_
      exact kt
    obtain ⟨_, _, ⟨T4, L4, k4, n4⟩, -, X4, ⟨Lc4, hQ4, l4, y4, z4⟩, st4⟩ := X2.specialBack hx (y := (⟨"java/lang/Long", "<init>", "(J)V"⟩ : MethodName)) rfl hown (mvT hZ (hw _ (List.mem_of_getElem? (i := 38) rfl))) (mvT hZ (hw _ (List.mem_of_getElem? (i := 39) rfl))) (mvT hZ (hw _ (List.mem_of_getElem? (i := 41) rfl))) (by decide) (backOf (W := 1) (rmLI l Z a0 hw [] b2 q0 h2 n0 Z3 A2 F_value_b2 g_b2) hZ (hw _ (List.mem_of_getElem? (i := 41) rfl)) (hw _ (List.mem_of_getElem? (i := 20) rfl)) (by decide) (by decide)) (g := (mkF m 36 #[.val (.long q0), .second, .val (.int (128 : Int32))] [(.long q0), (.ref b2), (.ref b2)])) rfl (by rw [hml]; rfl) (Steps.refl _) (a := b2) (argsL := [(.long q0)]) (rest := [(.ref b2)]) (lenOf pd__28J_29V rfl) rfl (by show 2 * 0 + _ ≤ _; exact Nat.le_of_eq rfl) (hb hby d4_36) (fun _ _ => ⟨rfl, e2, (by decide : 1 + 0 ≤ _), (by decide : 1 + 0 ≤ _)⟩)
    dsimp only [Pt.U, Pt.locs, Pt.cells, Pt.slots] at X4 l4 y4 z4 st4 hQ4
    obtain ⟨rfl, N4q, K4, o4_0, o4_1⟩ := hQ4
    have Z5 : n0 ≤ T4.heap.size := Nat.le_trans Z3 K4.1
    have Z5h : h0.size ≤ T4.heap.size := Nat.le_trans Z3h K4.1
    obtain ⟨lc4, X4, N4⟩ := own_pack X4 l4 y4 z4 N0 N4q (C := 1) (S' := 1) rfl rfl
    refine own_thr (a := T4.setTop (mkF m 39 #[.val (.long q0), .second, .val (.int (128 : Int32))] [(.ref b2)])) (fun t kt => st4.trans kt) ?_
    exact own_end X4 hlk (v := some (.ref b2)) (fun h => by rw [Bd.returns] at h; cases h) (fun fs hr => retA X4 hx Bd.returns rfl rfl (hb hby d4_39) hr) ⟨b2, rfl, N4, (((Keep.refl h0 []).ext E2).trans K4 (allS (Or.inr sz_b2) all0)), o4_0⟩ (by decide : 1 ≤ _) (by decide : 1 ≤ _)
  · refine own_thr (a := s₁.setTop (mkF m 17 #[.val (.long q0), .second, .val (.int (128 : Int32))] [(.int (lcmpW q0 (127 : Int64)))])) (fun t kt => ?_) ?_
    · show Steps p.tables e below (s₁.setTop (mkF m 9 #[.val (.long q0), .second, .val (.int (128 : Int32))] [(.int (lcmpW q0 (-128 : Int64)))])) _
      refine XS.ifNo X0.here hx rfl (hb hby d4_9) rfl ((if0 _ _).trans (flt (fun q => hc1 ((lw_lt q0 (-128 : Int64)).mp q))).1) ?_
      show Steps p.tables e below (s₁.setTop (mkF m 12 #[.val (.long q0), .second, .val (.int (128 : Int32))] [])) _
      refine XS.lloadN X0.here hx rfl (hb hby d4_12) rfl ?_
      show Steps p.tables e below (s₁.setTop (mkF m 13 #[.val (.long q0), .second, .val (.int (128 : Int32))] [(.long q0)])) _
      refine X0.ldc2Long hx hown (mvT hZ (hw _ (List.mem_of_getElem? (i := 23) rfl))) (g := (mkF m 13 #[.val (.long q0), .second, .val (.int (128 : Int32))] [(.long q0)])) rfl (hb hby d4_13) _ ?_
      show Steps p.tables e below (s₁.setTop (mkF m 16 #[.val (.long q0), .second, .val (.int (128 : Int32))] [(.long (127 : Int64)), (.long q0)])) _
      refine XS.lcmp X0.here hx rfl (hb hby d4_16) rfl ?_
      exact kt
    by_cases hc6 : (127 : Int64) < q0
    · refine own_thr (a := s₁.setTop (mkF m 31 #[.val (.long q0), .second, .val (.int (128 : Int32))] [])) (fun t kt => ?_) ?_
      · show Steps p.tables e below (s₁.setTop (mkF m 17 #[.val (.long q0), .second, .val (.int (128 : Int32))] [(.int (lcmpW q0 (127 : Int64)))])) _
        refine XS.ifYes X0.here hx rfl (pc0 := 17) (pc' := 31) rfl (hb hby d4_17) rfl ((if0 _ _).trans (tlt ((lw_gt q0 (127 : Int64)).mpr hc6)).2.2.1) (by decide) (by decide) ?_
        exact kt
      obtain ⟨T7, h7, X7, e7, E7, A7, D7, U7, st7⟩ := newO X0 hx hZ hown (hw _ (List.mem_of_getElem? (i := 36) rfl)) (hw _ (List.mem_of_getElem? (i := 37) rfl)) (hw _ (List.mem_of_getElem? (i := 20) rfl)) e0 (g := (mkF m 31 #[.val (.long q0), .second, .val (.int (128 : Int32))] [])) rfl (hb hby d4_31) (by decide : 0 + 1 ≤ _) (by decide : 0 + 1 ≤ _)
      obtain ⟨b7, g7⟩ : ∃ z, z = h0.size := ⟨_, rfl⟩
      rw [← g7] at A7 D7 st7 U7
      have g_b7 : n0 ≤ b7 := Nat.le_trans Z0 (Nat.le_of_eq g7.symm)
      have sz_b7 : h0.size ≤ b7 := Nat.le_trans (Nat.le_refl h0.size) (Nat.le_of_eq g7.symm)
      have Z8 : n0 ≤ h7.size := Nat.le_trans Z0 E7.1
      have Z8h : h0.size ≤ h7.size := Nat.le_trans (Nat.le_refl h0.size) E7.1
      have F_value_b7 : Fld Z h7 b7 "java/lang/Long" "value" "J" (.long (0 : Int64)) := D7 (Or.inr (hw _ (List.mem_of_getElem? (i := 50) rfl))) (ty := .long) (by decide)
      refine own_thr (a := T7.setTop (mkF m 34 #[.val (.long q0), .second, .val (.int (128 : Int32))] [(.ref b7)])) (fun t kt => st7 t kt) ?_
      refine own_thr (a := T7.setTop (mkF m 36 #[.val (.long q0), .second, .val (.int (128 : Int32))] [(.long q0), (.ref b7), (.ref b7)])) (fun t kt => ?_) ?_
      · show Steps p.tables e below (T7.setTop (mkF m 34 #[.val (.long q0), .second, .val (.int (128 : Int32))] [(.ref b7)])) _
        refine XS.dup X7.here hx rfl (hb hby d4_34) rfl rfl ?_
        show Steps p.tables e below (T7.setTop (mkF m 35 #[.val (.long q0), .second, .val (.int (128 : Int32))] [(.ref b7), (.ref b7)])) _
        refine XS.lloadN X7.here hx rfl (hb hby d4_35) rfl ?_
        exact kt
      obtain ⟨_, _, ⟨T9, L9, k9, n9⟩, -, X9, ⟨Lc9, hQ9, l9, y9, z9⟩, st9⟩ := X7.specialBack hx (y := (⟨"java/lang/Long", "<init>", "(J)V"⟩ : MethodName)) rfl hown (mvT hZ (hw _ (List.mem_of_getElem? (i := 38) rfl))) (mvT hZ (hw _ (List.mem_of_getElem? (i := 39) rfl))) (mvT hZ (hw _ (List.mem_of_getElem? (i := 41) rfl))) (by decide) (backOf (W := 1) (rmLI l Z a0 hw [] b7 q0 h7 n0 Z8 A7 F_value_b7 g_b7) hZ (hw _ (List.mem_of_getElem? (i := 41) rfl)) (hw _ (List.mem_of_getElem? (i := 20) rfl)) (by decide) (by decide)) (g := (mkF m 36 #[.val (.long q0), .second, .val (.int (128 : Int32))] [(.long q0), (.ref b7), (.ref b7)])) rfl (by rw [hml]; rfl) (Steps.refl _) (a := b7) (argsL := [(.long q0)]) (rest := [(.ref b7)]) (lenOf pd__28J_29V rfl) rfl (by show 2 * 0 + _ ≤ _; exact Nat.le_of_eq rfl) (hb hby d4_36) (fun _ _ => ⟨rfl, e7, (by decide : 1 + 0 ≤ _), (by decide : 1 + 0 ≤ _)⟩)
      dsimp only [Pt.U, Pt.locs, Pt.cells, Pt.slots] at X9 l9 y9 z9 st9 hQ9
      obtain ⟨rfl, N9q, K9, o9_0, o9_1⟩ := hQ9
      have Z10 : n0 ≤ T9.heap.size := Nat.le_trans Z8 K9.1
      have Z10h : h0.size ≤ T9.heap.size := Nat.le_trans Z8h K9.1
      obtain ⟨lc9, X9, N9⟩ := own_pack X9 l9 y9 z9 N0 N9q (C := 1) (S' := 1) rfl rfl
      refine own_thr (a := T9.setTop (mkF m 39 #[.val (.long q0), .second, .val (.int (128 : Int32))] [(.ref b7)])) (fun t kt => st9.trans kt) ?_
      exact own_end X9 hlk (v := some (.ref b7)) (fun h => by rw [Bd.returns] at h; cases h) (fun fs hr => retA X9 hx Bd.returns rfl rfl (hb hby d4_39) hr) ⟨b7, rfl, N9, (((Keep.refl h0 []).ext E7).trans K9 (allS (Or.inr sz_b7) all0)), o9_0⟩ (by decide : 1 ≤ _) (by decide : 1 ≤ _)
    · refine own_thr (a := s₁.setTop (mkF m 20 #[.val (.long q0), .second, .val (.int (128 : Int32))] [])) (fun t kt => ?_) ?_
      · show Steps p.tables e below (s₁.setTop (mkF m 17 #[.val (.long q0), .second, .val (.int (128 : Int32))] [(.int (lcmpW q0 (127 : Int64)))])) _
        refine XS.ifNo X0.here hx rfl (hb hby d4_17) rfl ((if0 _ _).trans (flt (fun q => hc6 ((lw_gt q0 (127 : Int64)).mp q))).2.2.1) ?_
        exact kt
      obtain ⟨T11, X11, e11, st11⟩ := getS2 X0 hx hZ hown (host := "") (Or.inl (hw _ (List.mem_of_getElem? (i := 24) rfl))) Via.refl e0 S_c (g := (mkF m 20 #[.val (.long q0), .second, .val (.int (128 : Int32))] [])) rfl (hb hby d4_20)
      refine own_thr (a := T11.setTop (mkF m 23 #[.val (.long q0), .second, .val (.int (128 : Int32))] [(.ref ca)])) (fun t kt => st11 t kt) ?_
      refine own_thr (a := T11.setTop (mkF m 29 #[.val (.long q0), .second, .val (.int (128 : Int32))] [(.int ((q0.toInt32) + (128 : Int32))), (.ref ca)])) (fun t kt => ?_) ?_
      · show Steps p.tables e below (T11.setTop (mkF m 23 #[.val (.long q0), .second, .val (.int (128 : Int32))] [(.ref ca)])) _
        refine XS.lloadN X11.here hx rfl (hb hby d4_23) rfl ?_
        show Steps p.tables e below (T11.setTop (mkF m 24 #[.val (.long q0), .second, .val (.int (128 : Int32))] [(.long q0), (.ref ca)])) _
        refine XS.l2i X11.here hx rfl (hb hby d4_24) rfl ?_
        show Steps p.tables e below (T11.setTop (mkF m 25 #[.val (.long q0), .second, .val (.int (128 : Int32))] [(.int (q0.toInt32)), (.ref ca)])) _
        refine XS.sipush X11.here hx rfl (hb hby d4_25) ?_
        show Steps p.tables e below (T11.setTop (mkF m 28 #[.val (.long q0), .second, .val (.int (128 : Int32))] [(.int (128 : Int32)), (.int (q0.toInt32)), (.ref ca)])) _
        refine XS.iadd X11.here hx rfl (hb hby d4_28) rfl ?_
        exact kt
      obtain ⟨r29, hat29, hE29⟩ := hall _ (own_cidx hc1 hc6).2
      have hin29 : ¬ (((q0.toInt32) + (128 : Int32)) < 0 ∨ clc.slots.size ≤ (((q0.toInt32) + (128 : Int32))).toNatClampNeg) := fun q => q.elim (own_cidx hc1 hc6).1 (fun q => absurd (own_cidx hc1 hc6).2 (by omega))
      refine own_thr (a := T11.setTop (mkF m 30 #[.val (.long q0), .second, .val (.int (128 : Int32))] [(.ref r29)])) (fun t kt => ?_) ?_
      · show Steps p.tables e below (T11.setTop (mkF m 29 #[.val (.long q0), .second, .val (.int (128 : Int32))] [(.int ((q0.toInt32) + (128 : Int32))), (.ref ca)])) _
        refine X11.aaload hx (j := ((q0.toInt32) + (128 : Int32))) (v := .ref r29) (by rw [e11]; exact Arc.1) (State.isArrayOf_alike hZ.alike Arc.2.1) rfl Arc.2.2 hin29 hat29 (g := (mkF m 29 #[.val (.long q0), .second, .val (.int (128 : Int32))] [(.int ((q0.toInt32) + (128 : Int32))), (.ref ca)])) rfl rfl (hb hby d4_29) _ ?_
        exact kt
      exact own_end X11 hlk (v := some (.ref r29)) (fun h => by rw [Bd.returns] at h; cases h) (fun fs hr => retA X11 hx Bd.returns rfl rfl (hb hby d4_30) hr) (by rw [e11]; exact ⟨r29, rfl, N0, (Keep.refl h0 []), hE29⟩) (by decide : 0 ≤ _) (by decide : 0 ≤ _)
theorem d5_0 : decode prog_12_method_5_code 0 = .ok (.aload_n 1, 1) := by decide +kernel
theorem d5_1 : decode prog_12_method_5_code 1 = .ok (.instanceof 29, 3) := by decide +kernel
theorem d5_4 : decode prog_12_method_5_code 4 = .ok (.ifCond .eq 11, 3) := by decide +kernel
theorem d5_7 : decode prog_12_method_5_code 7 = .ok (.aload_n 1, 1) := by decide +kernel
theorem d5_8 : decode prog_12_method_5_code 8 = .ok (.checkcast 29, 3) := by decide +kernel
theorem d5_11 : decode prog_12_method_5_code 11 = .ok (.astore_n 2, 1) := by decide +kernel
theorem d5_12 : decode prog_12_method_5_code 12 = .ok (.goto 5, 3) := by decide +kernel
theorem d5_17 : decode prog_12_method_5_code 17 = .ok (.aload_n 0, 1) := by decide +kernel
theorem d5_18 : decode prog_12_method_5_code 18 = .ok (.getfield 28, 3) := by decide +kernel
theorem d5_21 : decode prog_12_method_5_code 21 = .ok (.aload_n 2, 1) := by decide +kernel
theorem d5_22 : decode prog_12_method_5_code 22 = .ok (.getfield 28, 3) := by decide +kernel
theorem d5_25 : decode prog_12_method_5_code 25 = .ok (.lcmp, 1) := by decide +kernel
theorem d5_26 : decode prog_12_method_5_code 26 = .ok (.ifCond .ne 19, 3) := by decide +kernel
theorem d5_29 : decode prog_12_method_5_code 29 = .ok (.aload_n 0, 1) := by decide +kernel
theorem d5_30 : decode prog_12_method_5_code 30 = .ok (.getfield 34, 3) := by decide +kernel
theorem d5_33 : decode prog_12_method_5_code 33 = .ok (.aload_n 2, 1) := by decide +kernel
theorem d5_34 : decode prog_12_method_5_code 34 = .ok (.getfield 34, 3) := by decide +kernel
theorem d5_37 : decode prog_12_method_5_code 37 = .ok (.lcmp, 1) := by decide +kernel
theorem d5_38 : decode prog_12_method_5_code 38 = .ok (.ifCond .ne 7, 3) := by decide +kernel
theorem d5_41 : decode prog_12_method_5_code 41 = .ok (.iconst 1, 1) := by decide +kernel
theorem d5_42 : decode prog_12_method_5_code 42 = .ok (.goto 4, 3) := by decide +kernel
theorem d5_46 : decode prog_12_method_5_code 46 = .ok (.ireturn, 1) := by decide +kernel
theorem d5_45 : decode prog_12_method_5_code 45 = .ok (.iconst 0, 1) := by decide +kernel
theorem ef_rmE1 (m : MethodId) (o0 : Addr) (o1 : Addr)  : entryFrame m #[(.ref o0), (.ref o1)] 3 = mkF m 0 #[.val (.ref o0), .val (.ref o1), .unset] [] := by first |  (simp [entryFrame, mkF, argsToLocals, Value.category]; done) | rfl
def f_rmE1 (o0 : Addr) (o1 : Addr) (u0 : Int64) (v0 : Int64) (u1 : Int64) (v1 : Int64) : Int32 := if u0 = u1 then (if v0 = v1 then (1 : Int32) else (0 : Int32)) else (0 : Int32)
def Q_rmE1 (Z : State) (o0 : Addr) (o1 : Addr) (u0 : Int64) (v0 : Int64) (u1 : Int64) (v1 : Int64) (h0 : Heap) (n0 : Nat) (v : Option Value) (h : Heap) (L : List Loc) : Prop := v = some (.int (f_rmE1 o0 o1 u0 v0 u1 v1)) ∧ Fr n0 L ∧ h = h0
set_option maxRecDepth 65536 in
set_option maxHeartbeats 40000000 in
theorem rmE1 (l : Launch) (Z : State) (a0 : Array Value) (hw : ∀ d ∈ tables_1, d.before a0 Z = true) (ws : List Jvm.Cond) (o0 : Addr) (o1 : Addr) (u0 : Int64) (v0 : Int64) (u1 : Int64) (v1 : Int64) (h0 : Heap) (n0 : Nat) (Z0 : n0 ≤ h0.size) (E_o0 : Exa Z h0 o0 "com/example/bouncer/bouncer/RequestId") (F_clientId_o0 : Fld Z h0 o0 "com/example/bouncer/bouncer/RequestId" "clientId" "J" (.long u0)) (F_requestNumber_o0 : Fld Z h0 o0 "com/example/bouncer/bouncer/RequestId" "requestNumber" "J" (.long v0)) (E_o1 : Exa Z h0 o1 "com/example/bouncer/bouncer/RequestId") (F_clientId_o1 : Fld Z h0 o1 "com/example/bouncer/bouncer/RequestId" "clientId" "J" (.long u1)) (F_requestNumber_o1 : Fld Z h0 o1 "com/example/bouncer/bouncer/RequestId" "requestNumber" "J" (.long v1)) :
    MetFree l (⟨"com/example/bouncer/bouncer/RequestId", "equals", "(Ljava/lang/Object;)Z"⟩ : MethodName) (head1 (Jvm.Cond.code (⟨"com/example/bouncer/bouncer/RequestId", "equals", "(Ljava/lang/Object;)Z"⟩ : MethodName) prog_12_method_5_code 3 (some .boolean) :: ws) ({ frames := 0, cells := 0, slots := 0, locals := 0 } : Room)) (fun a U => a = #[(.ref o0), (.ref o1)] ∧ Z.Warmed39 U.vm ∧ U.heap = h0) (fun _ _ _ _ _ => True) (fun _ U o U' => ∃ v L, o = .returned v ∧ Q_rmE1 Z o0 o1 u0 v0 u1 v1 h0 n0 v U'.heap L ∧ FrameEnd U o U' L ({ frames := 0, cells := 0, slots := 0, locals := 0 } : Room).cells ({ frames := 0, cells := 0, slots := 0, locals := 0 } : Room).slots) := by
  refine MetFree.of_bodySF (plainFor_of_name pn_com_example_bouncer_bouncer_RequestId) hisR ?_
  intro p e s m args below meth c s₁ Bd hml0 hP hK
  obtain ⟨rfl, hZ, hh⟩ := hP
  have hx := Bd.exec
  have hby := Bd.bytes
  have hml : c.maxLocals = 3 := hml0
  have hown : s.vm.findClass "com/example/bouncer/bouncer/RequestId" = some m.cls := findClass_of_methodNamed Bd.named
  have hnm := (name_of_methodNamed Bd.named Bd.method).1
  have hlk := Bd.notSynchronized
  have X0 : Stand p l e ({ frames := 0, cells := 0, slots := 0, locals := 0 } : Room) s m #[(.ref o0), (.ref o1)] below meth c s₁ [] 0 0 := Stand.of_body Bd
  have e0 : s₁.heap = h0 := by rw [← hh, Bd.state]; rfl
  have N0 := Fr.nil n0
  show own_G p.tables e below s (Q_rmE1 Z o0 o1 u0 v0 u1 v1 h0 n0) ({ frames := 0, cells := 0, slots := 0, locals := 0 } : Room).cells ({ frames := 0, cells := 0, slots := 0, locals := 0 } : Room).slots _
  refine own_thr (a := s₁.setTop (mkF m 0 #[.val (.ref o0), .val (.ref o1), .unset] [])) (fun t kt => castTop (ef_rmE1 m o0 o1) kt) ?_
  refine own_thr (a := s₁.setTop (mkF m 1 #[.val (.ref o0), .val (.ref o1), .unset] [(.ref o1)])) (fun t kt => ?_) ?_
  · show Steps p.tables e below (s₁.setTop (mkF m 0 #[.val (.ref o0), .val (.ref o1), .unset] [])) _
    refine XS.aloadN X0.here hx rfl (hb hby d5_0) rfl rfl ?_
    exact kt
  obtain ⟨T1, X1, e1, st1⟩ := instY X0 hx hZ hown (hw _ (List.mem_of_getElem? (i := 31) rfl)) e0 (Ins.self E_o1) (g := (mkF m 1 #[.val (.ref o0), .val (.ref o1), .unset] [(.ref o1)])) rfl rfl (hb hby d5_1)
  refine own_thr (a := T1.setTop (mkF m 4 #[.val (.ref o0), .val (.ref o1), .unset] [(.int (1 : Int32))])) (fun t kt => st1 t kt) ?_
  refine own_thr (a := T1.setTop (mkF m 8 #[.val (.ref o0), .val (.ref o1), .unset] [(.ref o1)])) (fun t kt => ?_) ?_
  · show Steps p.tables e below (T1.setTop (mkF m 4 #[.val (.ref o0), .val (.ref o1), .unset] [(.int (1 : Int32))])) _
    refine XS.ifNo X1.here hx rfl (hb hby d5_4) rfl ((if0 _ _).trans (feq (by decide)).1) ?_
    show Steps p.tables e below (T1.setTop (mkF m 7 #[.val (.ref o0), .val (.ref o1), .unset] [])) _
    refine XS.aloadN X1.here hx rfl (hb hby d5_7) rfl rfl ?_
    exact kt
  obtain ⟨T2, X2, e2, st2⟩ := castY X1 hx hZ hown (hw _ (List.mem_of_getElem? (i := 31) rfl)) e1 (Ins.self E_o1) (g := (mkF m 8 #[.val (.ref o0), .val (.ref o1), .unset] [(.ref o1)])) rfl rfl (hb hby d5_8)
  refine own_thr (a := T2.setTop (mkF m 11 #[.val (.ref o0), .val (.ref o1), .unset] [(.ref o1)])) (fun t kt => st2 t kt) ?_
  refine own_thr (a := T2.setTop (mkF m 18 #[.val (.ref o0), .val (.ref o1), .val (.ref o1)] [(.ref o0)])) (fun t kt => ?_) ?_
  · show Steps p.tables e below (T2.setTop (mkF m 11 #[.val (.ref o0), .val (.ref o1), .unset] [(.ref o1)])) _
    refine XS.astoreN X2.here hx rfl (hb hby d5_11) rfl rfl (l' := #[.val (.ref o0), .val (.ref o1), .val (.ref o1)]) rfl ?_
    show Steps p.tables e below (T2.setTop (mkF m 12 #[.val (.ref o0), .val (.ref o1), .val (.ref o1)] [])) _
    refine XS.goto X2.here hx rfl (pc0 := 12) (pc' := 17) rfl (hb hby d5_12) (by decide) (by decide) ?_
    show Steps p.tables e below (T2.setTop (mkF m 17 #[.val (.ref o0), .val (.ref o1), .val (.ref o1)] [])) _
    refine XS.aloadN X2.here hx rfl (hb hby d5_17) rfl rfl ?_
    exact kt
  obtain ⟨T3, X3, e3, st3⟩ := getF X2 hx hZ hown (host := "") (Or.inl (hw _ (List.mem_of_getElem? (i := 14) rfl))) Via.refl e2 F_clientId_o0 (g := (mkF m 18 #[.val (.ref o0), .val (.ref o1), .val (.ref o1)] [(.ref o0)])) rfl rfl (hb hby d5_18)
  refine own_thr (a := T3.setTop (mkF m 21 #[.val (.ref o0), .val (.ref o1), .val (.ref o1)] [(.long u0)])) (fun t kt => st3 t kt) ?_
  refine own_thr (a := T3.setTop (mkF m 22 #[.val (.ref o0), .val (.ref o1), .val (.ref o1)] [(.ref o1), (.long u0)])) (fun t kt => ?_) ?_
  · show Steps p.tables e below (T3.setTop (mkF m 21 #[.val (.ref o0), .val (.ref o1), .val (.ref o1)] [(.long u0)])) _
    refine XS.aloadN X3.here hx rfl (hb hby d5_21) rfl rfl ?_
    exact kt
  obtain ⟨T4, X4, e4, st4⟩ := getF X3 hx hZ hown (host := "") (Or.inl (hw _ (List.mem_of_getElem? (i := 14) rfl))) Via.refl e3 F_clientId_o1 (g := (mkF m 22 #[.val (.ref o0), .val (.ref o1), .val (.ref o1)] [(.ref o1), (.long u0)])) rfl rfl (hb hby d5_22)
  refine own_thr (a := T4.setTop (mkF m 25 #[.val (.ref o0), .val (.ref o1), .val (.ref o1)] [(.long u1), (.long u0)])) (fun t kt => st4 t kt) ?_
  refine own_thr (a := T4.setTop (mkF m 26 #[.val (.ref o0), .val (.ref o1), .val (.ref o1)] [(.int (lcmpW u0 u1))])) (fun t kt => ?_) ?_
  · show Steps p.tables e below (T4.setTop (mkF m 25 #[.val (.ref o0), .val (.ref o1), .val (.ref o1)] [(.long u1), (.long u0)])) _
    refine XS.lcmp X4.here hx rfl (hb hby d5_25) rfl ?_
    exact kt
  by_cases hc5 : u0 = u1
  · refine own_thr (a := T4.setTop (mkF m 30 #[.val (.ref o0), .val (.ref o1), .val (.ref o1)] [(.ref o0)])) (fun t kt => ?_) ?_
    · show Steps p.tables e below (T4.setTop (mkF m 26 #[.val (.ref o0), .val (.ref o1), .val (.ref o1)] [(.int (lcmpW u0 u1))])) _
      refine XS.ifNo X4.here hx rfl (hb hby d5_26) rfl ((if0 _ _).trans (teq ((lw_eq u0 u1).mpr hc5)).2) ?_
      show Steps p.tables e below (T4.setTop (mkF m 29 #[.val (.ref o0), .val (.ref o1), .val (.ref o1)] [])) _
      refine XS.aloadN X4.here hx rfl (hb hby d5_29) rfl rfl ?_
      exact kt
    obtain ⟨T6, X6, e6, st6⟩ := getF X4 hx hZ hown (host := "") (Or.inl (hw _ (List.mem_of_getElem? (i := 16) rfl))) Via.refl e4 F_requestNumber_o0 (g := (mkF m 30 #[.val (.ref o0), .val (.ref o1), .val (.ref o1)] [(.ref o0)])) rfl rfl (hb hby d5_30)
    refine own_thr (a := T6.setTop (mkF m 33 #[.val (.ref o0), .val (.ref o1), .val (.ref o1)] [(.long v0)])) (fun t kt => st6 t kt) ?_
    refine own_thr (a := T6.setTop (mkF m 34 #[.val (.ref o0), .val (.ref o1), .val (.ref o1)] [(.ref o1), (.long v0)])) (fun t kt => ?_) ?_
    · show Steps p.tables e below (T6.setTop (mkF m 33 #[.val (.ref o0), .val (.ref o1), .val (.ref o1)] [(.long v0)])) _
      refine XS.aloadN X6.here hx rfl (hb hby d5_33) rfl rfl ?_
      exact kt
    obtain ⟨T7, X7, e7, st7⟩ := getF X6 hx hZ hown (host := "") (Or.inl (hw _ (List.mem_of_getElem? (i := 16) rfl))) Via.refl e6 F_requestNumber_o1 (g := (mkF m 34 #[.val (.ref o0), .val (.ref o1), .val (.ref o1)] [(.ref o1), (.long v0)])) rfl rfl (hb hby d5_34)
    refine own_thr (a := T7.setTop (mkF m 37 #[.val (.ref o0), .val (.ref o1), .val (.ref o1)] [(.long v1), (.long v0)])) (fun t kt => st7 t kt) ?_
    refine own_thr (a := T7.setTop (mkF m 38 #[.val (.ref o0), .val (.ref o1), .val (.ref o1)] [(.int (lcmpW v0 v1))])) (fun t kt => ?_) ?_
    · show Steps p.tables e below (T7.setTop (mkF m 37 #[.val (.ref o0), .val (.ref o1), .val (.ref o1)] [(.long v1), (.long v0)])) _
      refine XS.lcmp X7.here hx rfl (hb hby d5_37) rfl ?_
      exact kt
    by_cases hc8 : v0 = v1
    · refine own_thr (a := T7.setTop (mkF m 46 #[.val (.ref o0), .val (.ref o1), .val (.ref o1)] [(.int (1 : Int32))])) (fun t kt => ?_) ?_
      · show Steps p.tables e below (T7.setTop (mkF m 38 #[.val (.ref o0), .val (.ref o1), .val (.ref o1)] [(.int (lcmpW v0 v1))])) _
        refine XS.ifNo X7.here hx rfl (hb hby d5_38) rfl ((if0 _ _).trans (teq ((lw_eq v0 v1).mpr hc8)).2) ?_
        show Steps p.tables e below (T7.setTop (mkF m 41 #[.val (.ref o0), .val (.ref o1), .val (.ref o1)] [])) _
        refine XS.iconst X7.here hx rfl (hb hby d5_41) ?_
        show Steps p.tables e below (T7.setTop (mkF m 42 #[.val (.ref o0), .val (.ref o1), .val (.ref o1)] [(.int (1 : Int32))])) _
        refine XS.goto X7.here hx rfl (pc0 := 42) (pc' := 46) rfl (hb hby d5_42) (by decide) (by decide) ?_
        exact kt
      exact own_end X7 hlk (v := some (.int (1 : Int32))) (fun h => by rw [Bd.returns] at h; cases h) (fun fs hr => retN X7 hx (t := .boolean) Bd.returns (by simp) (hb hby d5_46) hr) (by rw [e7]; exact ⟨(by rw [f_rmE1, if_pos hc5, if_pos hc8]), N0, rfl⟩) (by decide : 0 ≤ _) (by decide : 0 ≤ _)
    · refine own_thr (a := T7.setTop (mkF m 46 #[.val (.ref o0), .val (.ref o1), .val (.ref o1)] [(.int (0 : Int32))])) (fun t kt => ?_) ?_
      · show Steps p.tables e below (T7.setTop (mkF m 38 #[.val (.ref o0), .val (.ref o1), .val (.ref o1)] [(.int (lcmpW v0 v1))])) _
        refine XS.ifYes X7.here hx rfl (pc0 := 38) (pc' := 45) rfl (hb hby d5_38) rfl ((if0 _ _).trans (feq (fun q => hc8 ((lw_eq v0 v1).mp q))).2) (by decide) (by decide) ?_
        show Steps p.tables e below (T7.setTop (mkF m 45 #[.val (.ref o0), .val (.ref o1), .val (.ref o1)] [])) _
        refine XS.iconst X7.here hx rfl (hb hby d5_45) ?_
        exact kt
      exact own_end X7 hlk (v := some (.int (0 : Int32))) (fun h => by rw [Bd.returns] at h; cases h) (fun fs hr => retN X7 hx (t := .boolean) Bd.returns (by simp) (hb hby d5_46) hr) (by rw [e7]; exact ⟨(by rw [f_rmE1, if_pos hc5, if_neg hc8]), N0, rfl⟩) (by decide : 0 ≤ _) (by decide : 0 ≤ _)
  · refine own_thr (a := T4.setTop (mkF m 46 #[.val (.ref o0), .val (.ref o1), .val (.ref o1)] [(.int (0 : Int32))])) (fun t kt => ?_) ?_
    · show Steps p.tables e below (T4.setTop (mkF m 26 #[.val (.ref o0), .val (.ref o1), .val (.ref o1)] [(.int (lcmpW u0 u1))])) _
      refine XS.ifYes X4.here hx rfl (pc0 := 26) (pc' := 45) rfl (hb hby d5_26) rfl ((if0 _ _).trans (feq (fun q => hc5 ((lw_eq u0 u1).mp q))).2) (by decide) (by decide) ?_
      show Steps p.tables e below (T4.setTop (mkF m 45 #[.val (.ref o0), .val (.ref o1), .val (.ref o1)] [])) _
      refine XS.iconst X4.here hx rfl (hb hby d5_45) ?_
      exact kt
    exact own_end X4 hlk (v := some (.int (0 : Int32))) (fun h => by rw [Bd.returns] at h; cases h) (fun fs hr => retN X4 hx (t := .boolean) Bd.returns (by simp) (hb hby d5_46) hr) (by rw [e4]; exact ⟨(by rw [f_rmE1, if_neg hc5]), N0, rfl⟩) (by decide : 0 ≤ _) (by decide : 0 ≤ _)
theorem d5_15 : decode prog_12_method_5_code 15 = .ok (.iconst 0, 1) := by decide +kernel
theorem d5_16 : decode prog_12_method_5_code 16 = .ok (.ireturn, 1) := by decide +kernel
theorem ef_rmE0 (m : MethodId) (o0 : Addr)  : entryFrame m #[(.ref o0), .null] 3 = mkF m 0 #[.val (.ref o0), .val .null, .unset] [] := by first |  (simp [entryFrame, mkF, argsToLocals, Value.category]; done) | rfl
def Q_rmE0 (Z : State) (o0 : Addr) (h0 : Heap) (n0 : Nat) (v : Option Value) (h : Heap) (L : List Loc) : Prop := v = some (.int (0 : Int32)) ∧ Fr n0 L ∧ h = h0
set_option maxRecDepth 65536 in
set_option maxHeartbeats 40000000 in
theorem rmE0 (l : Launch) (Z : State) (a0 : Array Value) (hw : ∀ d ∈ tables_1, d.before a0 Z = true) (ws : List Jvm.Cond) (o0 : Addr) (h0 : Heap) (n0 : Nat) (Z0 : n0 ≤ h0.size) :
    MetFree l (⟨"com/example/bouncer/bouncer/RequestId", "equals", "(Ljava/lang/Object;)Z"⟩ : MethodName) (head1 (Jvm.Cond.code (⟨"com/example/bouncer/bouncer/RequestId", "equals", "(Ljava/lang/Object;)Z"⟩ : MethodName) prog_12_method_5_code 3 (some .boolean) :: ws) ({ frames := 0, cells := 0, slots := 0, locals := 0 } : Room)) (fun a U => a = #[(.ref o0), .null] ∧ Z.Warmed39 U.vm ∧ U.heap = h0) (fun _ _ _ _ _ => True) (fun _ U o U' => ∃ v L, o = .returned v ∧ Q_rmE0 Z o0 h0 n0 v U'.heap L ∧ FrameEnd U o U' L ({ frames := 0, cells := 0, slots := 0, locals := 0 } : Room).cells ({ frames := 0, cells := 0, slots := 0, locals := 0 } : Room).slots) := by
  refine MetFree.of_bodySF (plainFor_of_name pn_com_example_bouncer_bouncer_RequestId) hisR ?_
  intro p e s m args below meth c s₁ Bd hml0 hP hK
  obtain ⟨rfl, hZ, hh⟩ := hP
  have hx := Bd.exec
  have hby := Bd.bytes
  have hml : c.maxLocals = 3 := hml0
  have hown : s.vm.findClass "com/example/bouncer/bouncer/RequestId" = some m.cls := findClass_of_methodNamed Bd.named
  have hnm := (name_of_methodNamed Bd.named Bd.method).1
  have hlk := Bd.notSynchronized
  have X0 : Stand p l e ({ frames := 0, cells := 0, slots := 0, locals := 0 } : Room) s m #[(.ref o0), .null] below meth c s₁ [] 0 0 := Stand.of_body Bd
  have e0 : s₁.heap = h0 := by rw [← hh, Bd.state]; rfl
  have N0 := Fr.nil n0
  show own_G p.tables e below s (Q_rmE0 Z o0 h0 n0) ({ frames := 0, cells := 0, slots := 0, locals := 0 } : Room).cells ({ frames := 0, cells := 0, slots := 0, locals := 0 } : Room).slots _
  refine own_thr (a := s₁.setTop (mkF m 0 #[.val (.ref o0), .val .null, .unset] [])) (fun t kt => castTop (ef_rmE0 m o0) kt) ?_
  refine own_thr (a := s₁.setTop (mkF m 1 #[.val (.ref o0), .val .null, .unset] [.null])) (fun t kt => ?_) ?_
  · show Steps p.tables e below (s₁.setTop (mkF m 0 #[.val (.ref o0), .val .null, .unset] [])) _
    refine XS.aloadN X0.here hx rfl (hb hby d5_0) rfl rfl ?_
    exact kt
  refine own_thr (a := s₁.setTop (mkF m 16 #[.val (.ref o0), .val .null, .unset] [(.int (0 : Int32))])) (fun t kt => ?_) ?_
  · show Steps p.tables e below (s₁.setTop (mkF m 1 #[.val (.ref o0), .val .null, .unset] [.null])) _
    refine X0.instanceofNull hx (g := (mkF m 1 #[.val (.ref o0), .val .null, .unset] [.null])) rfl rfl (hb hby d5_1) _ ?_
    show Steps p.tables e below (s₁.setTop (mkF m 4 #[.val (.ref o0), .val .null, .unset] [(.int (0 : Int32))])) _
    refine XS.ifYes X0.here hx rfl (pc0 := 4) (pc' := 15) rfl (hb hby d5_4) rfl ((if0 _ _).trans (teq rfl).1) (by decide) (by decide) ?_
    show Steps p.tables e below (s₁.setTop (mkF m 15 #[.val (.ref o0), .val .null, .unset] [])) _
    refine XS.iconst X0.here hx rfl (hb hby d5_15) ?_
    exact kt
  exact own_end X0 hlk (v := some (.int (0 : Int32))) (fun h => by rw [Bd.returns] at h; cases h) (fun fs hr => retN X0 hx (t := .boolean) Bd.returns (by simp) (hb hby d5_16) hr) (by rw [e0]; exact ⟨rfl, N0, rfl⟩) (by decide : 0 ≤ _) (by decide : 0 ≤ _)
theorem own_no {Z : State} {a0 : Array Value} (hw : ∀ d ∈ tables_1, d.before a0 Z = true) : ∃ c t, Z.vm.findClass "java/lang/Long" = some c ∧ Z.vm.findClass "com/example/bouncer/bouncer/RequestId" = some t ∧ Z.vm.assignable c t = false := by
  obtain ⟨t, kt, t1, t2, t3, t4, -, -⟩ := Cond.instantiable_spec (hw _ (List.mem_of_getElem? (i := 6) rfl))
  obtain ⟨co, ko, o1, o2, o3, -, -⟩ := Cond.noSuperclass_spec (hw _ (List.mem_of_getElem? (i := 35) rfl))
  obtain ⟨cn, n0⟩ := found_sup (hw _ (List.mem_of_getElem? (i := 34) rfl))
  obtain ⟨pn, kn, kpn, n1, n2, n3, n4, n5, -, n7⟩ := Cond.superclass_spec n0 (hw _ (List.mem_of_getElem? (i := 34) rfl))
  obtain ⟨cg, g0⟩ := found_sup (hw _ (List.mem_of_getElem? (i := 33) rfl))
  obtain ⟨pg, kg, kpg, g1, g2, g3, g4, g5, -, g7⟩ := Cond.superclass_spec g0 (hw _ (List.mem_of_getElem? (i := 33) rfl))
  cases o1.symm.trans n1
  cases n0.symm.trans g1
  have neo := ids_ne o1 t1 (by decide)
  have nen := ids_ne n0 t1 (by decide)
  have neg := ids_ne g0 t1 (by decide)
  have ti : kt.isInterface = false := by simp only [Bool.or_eq_false_iff] at t4; exact t4.1
  have ho : ∀ fuel, Z.vm.isSubclassAux fuel co t = false := fun fuel => by
    cases fuel with
    | zero => rfl
    | succ f => simp [Vm.isSubclassAux, neo, o2, o3]
  have hn : ∀ fuel, Z.vm.isSubclassAux fuel cn t = false := fun fuel => by
    cases fuel with
    | zero => rfl
    | succ f => simp [Vm.isSubclassAux, nen, n2, n4, ho]
  have hg : ∀ fuel, Z.vm.isSubclassAux fuel cg t = false := fun fuel => by
    cases fuel with
    | zero => rfl
    | succ f => simp [Vm.isSubclassAux, neg, g2, g4, hn]
  refine ⟨cg, t, g0, t1, ?_⟩
  show Z.vm.assignableAux (255 + 1) cg t = false
  simp [Vm.assignableAux, neg, g2, t2, g5, t3, ti, Vm.isSubclass, hg]
theorem ef_rmE2 (m : MethodId) (o0 : Addr) (o1 : Addr)  : entryFrame m #[(.ref o0), (.ref o1)] 3 = mkF m 0 #[.val (.ref o0), .val (.ref o1), .unset] [] := by first |  (simp [entryFrame, mkF, argsToLocals, Value.category]; done) | rfl
def Q_rmE2 (Z : State) (o0 : Addr) (o1 : Addr) (h0 : Heap) (n0 : Nat) (v : Option Value) (h : Heap) (L : List Loc) : Prop := v = some (.int (0 : Int32)) ∧ Fr n0 L ∧ h = h0
set_option maxRecDepth 65536 in
set_option maxHeartbeats 40000000 in
theorem rmE2 (l : Launch) (Z : State) (a0 : Array Value) (hw : ∀ d ∈ tables_1, d.before a0 Z = true) (ws : List Jvm.Cond) (o0 : Addr) (o1 : Addr) (h0 : Heap) (n0 : Nat) (Z0 : n0 ≤ h0.size) (E_o1 : Exa Z h0 o1 "java/lang/Long") :
    MetFree l (⟨"com/example/bouncer/bouncer/RequestId", "equals", "(Ljava/lang/Object;)Z"⟩ : MethodName) (head1 (Jvm.Cond.code (⟨"com/example/bouncer/bouncer/RequestId", "equals", "(Ljava/lang/Object;)Z"⟩ : MethodName) prog_12_method_5_code 3 (some .boolean) :: ws) ({ frames := 0, cells := 0, slots := 0, locals := 0 } : Room)) (fun a U => a = #[(.ref o0), (.ref o1)] ∧ Z.Warmed39 U.vm ∧ U.heap = h0) (fun _ _ _ _ _ => True) (fun _ U o U' => ∃ v L, o = .returned v ∧ Q_rmE2 Z o0 o1 h0 n0 v U'.heap L ∧ FrameEnd U o U' L ({ frames := 0, cells := 0, slots := 0, locals := 0 } : Room).cells ({ frames := 0, cells := 0, slots := 0, locals := 0 } : Room).slots) := by
  refine MetFree.of_bodySF (plainFor_of_name pn_com_example_bouncer_bouncer_RequestId) hisR ?_
  intro p e s m args below meth c s₁ Bd hml0 hP hK
  obtain ⟨rfl, hZ, hh⟩ := hP
  have hx := Bd.exec
  have hby := Bd.bytes
  have hml : c.maxLocals = 3 := hml0
  have hown : s.vm.findClass "com/example/bouncer/bouncer/RequestId" = some m.cls := findClass_of_methodNamed Bd.named
  have hnm := (name_of_methodNamed Bd.named Bd.method).1
  have hlk := Bd.notSynchronized
  have X0 : Stand p l e ({ frames := 0, cells := 0, slots := 0, locals := 0 } : Room) s m #[(.ref o0), (.ref o1)] below meth c s₁ [] 0 0 := Stand.of_body Bd
  have e0 : s₁.heap = h0 := by rw [← hh, Bd.state]; rfl
  have N0 := Fr.nil n0
  show own_G p.tables e below s (Q_rmE2 Z o0 o1 h0 n0) ({ frames := 0, cells := 0, slots := 0, locals := 0 } : Room).cells ({ frames := 0, cells := 0, slots := 0, locals := 0 } : Room).slots _
  refine own_thr (a := s₁.setTop (mkF m 0 #[.val (.ref o0), .val (.ref o1), .unset] [])) (fun t kt => castTop (ef_rmE2 m o0 o1) kt) ?_
  refine own_thr (a := s₁.setTop (mkF m 1 #[.val (.ref o0), .val (.ref o1), .unset] [(.ref o1)])) (fun t kt => ?_) ?_
  · show Steps p.tables e below (s₁.setTop (mkF m 0 #[.val (.ref o0), .val (.ref o1), .unset] [])) _
    refine XS.aloadN X0.here hx rfl (hb hby d5_0) rfl rfl ?_
    exact kt
  obtain ⟨T1, X1, e1, st1⟩ := instNo X0 hx hZ hown (hw _ (List.mem_of_getElem? (i := 31) rfl)) e0 E_o1 (own_no hw) (g := (mkF m 1 #[.val (.ref o0), .val (.ref o1), .unset] [(.ref o1)])) rfl rfl (hb hby d5_1)
  refine own_thr (a := T1.setTop (mkF m 4 #[.val (.ref o0), .val (.ref o1), .unset] [(.int (0 : Int32))])) (fun t kt => st1 t kt) ?_
  refine own_thr (a := T1.setTop (mkF m 16 #[.val (.ref o0), .val (.ref o1), .unset] [(.int (0 : Int32))])) (fun t kt => ?_) ?_
  · show Steps p.tables e below (T1.setTop (mkF m 4 #[.val (.ref o0), .val (.ref o1), .unset] [(.int (0 : Int32))])) _
    refine XS.ifYes X1.here hx rfl (pc0 := 4) (pc' := 15) rfl (hb hby d5_4) rfl ((if0 _ _).trans (teq rfl).1) (by decide) (by decide) ?_
    show Steps p.tables e below (T1.setTop (mkF m 15 #[.val (.ref o0), .val (.ref o1), .unset] [])) _
    refine XS.iconst X1.here hx rfl (hb hby d5_15) ?_
    exact kt
  exact own_end X1 hlk (v := some (.int (0 : Int32))) (fun h => by rw [Bd.returns] at h; cases h) (fun fs hr => retN X1 hx (t := .boolean) Bd.returns (by simp) (hb hby d5_16) hr) (by rw [e1]; exact ⟨rfl, N0, rfl⟩) (by decide : 0 ≤ _) (by decide : 0 ≤ _)
theorem own_nonneg (r : Int64) : ¬ (r &&& (9223372036854775807 : Int64)) < (0 : Int64) := by
  rw [Int64.lt_iff_toInt_lt]
  have h := c_maskL r (9223372036854775807 : Int64) 63 (by decide) (by decide)
  have h0 : (0 : Int64).toInt = 0 := rfl
  rw [h, h0]
  omega
theorem own_nz (x : Int64) : ¬ f_rmZ x = (0 : Int64) := by
  unfold f_rmZ
  by_cases h : x = (0 : Int64)
  · rw [if_pos h]; decide
  · rw [if_neg h]; exact h
def own_ex (a1 b1 a2 b2 : Int64) : Int32 := if a1 = a2 then (if b1 = b2 then (1 : Int32) else (0 : Int32)) else (0 : Int32)
theorem own_xy (x y : Addr) (a1 b1 a2 b2 : Int64) : f_rmE1 x y a1 b1 a2 b2 = own_ex a1 b1 a2 b2 := rfl
theorem own_yx (x y : Addr) (a1 b1 a2 b2 : Int64) : f_rmE1 y x a2 b2 a1 b1 = own_ex a1 b1 a2 b2 := by
  unfold f_rmE1 own_ex
  by_cases h : a1 = a2 <;> by_cases h2 : b1 = b2 <;> simp [h, h2, eq_comm]
theorem own_xx (x : Addr) (a1 b1 : Int64) : f_rmE1 x x a1 b1 a1 b1 = 1 := by
  unfold f_rmE1; simp
theorem own_succ (i : Nat) : i.toInt32 + (1 : Int32) = (i + 1).toInt32 := by
  show Int32.ofNat i + Int32.ofNat 1 = Int32.ofNat (i + 1)
  rw [← Int32.ofNat_add]
theorem own_ix {i n : Nat} (hi : i < n) (hn : n < 2 ^ 31) : ¬ i.toInt32 < 0 ∧ i.toInt32 < n.toInt32 := by
  have h1 : i.toInt32.toInt = i := len_toInt (by omega)
  have h2 : n.toInt32.toInt = n := len_toInt hn
  have h0 : (0 : Int32).toInt = 0 := rfl
  constructor <;> rw [Int32.lt_iff_toInt_lt] <;> omega
theorem own_nx {i n : Nat} (hi : n ≤ i) (hn : i < 2 ^ 31) : ¬ i.toInt32 < n.toInt32 := by
  have h1 : i.toInt32.toInt = i := len_toInt hn
  have h2 : n.toInt32.toInt = n := len_toInt (by omega)
  rw [Int32.lt_iff_toInt_lt]; omega
theorem own_nat {i : Nat} (hi : i < 2 ^ 31) : i.toInt32.toNatClampNeg = i := by
  have h1 : i.toInt32.toInt = i := len_toInt hi
  show i.toInt32.toInt.toNat = i
  omega
theorem own_len {s : State} {args : Array Value} {ca : Addr} {cl : Cell} {t : Term} {ty : FieldType} {n : Int32} (ev : t.eval args s none [] s = some (.ref ca)) (A : Arr s s.heap ca cl ty) (h : (Jvm.Cond.eq (Term.length t) (Term.int n)).value args s none s [] = some true) : cl.slots.size.toInt32 = n ∧ cl.slots.size < 2 ^ 31 := by
  have hA : s.arrayAt? ca = some cl := Arr.fin (Vm.Alike.refl _) A
  simp only [Cond.value, Term.eval, ev, Option.bind_eq_bind, Option.bind_some, hA] at h
  by_cases hl : cl.slots.size < 2147483648
  · simp [hl] at h; exact ⟨h, hl⟩
  · simp [hl] at h
theorem own_lenN {s : State} {args : Array Value} {ca : Addr} {cl : Cell} {t : Term} {ty : FieldType} {n : Int32} (ev : t.eval args s none [] s = some (.ref ca)) (A : Arr s s.heap ca cl ty) (h : (Jvm.Cond.eq (Term.length t) (Term.int n)).value args s none s [] = some true) (N : Nat) (hN : n.toInt = N) : cl.slots.size = N := by
  obtain ⟨h1, h2⟩ := own_len ev A h
  have h3 := len_toInt h2
  rw [h1] at h3
  omega
theorem own_sz {s : State} {args : Array Value} {ca : Addr} {clc : Cell} {t : Term} {ty : FieldType} (ev : t.eval args s none [] s = some (.ref ca)) (A : Arr s s.heap ca clc ty) (h : (Jvm.Cond.eq (Term.length t) (Term.int 256)).value args s none s [] = some true) : clc.slots.size = 256 := own_lenN ev A h 256 rfl
theorem own_hall {s : State} {args : Array Value} {ca : Addr} {clc : Cell} {C n d : String} {ty : FieldType} {dd : Jvm.Cond} (ev : (Term.static C n d).eval args s none [] s = some (.ref ca)) (A : Arr s s.heap ca clc ty) (hsz : clc.slots.size = 256) (h : (Jvm.Cond.all (Term.static C n d) (.and (.exactly (.elem (Term.static C n d) (.index 0)) "java/lang/Long") dd)).value args s none s [] = some true) :
    ∀ i : Nat, i < 256 → ∃ r : Addr, clc.slots[i]? = some (.ref r) ∧ Exa s s.heap r "java/lang/Long" := by
  intro i hi
  have hA : s.arrayAt? ca = some clc := Arr.fin (Vm.Alike.refl _) A
  have h1 := Cond.all_elim ev hA h i (by omega)
  obtain ⟨h2, -⟩ := and_e h1
  obtain ⟨r, er⟩ := exa_v h2
  have ev' : (Term.static C n d).eval args s none [i] s = some (.ref ca) := ev
  obtain ⟨-, hv⟩ := elem_in er ev' (Term.index_eval i) A.1
  rw [own_nat (by omega)] at hv
  exact ⟨r, hv, exa_at er h2⟩
theorem pd__28J_29J : parseMethodDescriptor "(J)J" = some ⟨[.long], some .long⟩ := by decide +kernel
theorem pd__28JJ_29V : parseMethodDescriptor "(JJ)V" = some ⟨[.long, .long], none⟩ := by decide +kernel
theorem pd__28J_29Ljava_2flang_2fLong_3b : parseMethodDescriptor "(J)Ljava/lang/Long;" = some ⟨[.long], some (.object "java/lang/Long")⟩ := by decide +kernel
theorem pd__28Ljava_2flang_2fObject_3b_29Z : parseMethodDescriptor "(Ljava/lang/Object;)Z" = some ⟨[(.object "java/lang/Object")], some .boolean⟩ := by decide +kernel
theorem ef_rm0 (m : MethodId) (q0 : Int64) (q1 : Int64) (q2 : Int64) (q3 : Int64) (p4 : Int32)  : entryFrame m #[(.long q0), (.long q1), (.long q2), (.long q3), (.int p4)] maxLocals = mkF m 0 #[.val (.long q0), .second, .val (.long q1), .second, .val (.long q2), .second, .val (.long q3), .second, .val (.int p4), .unset, .unset, .unset, .unset, .unset, .unset, .unset, .unset, .unset, .unset, .unset, .unset, .unset, .unset, .unset, .unset, .unset] [] := by first |  (simp [entryFrame, mkF, argsToLocals, Value.category, maxLocals]; done) | rfl
def Q0 (Z : State) (q0 : Int64) (q1 : Int64) (q2 : Int64) (q3 : Int64) (p4 : Int32) (ca : Addr) (clc : Cell) (h0 : Heap) (n0 : Nat) (v : Option Value) (h : Heap) (L : List Loc) : Prop := v = some (.int (1 : Int32)) ∧ Fr n0 L
set_option maxRecDepth 65536 in
set_option maxHeartbeats 40000000 in
theorem rm0 (l : Launch) (Z : State) (a0 : Array Value) (hw : ∀ d ∈ tables_1, d.before a0 Z = true) (ws : List Jvm.Cond) (q0 : Int64) (q1 : Int64) (q2 : Int64) (q3 : Int64) (p4 : Int32) (ca : Addr) (clc : Cell) (h0 : Heap) (n0 : Nat) (Z0 : n0 ≤ h0.size) (S_c : Sta Z Z.heap "java/lang/Long$LongCache" "cache" "[Ljava/lang/Long;" (.ref ca)) (Arc : Arr Z Z.heap ca clc (.object "java/lang/Long")) (hsz : clc.slots.size = 256) (hall : ∀ i : Nat, i < 256 → ∃ r : Addr, clc.slots[i]? = some (.ref r) ∧ Exa Z Z.heap r "java/lang/Long") (hO : Old Z n0 h0) :
    MetFree l x (head1 (Jvm.Cond.code x code maxLocals ret :: ws) room_1) (fun a U => a = #[(.long q0), (.long q1), (.long q2), (.long q3), (.int p4)] ∧ Z.Warmed39 U.vm ∧ U.heap = h0) (fun _ _ _ _ _ => True) (fun _ U o U' => ∃ v L, o = .returned v ∧ Q0 Z q0 q1 q2 q3 p4 ca clc h0 n0 v U'.heap L ∧ FrameEnd U o U' L room_1.cells room_1.slots) := by
  refine MetFree.of_bodySF (plainFor_of_name pn_com_example_bouncer_bouncer_RequestIdEqualsPinLaw) hisR ?_
  intro p e s m args below meth c s₁ Bd hml0 hP hK
  obtain ⟨rfl, hZ, hh⟩ := hP
  have hx := Bd.exec
  have hby := Bd.bytes
  have hml : c.maxLocals = 26 := hml0
  have hown : s.vm.findClass "com/example/bouncer/bouncer/RequestIdEqualsPinLaw" = some m.cls := findClass_of_methodNamed Bd.named
  have hnm := (name_of_methodNamed Bd.named Bd.method).1
  have hlk := Bd.notSynchronized
  have X0 : Stand p l e room_1 s m #[(.long q0), (.long q1), (.long q2), (.long q3), (.int p4)] below meth c s₁ [] 0 0 := Stand.of_body Bd
  have e0 : s₁.heap = h0 := by rw [← hh, Bd.state]; rfl
  have N0 := Fr.nil n0
  show own_G p.tables e below s (Q0 Z q0 q1 q2 q3 p4 ca clc h0 n0) room_1.cells room_1.slots _
  refine own_thr (a := s₁.setTop (mkF m 0 #[.val (.long q0), .second, .val (.long q1), .second, .val (.long q2), .second, .val (.long q3), .second, .val (.int p4), .unset, .unset, .unset, .unset, .unset, .unset, .unset, .unset, .unset, .unset, .unset, .unset, .unset, .unset, .unset, .unset, .unset] [])) (fun t kt => castTop (ef_rm0 m q0 q1 q2 q3 p4) kt) ?_
  refine own_thr (a := s₁.setTop (mkF m 1 #[.val (.long q0), .second, .val (.long q1), .second, .val (.long q2), .second, .val (.long q3), .second, .val (.int p4), .unset, .unset, .unset, .unset, .unset, .unset, .unset, .unset, .unset, .unset, .unset, .unset, .unset, .unset, .unset, .unset, .unset] [(.long q0)])) (fun t kt => ?_) ?_
  · show Steps p.tables e below (s₁.setTop (mkF m 0 #[.val (.long q0), .second, .val (.long q1), .second, .val (.long q2), .second, .val (.long q3), .second, .val (.int p4), .unset, .unset, .unset, .unset, .unset, .unset, .unset, .unset, .unset, .unset, .unset, .unset, .unset, .unset, .unset, .unset, .unset] [])) _
    refine XS.lloadN X0.here hx rfl (hb hby at_0) rfl ?_
    exact kt
  obtain ⟨_, _, ⟨T1, L1, k1, n1⟩, -, X1, ⟨Lc1, hQ1, l1, y1, z1⟩, st1⟩ := Jvm.LawKit.callS X0 hx (y := (⟨"com/example/bouncer/bouncer/RequestIdEqualsPinLaw", "nz", "(J)J"⟩ : MethodName)) hown (mvT hZ (hw _ (List.mem_of_getElem? (i := 0) rfl))) (mvT hZ (hw _ (List.mem_of_getElem? (i := 1) rfl))) (mvT hZ (hw _ (List.mem_of_getElem? (i := 2) rfl))) (mvT hZ (hw _ (List.mem_of_getElem? (i := 3) rfl))) (by decide) (backOf (W := 0) (rmZ l Z a0 hw [] q0 h0 n0 Z0) hZ (hw _ (List.mem_of_getElem? (i := 3) rfl)) (hw _ (List.mem_of_getElem? (i := 2) rfl)) (by decide) (by decide)) (g := (mkF m 1 #[.val (.long q0), .second, .val (.long q1), .second, .val (.long q2), .second, .val (.long q3), .second, .val (.int p4), .unset, .unset, .unset, .unset, .unset, .unset, .unset, .unset, .unset, .unset, .unset, .unset, .unset, .unset, .unset, .unset, .unset] [(.long q0)])) rfl (by rw [hml]; rfl) (argsL := [(.long q0)]) (rest := []) (lenOf pd__28J_29J rfl) rfl (by show 2 * 0 + _ ≤ _; exact Nat.le_of_eq rfl) (hb hby at_1) (fun _ _ => ⟨rfl, e0, (by decide : 0 + 0 ≤ _), (by decide : 0 + 0 ≤ _)⟩)
  dsimp only [Pt.U, Pt.locs, Pt.cells, Pt.slots] at X1 l1 y1 z1 st1 hQ1
  obtain ⟨rfl, N1q, e1⟩ := hQ1
  obtain ⟨lc1, X1, N1⟩ := own_pack X1 l1 y1 z1 N0 N1q (C := 0) (S' := 0) rfl rfl
  refine own_thr (a := T1.setTop (mkF m 4 #[.val (.long q0), .second, .val (.long q1), .second, .val (.long q2), .second, .val (.long q3), .second, .val (.int p4), .unset, .unset, .unset, .unset, .unset, .unset, .unset, .unset, .unset, .unset, .unset, .unset, .unset, .unset, .unset, .unset, .unset] [(.long (f_rmZ q0))])) (fun t kt => st1 t kt) ?_
  refine own_thr (a := T1.setTop (mkF m 13 #[.val (.long q0), .second, .val (.long q1), .second, .val (.long q2), .second, .val (.long q3), .second, .val (.int p4), .val (.long (f_rmZ q0)), .second, .val (.long (q1 &&& (9223372036854775807 : Int64))), .second, .unset, .unset, .unset, .unset, .unset, .unset, .unset, .unset, .unset, .unset, .unset, .unset, .unset] [])) (fun t kt => ?_) ?_
  · show Steps p.tables e below (T1.setTop (mkF m 4 #[.val (.long q0), .second, .val (.long q1), .second, .val (.long q2), .second, .val (.long q3), .second, .val (.int p4), .unset, .unset, .unset, .unset, .unset, .unset, .unset, .unset, .unset, .unset, .unset, .unset, .unset, .unset, .unset, .unset, .unset] [(.long (f_rmZ q0))])) _
    refine XS.lstore X1.here hx rfl (hb hby at_4) rfl (l' := #[.val (.long q0), .second, .val (.long q1), .second, .val (.long q2), .second, .val (.long q3), .second, .val (.int p4), .val (.long (f_rmZ q0)), .second, .unset, .unset, .unset, .unset, .unset, .unset, .unset, .unset, .unset, .unset, .unset, .unset, .unset, .unset, .unset]) rfl ?_
    show Steps p.tables e below (T1.setTop (mkF m 6 #[.val (.long q0), .second, .val (.long q1), .second, .val (.long q2), .second, .val (.long q3), .second, .val (.int p4), .val (.long (f_rmZ q0)), .second, .unset, .unset, .unset, .unset, .unset, .unset, .unset, .unset, .unset, .unset, .unset, .unset, .unset, .unset, .unset] [])) _
    refine XS.lloadN X1.here hx rfl (hb hby at_6) rfl ?_
    show Steps p.tables e below (T1.setTop (mkF m 7 #[.val (.long q0), .second, .val (.long q1), .second, .val (.long q2), .second, .val (.long q3), .second, .val (.int p4), .val (.long (f_rmZ q0)), .second, .unset, .unset, .unset, .unset, .unset, .unset, .unset, .unset, .unset, .unset, .unset, .unset, .unset, .unset, .unset] [(.long q1)])) _
    refine X1.ldc2Long hx hown (mvT hZ (hw _ (List.mem_of_getElem? (i := 4) rfl))) (g := (mkF m 7 #[.val (.long q0), .second, .val (.long q1), .second, .val (.long q2), .second, .val (.long q3), .second, .val (.int p4), .val (.long (f_rmZ q0)), .second, .unset, .unset, .unset, .unset, .unset, .unset, .unset, .unset, .unset, .unset, .unset, .unset, .unset, .unset, .unset] [(.long q1)])) rfl (hb hby at_7) _ ?_
    show Steps p.tables e below (T1.setTop (mkF m 10 #[.val (.long q0), .second, .val (.long q1), .second, .val (.long q2), .second, .val (.long q3), .second, .val (.int p4), .val (.long (f_rmZ q0)), .second, .unset, .unset, .unset, .unset, .unset, .unset, .unset, .unset, .unset, .unset, .unset, .unset, .unset, .unset, .unset] [(.long (9223372036854775807 : Int64)), (.long q1)])) _
    refine XS.land X1.here hx rfl (hb hby at_10) rfl ?_
    show Steps p.tables e below (T1.setTop (mkF m 11 #[.val (.long q0), .second, .val (.long q1), .second, .val (.long q2), .second, .val (.long q3), .second, .val (.int p4), .val (.long (f_rmZ q0)), .second, .unset, .unset, .unset, .unset, .unset, .unset, .unset, .unset, .unset, .unset, .unset, .unset, .unset, .unset, .unset] [(.long (q1 &&& (9223372036854775807 : Int64)))])) _
    refine XS.lstore X1.here hx rfl (hb hby at_11) rfl (l' := #[.val (.long q0), .second, .val (.long q1), .second, .val (.long q2), .second, .val (.long q3), .second, .val (.int p4), .val (.long (f_rmZ q0)), .second, .val (.long (q1 &&& (9223372036854775807 : Int64))), .second, .unset, .unset, .unset, .unset, .unset, .unset, .unset, .unset, .unset, .unset, .unset, .unset, .unset]) rfl ?_
    exact kt
  have jn34 : ∀ (Tj2 : State) (lcj2 : List Loc) (Xj2 : Stand p l e room_1 s m #[(.long q0), (.long q1), (.long q2), (.long q3), (.int p4)] below meth c Tj2 lcj2 0 0) (Nj2 : Fr n0 lcj2) (ej2 : Tj2.heap = h0) (q13 : Int64), (¬ q13 = (0 : Int64)) → own_G p.tables e below s (Q0 Z q0 q1 q2 q3 p4 ca clc h0 n0) room_1.cells room_1.slots (Tj2.setTop (mkF m 34 #[.val (.long q0), .second, .val (.long q1), .second, .val (.long q2), .second, .val (.long q3), .second, .val (.int p4), .val (.long (f_rmZ q0)), .second, .val (.long (q1 &&& (9223372036854775807 : Int64))), .second, .val (.long q13), .second, .unset, .unset, .unset, .unset, .unset, .unset, .unset, .unset, .unset, .unset, .unset] [])) := by
    intro Tj2 lcj2 Xj2 Nj2 ej2 q13 hq13
    have jn56 : ∀ (Tj3 : State) (lcj3 : List Loc) (Xj3 : Stand p l e room_1 s m #[(.long q0), (.long q1), (.long q2), (.long q3), (.int p4)] below meth c Tj3 lcj3 0 0) (Nj3 : Fr n0 lcj3) (ej3 : Tj3.heap = h0) (q15 : Int64), (¬ q15 < (0 : Int64)) → own_G p.tables e below s (Q0 Z q0 q1 q2 q3 p4 ca clc h0 n0) room_1.cells room_1.slots (Tj3.setTop (mkF m 56 #[.val (.long q0), .second, .val (.long q1), .second, .val (.long q2), .second, .val (.long q3), .second, .val (.int p4), .val (.long (f_rmZ q0)), .second, .val (.long (q1 &&& (9223372036854775807 : Int64))), .second, .val (.long q13), .second, .val (.long q15), .second, .unset, .unset, .unset, .unset, .unset, .unset, .unset, .unset, .unset] [])) := by
      intro Tj3 lcj3 Xj3 Nj3 ej3 q15 hq15
      obtain ⟨T4, h4, X4, e4, E4, A4, D4, U4, st4⟩ := newO Xj3 hx hZ hown (hw _ (List.mem_of_getElem? (i := 5) rfl)) (hw _ (List.mem_of_getElem? (i := 6) rfl)) (hw _ (List.mem_of_getElem? (i := 7) rfl)) ej3 (g := (mkF m 56 #[.val (.long q0), .second, .val (.long q1), .second, .val (.long q2), .second, .val (.long q3), .second, .val (.int p4), .val (.long (f_rmZ q0)), .second, .val (.long (q1 &&& (9223372036854775807 : Int64))), .second, .val (.long q13), .second, .val (.long q15), .second, .unset, .unset, .unset, .unset, .unset, .unset, .unset, .unset, .unset] [])) rfl (hb hby at_56) (by decide : 0 + 1 ≤ _) (by decide : 0 + 2 ≤ _)
      obtain ⟨b4, g4⟩ : ∃ z, z = h0.size := ⟨_, rfl⟩
      rw [← g4] at A4 D4 st4 U4
      have g_b4 : n0 ≤ b4 := Nat.le_trans Z0 (Nat.le_of_eq g4.symm)
      have sz_b4 : h0.size ≤ b4 := Nat.le_trans (Nat.le_refl h0.size) (Nat.le_of_eq g4.symm)
      have Z5 : n0 ≤ h4.size := Nat.le_trans Z0 E4.1
      have Z5h : h0.size ≤ h4.size := Nat.le_trans (Nat.le_refl h0.size) E4.1
      have F_clientId_b4 : Fld Z h4 b4 "com/example/bouncer/bouncer/RequestId" "clientId" "J" (.long (0 : Int64)) := D4 (Or.inr (hw _ (List.mem_of_getElem? (i := 15) rfl))) (ty := .long) (by decide)
      have F_requestNumber_b4 : Fld Z h4 b4 "com/example/bouncer/bouncer/RequestId" "requestNumber" "J" (.long (0 : Int64)) := D4 (Or.inr (hw _ (List.mem_of_getElem? (i := 17) rfl))) (ty := .long) (by decide)
      refine own_thr (a := T4.setTop (mkF m 59 #[.val (.long q0), .second, .val (.long q1), .second, .val (.long q2), .second, .val (.long q3), .second, .val (.int p4), .val (.long (f_rmZ q0)), .second, .val (.long (q1 &&& (9223372036854775807 : Int64))), .second, .val (.long q13), .second, .val (.long q15), .second, .unset, .unset, .unset, .unset, .unset, .unset, .unset, .unset, .unset] [(.ref b4)])) (fun t kt => st4 t kt) ?_
      refine own_thr (a := T4.setTop (mkF m 64 #[.val (.long q0), .second, .val (.long q1), .second, .val (.long q2), .second, .val (.long q3), .second, .val (.int p4), .val (.long (f_rmZ q0)), .second, .val (.long (q1 &&& (9223372036854775807 : Int64))), .second, .val (.long q13), .second, .val (.long q15), .second, .unset, .unset, .unset, .unset, .unset, .unset, .unset, .unset, .unset] [(.long (q1 &&& (9223372036854775807 : Int64))), (.long (f_rmZ q0)), (.ref b4), (.ref b4)])) (fun t kt => ?_) ?_
      · show Steps p.tables e below (T4.setTop (mkF m 59 #[.val (.long q0), .second, .val (.long q1), .second, .val (.long q2), .second, .val (.long q3), .second, .val (.int p4), .val (.long (f_rmZ q0)), .second, .val (.long (q1 &&& (9223372036854775807 : Int64))), .second, .val (.long q13), .second, .val (.long q15), .second, .unset, .unset, .unset, .unset, .unset, .unset, .unset, .unset, .unset] [(.ref b4)])) _
        refine XS.dup X4.here hx rfl (hb hby at_59) rfl rfl ?_
        show Steps p.tables e below (T4.setTop (mkF m 60 #[.val (.long q0), .second, .val (.long q1), .second, .val (.long q2), .second, .val (.long q3), .second, .val (.int p4), .val (.long (f_rmZ q0)), .second, .val (.long (q1 &&& (9223372036854775807 : Int64))), .second, .val (.long q13), .second, .val (.long q15), .second, .unset, .unset, .unset, .unset, .unset, .unset, .unset, .unset, .unset] [(.ref b4), (.ref b4)])) _
        refine XS.lload X4.here hx rfl (hb hby at_60) rfl ?_
        show Steps p.tables e below (T4.setTop (mkF m 62 #[.val (.long q0), .second, .val (.long q1), .second, .val (.long q2), .second, .val (.long q3), .second, .val (.int p4), .val (.long (f_rmZ q0)), .second, .val (.long (q1 &&& (9223372036854775807 : Int64))), .second, .val (.long q13), .second, .val (.long q15), .second, .unset, .unset, .unset, .unset, .unset, .unset, .unset, .unset, .unset] [(.long (f_rmZ q0)), (.ref b4), (.ref b4)])) _
        refine XS.lload X4.here hx rfl (hb hby at_62) rfl ?_
        exact kt
      obtain ⟨_, _, ⟨T6, L6, k6, n6⟩, -, X6, ⟨Lc6, hQ6, l6, y6, z6⟩, st6⟩ := X4.specialBack hx (y := (⟨"com/example/bouncer/bouncer/RequestId", "<init>", "(JJ)V"⟩ : MethodName)) rfl hown (mvT hZ (hw _ (List.mem_of_getElem? (i := 8) rfl))) (mvT hZ (hw _ (List.mem_of_getElem? (i := 9) rfl))) (mvT hZ (hw _ (List.mem_of_getElem? (i := 10) rfl))) (by decide) (backOf (W := 1) (rmI l Z a0 hw [] b4 (f_rmZ q0) (q1 &&& (9223372036854775807 : Int64)) h4 n0 Z5 A4 F_clientId_b4 F_requestNumber_b4 g_b4 (own_nz _) (own_nonneg _)) hZ (hw _ (List.mem_of_getElem? (i := 10) rfl)) (hw _ (List.mem_of_getElem? (i := 7) rfl)) (by decide) (by decide)) (g := (mkF m 64 #[.val (.long q0), .second, .val (.long q1), .second, .val (.long q2), .second, .val (.long q3), .second, .val (.int p4), .val (.long (f_rmZ q0)), .second, .val (.long (q1 &&& (9223372036854775807 : Int64))), .second, .val (.long q13), .second, .val (.long q15), .second, .unset, .unset, .unset, .unset, .unset, .unset, .unset, .unset, .unset] [(.long (q1 &&& (9223372036854775807 : Int64))), (.long (f_rmZ q0)), (.ref b4), (.ref b4)])) rfl (by rw [hml]; rfl) (Steps.refl _) (a := b4) (argsL := [(.long (f_rmZ q0)), (.long (q1 &&& (9223372036854775807 : Int64)))]) (rest := [(.ref b4)]) (lenOf pd__28JJ_29V rfl) rfl (by show 2 * 0 + _ ≤ _; exact Nat.le_of_eq rfl) (hb hby at_64) (fun _ _ => ⟨rfl, e4, (by decide : 1 + 0 ≤ _), (by decide : 2 + 0 ≤ _)⟩)
      dsimp only [Pt.U, Pt.locs, Pt.cells, Pt.slots] at X6 l6 y6 z6 st6 hQ6
      obtain ⟨rfl, N6q, K6, o6_0, o6_1, o6_2⟩ := hQ6
      have Z7 : n0 ≤ T6.heap.size := Nat.le_trans Z5 K6.1
      have Z7h : h0.size ≤ T6.heap.size := Nat.le_trans Z5h K6.1
      obtain ⟨lc6, X6, N6⟩ := own_pack X6 l6 y6 z6 Nj3 N6q (C := 1) (S' := 2) rfl rfl
      refine own_thr (a := T6.setTop (mkF m 67 #[.val (.long q0), .second, .val (.long q1), .second, .val (.long q2), .second, .val (.long q3), .second, .val (.int p4), .val (.long (f_rmZ q0)), .second, .val (.long (q1 &&& (9223372036854775807 : Int64))), .second, .val (.long q13), .second, .val (.long q15), .second, .unset, .unset, .unset, .unset, .unset, .unset, .unset, .unset, .unset] [(.ref b4)])) (fun t kt => st6.trans kt) ?_
      refine own_thr (a := T6.setTop (mkF m 69 #[.val (.long q0), .second, .val (.long q1), .second, .val (.long q2), .second, .val (.long q3), .second, .val (.int p4), .val (.long (f_rmZ q0)), .second, .val (.long (q1 &&& (9223372036854775807 : Int64))), .second, .val (.long q13), .second, .val (.long q15), .second, .val (.ref b4), .unset, .unset, .unset, .unset, .unset, .unset, .unset, .unset] [])) (fun t kt => ?_) ?_
      · show Steps p.tables e below (T6.setTop (mkF m 67 #[.val (.long q0), .second, .val (.long q1), .second, .val (.long q2), .second, .val (.long q3), .second, .val (.int p4), .val (.long (f_rmZ q0)), .second, .val (.long (q1 &&& (9223372036854775807 : Int64))), .second, .val (.long q13), .second, .val (.long q15), .second, .unset, .unset, .unset, .unset, .unset, .unset, .unset, .unset, .unset] [(.ref b4)])) _
        refine XS.astore X6.here hx rfl (hb hby at_67) rfl rfl (l' := #[.val (.long q0), .second, .val (.long q1), .second, .val (.long q2), .second, .val (.long q3), .second, .val (.int p4), .val (.long (f_rmZ q0)), .second, .val (.long (q1 &&& (9223372036854775807 : Int64))), .second, .val (.long q13), .second, .val (.long q15), .second, .val (.ref b4), .unset, .unset, .unset, .unset, .unset, .unset, .unset, .unset]) rfl ?_
        exact kt
      obtain ⟨T8, h8, X8, e8, E8, A8, D8, U8, st8⟩ := newO X6 hx hZ hown (hw _ (List.mem_of_getElem? (i := 5) rfl)) (hw _ (List.mem_of_getElem? (i := 6) rfl)) (hw _ (List.mem_of_getElem? (i := 7) rfl)) rfl (g := (mkF m 69 #[.val (.long q0), .second, .val (.long q1), .second, .val (.long q2), .second, .val (.long q3), .second, .val (.int p4), .val (.long (f_rmZ q0)), .second, .val (.long (q1 &&& (9223372036854775807 : Int64))), .second, .val (.long q13), .second, .val (.long q15), .second, .val (.ref b4), .unset, .unset, .unset, .unset, .unset, .unset, .unset, .unset] [])) rfl (hb hby at_69) (by decide : 1 + 1 ≤ _) (by decide : 2 + 2 ≤ _)
      obtain ⟨b8, g8⟩ : ∃ z, z = T6.heap.size := ⟨_, rfl⟩
      rw [← g8] at A8 D8 st8 U8
      have g_b8 : n0 ≤ b8 := Nat.le_trans Z7 (Nat.le_of_eq g8.symm)
      have sz_b8 : h0.size ≤ b8 := Nat.le_trans Z7h (Nat.le_of_eq g8.symm)
      have ne_b4_b8 : b4 ≠ b8 := Nat.ne_of_lt (Nat.lt_of_lt_of_le o6_0.lt (Nat.le_of_eq g8.symm))
      have Z9 : n0 ≤ h8.size := Nat.le_trans Z7 E8.1
      have Z9h : h0.size ≤ h8.size := Nat.le_trans Z7h E8.1
      have F_clientId_b8 : Fld Z h8 b8 "com/example/bouncer/bouncer/RequestId" "clientId" "J" (.long (0 : Int64)) := D8 (Or.inr (hw _ (List.mem_of_getElem? (i := 15) rfl))) (ty := .long) (by decide)
      have F_requestNumber_b8 : Fld Z h8 b8 "com/example/bouncer/bouncer/RequestId" "requestNumber" "J" (.long (0 : Int64)) := D8 (Or.inr (hw _ (List.mem_of_getElem? (i := 17) rfl))) (ty := .long) (by decide)
      refine own_thr (a := T8.setTop (mkF m 72 #[.val (.long q0), .second, .val (.long q1), .second, .val (.long q2), .second, .val (.long q3), .second, .val (.int p4), .val (.long (f_rmZ q0)), .second, .val (.long (q1 &&& (9223372036854775807 : Int64))), .second, .val (.long q13), .second, .val (.long q15), .second, .val (.ref b4), .unset, .unset, .unset, .unset, .unset, .unset, .unset, .unset] [(.ref b8)])) (fun t kt => st8 t kt) ?_
      refine own_thr (a := T8.setTop (mkF m 77 #[.val (.long q0), .second, .val (.long q1), .second, .val (.long q2), .second, .val (.long q3), .second, .val (.int p4), .val (.long (f_rmZ q0)), .second, .val (.long (q1 &&& (9223372036854775807 : Int64))), .second, .val (.long q13), .second, .val (.long q15), .second, .val (.ref b4), .unset, .unset, .unset, .unset, .unset, .unset, .unset, .unset] [(.long q15), (.long q13), (.ref b8), (.ref b8)])) (fun t kt => ?_) ?_
      · show Steps p.tables e below (T8.setTop (mkF m 72 #[.val (.long q0), .second, .val (.long q1), .second, .val (.long q2), .second, .val (.long q3), .second, .val (.int p4), .val (.long (f_rmZ q0)), .second, .val (.long (q1 &&& (9223372036854775807 : Int64))), .second, .val (.long q13), .second, .val (.long q15), .second, .val (.ref b4), .unset, .unset, .unset, .unset, .unset, .unset, .unset, .unset] [(.ref b8)])) _
        refine XS.dup X8.here hx rfl (hb hby at_72) rfl rfl ?_
        show Steps p.tables e below (T8.setTop (mkF m 73 #[.val (.long q0), .second, .val (.long q1), .second, .val (.long q2), .second, .val (.long q3), .second, .val (.int p4), .val (.long (f_rmZ q0)), .second, .val (.long (q1 &&& (9223372036854775807 : Int64))), .second, .val (.long q13), .second, .val (.long q15), .second, .val (.ref b4), .unset, .unset, .unset, .unset, .unset, .unset, .unset, .unset] [(.ref b8), (.ref b8)])) _
        refine XS.lload X8.here hx rfl (hb hby at_73) rfl ?_
        show Steps p.tables e below (T8.setTop (mkF m 75 #[.val (.long q0), .second, .val (.long q1), .second, .val (.long q2), .second, .val (.long q3), .second, .val (.int p4), .val (.long (f_rmZ q0)), .second, .val (.long (q1 &&& (9223372036854775807 : Int64))), .second, .val (.long q13), .second, .val (.long q15), .second, .val (.ref b4), .unset, .unset, .unset, .unset, .unset, .unset, .unset, .unset] [(.long q13), (.ref b8), (.ref b8)])) _
        refine XS.lload X8.here hx rfl (hb hby at_75) rfl ?_
        exact kt
      obtain ⟨_, _, ⟨T10, L10, k10, n10⟩, -, X10, ⟨Lc10, hQ10, l10, y10, z10⟩, st10⟩ := X8.specialBack hx (y := (⟨"com/example/bouncer/bouncer/RequestId", "<init>", "(JJ)V"⟩ : MethodName)) rfl hown (mvT hZ (hw _ (List.mem_of_getElem? (i := 8) rfl))) (mvT hZ (hw _ (List.mem_of_getElem? (i := 9) rfl))) (mvT hZ (hw _ (List.mem_of_getElem? (i := 10) rfl))) (by decide) (backOf (W := 1) (rmI l Z a0 hw [] b8 q13 q15 h8 n0 Z9 A8 F_clientId_b8 F_requestNumber_b8 g_b8 hq13 hq15) hZ (hw _ (List.mem_of_getElem? (i := 10) rfl)) (hw _ (List.mem_of_getElem? (i := 7) rfl)) (by decide) (by decide)) (g := (mkF m 77 #[.val (.long q0), .second, .val (.long q1), .second, .val (.long q2), .second, .val (.long q3), .second, .val (.int p4), .val (.long (f_rmZ q0)), .second, .val (.long (q1 &&& (9223372036854775807 : Int64))), .second, .val (.long q13), .second, .val (.long q15), .second, .val (.ref b4), .unset, .unset, .unset, .unset, .unset, .unset, .unset, .unset] [(.long q15), (.long q13), (.ref b8), (.ref b8)])) rfl (by rw [hml]; rfl) (Steps.refl _) (a := b8) (argsL := [(.long q13), (.long q15)]) (rest := [(.ref b8)]) (lenOf pd__28JJ_29V rfl) rfl (by show 2 * 0 + _ ≤ _; exact Nat.le_of_eq rfl) (hb hby at_77) (fun _ _ => ⟨rfl, e8, (by decide : 2 + 0 ≤ _), (by decide : 4 + 0 ≤ _)⟩)
      dsimp only [Pt.U, Pt.locs, Pt.cells, Pt.slots] at X10 l10 y10 z10 st10 hQ10
      obtain ⟨rfl, N10q, K10, o10_0, o10_1, o10_2⟩ := hQ10
      have Z11 : n0 ≤ T10.heap.size := Nat.le_trans Z9 K10.1
      have Z11h : h0.size ≤ T10.heap.size := Nat.le_trans Z9h K10.1
      obtain ⟨lc10, X10, N10⟩ := own_pack X10 l10 y10 z10 N6 N10q (C := 2) (S' := 4) rfl rfl
      refine own_thr (a := T10.setTop (mkF m 80 #[.val (.long q0), .second, .val (.long q1), .second, .val (.long q2), .second, .val (.long q3), .second, .val (.int p4), .val (.long (f_rmZ q0)), .second, .val (.long (q1 &&& (9223372036854775807 : Int64))), .second, .val (.long q13), .second, .val (.long q15), .second, .val (.ref b4), .unset, .unset, .unset, .unset, .unset, .unset, .unset, .unset] [(.ref b8)])) (fun t kt => st10.trans kt) ?_
      refine own_thr (a := T10.setTop (mkF m 84 #[.val (.long q0), .second, .val (.long q1), .second, .val (.long q2), .second, .val (.long q3), .second, .val (.int p4), .val (.long (f_rmZ q0)), .second, .val (.long (q1 &&& (9223372036854775807 : Int64))), .second, .val (.long q13), .second, .val (.long q15), .second, .val (.ref b4), .val (.ref b8), .unset, .unset, .unset, .unset, .unset, .unset, .unset] [(.long (f_rmZ q0))])) (fun t kt => ?_) ?_
      · show Steps p.tables e below (T10.setTop (mkF m 80 #[.val (.long q0), .second, .val (.long q1), .second, .val (.long q2), .second, .val (.long q3), .second, .val (.int p4), .val (.long (f_rmZ q0)), .second, .val (.long (q1 &&& (9223372036854775807 : Int64))), .second, .val (.long q13), .second, .val (.long q15), .second, .val (.ref b4), .unset, .unset, .unset, .unset, .unset, .unset, .unset, .unset] [(.ref b8)])) _
        refine XS.astore X10.here hx rfl (hb hby at_80) rfl rfl (l' := #[.val (.long q0), .second, .val (.long q1), .second, .val (.long q2), .second, .val (.long q3), .second, .val (.int p4), .val (.long (f_rmZ q0)), .second, .val (.long (q1 &&& (9223372036854775807 : Int64))), .second, .val (.long q13), .second, .val (.long q15), .second, .val (.ref b4), .val (.ref b8), .unset, .unset, .unset, .unset, .unset, .unset, .unset]) rfl ?_
        show Steps p.tables e below (T10.setTop (mkF m 82 #[.val (.long q0), .second, .val (.long q1), .second, .val (.long q2), .second, .val (.long q3), .second, .val (.int p4), .val (.long (f_rmZ q0)), .second, .val (.long (q1 &&& (9223372036854775807 : Int64))), .second, .val (.long q13), .second, .val (.long q15), .second, .val (.ref b4), .val (.ref b8), .unset, .unset, .unset, .unset, .unset, .unset, .unset] [])) _
        refine XS.lload X10.here hx rfl (hb hby at_82) rfl ?_
        exact kt
      have c13 := ((((hO.ext E4).keep K6 (allS g_b4 all0)).ext E8).keep K10 (allS g_b8 all0))
      have S_c' := S_c.ext c13.2
      have Arc' := Arc.ext c13.2
      have hall' : ∀ i : Nat, i < 256 → ∃ r : Addr, clc.slots[i]? = some (.ref r) ∧ Exa Z T10.heap r "java/lang/Long" := fun i hi => by obtain ⟨r, q1, q2⟩ := hall i hi; exact ⟨r, q1, q2.ext c13.2⟩
      obtain ⟨_, _, ⟨T12, L12, k12, n12⟩, -, X12, ⟨Lc12, hQ12, l12, y12, z12⟩, st12⟩ := Jvm.LawKit.callS X10 hx (y := (⟨"java/lang/Long", "valueOf", "(J)Ljava/lang/Long;"⟩ : MethodName)) hown (mvT hZ (hw _ (List.mem_of_getElem? (i := 18) rfl))) (mvT hZ (hw _ (List.mem_of_getElem? (i := 19) rfl))) (mvT hZ (hw _ (List.mem_of_getElem? (i := 20) rfl))) (mvT hZ (hw _ (List.mem_of_getElem? (i := 21) rfl))) (by decide) (backOf (W := 0) (rmV l Z a0 hw [] (f_rmZ q0) ca clc T10.heap n0 Z11 S_c' Arc' hsz hall') hZ (hw _ (List.mem_of_getElem? (i := 21) rfl)) (hw _ (List.mem_of_getElem? (i := 20) rfl)) (by decide) (by decide)) (g := (mkF m 84 #[.val (.long q0), .second, .val (.long q1), .second, .val (.long q2), .second, .val (.long q3), .second, .val (.int p4), .val (.long (f_rmZ q0)), .second, .val (.long (q1 &&& (9223372036854775807 : Int64))), .second, .val (.long q13), .second, .val (.long q15), .second, .val (.ref b4), .val (.ref b8), .unset, .unset, .unset, .unset, .unset, .unset, .unset] [(.long (f_rmZ q0))])) rfl (by rw [hml]; rfl) (argsL := [(.long (f_rmZ q0))]) (rest := []) (lenOf pd__28J_29Ljava_2flang_2fLong_3b rfl) rfl (by show 2 * 0 + _ ≤ _; exact Nat.le_of_eq rfl) (hb hby at_84) (fun _ _ => ⟨rfl, rfl, (by decide : 2 + 1 ≤ _), (by decide : 4 + 1 ≤ _)⟩)
      dsimp only [Pt.U, Pt.locs, Pt.cells, Pt.slots] at X12 l12 y12 z12 st12 hQ12
      obtain ⟨r12, rfl, N12q, K12, o12⟩ := hQ12
      have Z14 : n0 ≤ T12.heap.size := Nat.le_trans Z11 K12.1
      have Z14h : h0.size ≤ T12.heap.size := Nat.le_trans Z11h K12.1
      obtain ⟨lc12, X12, N12⟩ := own_pack X12 l12 y12 z12 N10 N12q (C := 3) (S' := 5) rfl rfl
      refine own_thr (a := T12.setTop (mkF m 87 #[.val (.long q0), .second, .val (.long q1), .second, .val (.long q2), .second, .val (.long q3), .second, .val (.int p4), .val (.long (f_rmZ q0)), .second, .val (.long (q1 &&& (9223372036854775807 : Int64))), .second, .val (.long q13), .second, .val (.long q15), .second, .val (.ref b4), .val (.ref b8), .unset, .unset, .unset, .unset, .unset, .unset, .unset] [(.ref r12)])) (fun t kt => st12 t kt) ?_
      refine own_thr (a := T12.setTop (mkF m 89 #[.val (.long q0), .second, .val (.long q1), .second, .val (.long q2), .second, .val (.long q3), .second, .val (.int p4), .val (.long (f_rmZ q0)), .second, .val (.long (q1 &&& (9223372036854775807 : Int64))), .second, .val (.long q13), .second, .val (.long q15), .second, .val (.ref b4), .val (.ref b8), .val (.ref r12), .unset, .unset, .unset, .unset, .unset, .unset] [])) (fun t kt => ?_) ?_
      · show Steps p.tables e below (T12.setTop (mkF m 87 #[.val (.long q0), .second, .val (.long q1), .second, .val (.long q2), .second, .val (.long q3), .second, .val (.int p4), .val (.long (f_rmZ q0)), .second, .val (.long (q1 &&& (9223372036854775807 : Int64))), .second, .val (.long q13), .second, .val (.long q15), .second, .val (.ref b4), .val (.ref b8), .unset, .unset, .unset, .unset, .unset, .unset, .unset] [(.ref r12)])) _
        refine XS.astore X12.here hx rfl (hb hby at_87) rfl rfl (l' := #[.val (.long q0), .second, .val (.long q1), .second, .val (.long q2), .second, .val (.long q3), .second, .val (.int p4), .val (.long (f_rmZ q0)), .second, .val (.long (q1 &&& (9223372036854775807 : Int64))), .second, .val (.long q13), .second, .val (.long q15), .second, .val (.ref b4), .val (.ref b8), .val (.ref r12), .unset, .unset, .unset, .unset, .unset, .unset]) rfl ?_
        exact kt
      have jn110 : ∀ (Tj15 : State) (lcj15 : List Loc) (Xj15 : Stand p l e room_1 s m #[(.long q0), (.long q1), (.long q2), (.long q3), (.int p4)] below meth c Tj15 lcj15 3 5) (Nj15 : Fr n0 lcj15) (ej15 : Tj15.heap = T12.heap) (i20 : Int32), (i20 = own_ex (f_rmZ q0) (q1 &&& (9223372036854775807 : Int64)) q13 q15) → own_G p.tables e below s (Q0 Z q0 q1 q2 q3 p4 ca clc h0 n0) room_1.cells room_1.slots (Tj15.setTop (mkF m 110 #[.val (.long q0), .second, .val (.long q1), .second, .val (.long q2), .second, .val (.long q3), .second, .val (.int p4), .val (.long (f_rmZ q0)), .second, .val (.long (q1 &&& (9223372036854775807 : Int64))), .second, .val (.long q13), .second, .val (.long q15), .second, .val (.ref b4), .val (.ref b8), .val (.ref r12), .unset, .unset, .unset, .unset, .unset, .unset] [(.int i20)])) := by
        intro Tj15 lcj15 Xj15 Nj15 ej15 i20 hi20
        refine own_thr (a := Tj15.setTop (mkF m 116 #[.val (.long q0), .second, .val (.long q1), .second, .val (.long q2), .second, .val (.long q3), .second, .val (.int p4), .val (.long (f_rmZ q0)), .second, .val (.long (q1 &&& (9223372036854775807 : Int64))), .second, .val (.long q13), .second, .val (.long q15), .second, .val (.ref b4), .val (.ref b8), .val (.ref r12), .val (.int i20), .unset, .unset, .unset, .unset, .unset] [(.ref b8), (.ref b4)])) (fun t kt => ?_) ?_
        · show Steps p.tables e below (Tj15.setTop (mkF m 110 #[.val (.long q0), .second, .val (.long q1), .second, .val (.long q2), .second, .val (.long q3), .second, .val (.int p4), .val (.long (f_rmZ q0)), .second, .val (.long (q1 &&& (9223372036854775807 : Int64))), .second, .val (.long q13), .second, .val (.long q15), .second, .val (.ref b4), .val (.ref b8), .val (.ref r12), .unset, .unset, .unset, .unset, .unset, .unset] [(.int i20)])) _
          refine XS.istore Xj15.here hx rfl (hb hby at_110) rfl (l' := #[.val (.long q0), .second, .val (.long q1), .second, .val (.long q2), .second, .val (.long q3), .second, .val (.int p4), .val (.long (f_rmZ q0)), .second, .val (.long (q1 &&& (9223372036854775807 : Int64))), .second, .val (.long q13), .second, .val (.long q15), .second, .val (.ref b4), .val (.ref b8), .val (.ref r12), .val (.int i20), .unset, .unset, .unset, .unset, .unset]) rfl ?_
          show Steps p.tables e below (Tj15.setTop (mkF m 112 #[.val (.long q0), .second, .val (.long q1), .second, .val (.long q2), .second, .val (.long q3), .second, .val (.int p4), .val (.long (f_rmZ q0)), .second, .val (.long (q1 &&& (9223372036854775807 : Int64))), .second, .val (.long q13), .second, .val (.long q15), .second, .val (.ref b4), .val (.ref b8), .val (.ref r12), .val (.int i20), .unset, .unset, .unset, .unset, .unset] [])) _
          refine XS.aload Xj15.here hx rfl (hb hby at_112) rfl rfl ?_
          show Steps p.tables e below (Tj15.setTop (mkF m 114 #[.val (.long q0), .second, .val (.long q1), .second, .val (.long q2), .second, .val (.long q3), .second, .val (.int p4), .val (.long (f_rmZ q0)), .second, .val (.long (q1 &&& (9223372036854775807 : Int64))), .second, .val (.long q13), .second, .val (.long q15), .second, .val (.ref b4), .val (.ref b8), .val (.ref r12), .val (.int i20), .unset, .unset, .unset, .unset, .unset] [(.ref b4)])) _
          refine XS.aload Xj15.here hx rfl (hb hby at_114) rfl rfl ?_
          exact kt
        have c17 := (((o6_1.ext E8).keep K10 (ninS ne_b4_b8 nin0)).keep K12 nin0)
        have c18 := (((o6_2.ext E8).keep K10 (ninS ne_b4_b8 nin0)).keep K12 nin0)
        obtain ⟨cq16, kq16, q16a, q16b, q16c⟩ := isOf hZ ej15 (((o6_0.ext E8).keep K10).keep K12)
        obtain ⟨_, _, ⟨T16, L16, k16, n16⟩, -, X16, ⟨Lc16, hQ16, l16, y16, z16⟩, st16⟩ := Xj15.virtualBack hx (y := (⟨"com/example/bouncer/bouncer/RequestId", "equals", "(Ljava/lang/Object;)Z"⟩ : MethodName)) (z := (⟨"com/example/bouncer/bouncer/RequestId", "equals", "(Ljava/lang/Object;)Z"⟩ : MethodName)) hown (mvT hZ (hw _ (List.mem_of_getElem? (i := 26) rfl))) (mvT hZ (hw _ (List.mem_of_getElem? (i := 27) rfl))) (notFace_of_selects (args := #[]) (mvT hZ (hw _ (List.mem_of_getElem? (i := 29) rfl)))) (mvT hZ (hw _ (List.mem_of_getElem? (i := 29) rfl))) (mvT hZ (hw _ (List.mem_of_getElem? (i := 28) rfl))) (by decide) (backOf (W := 0) (rmE1 l Z a0 hw [] b4 b8 (f_rmZ q0) (q1 &&& (9223372036854775807 : Int64)) q13 q15 T12.heap n0 Z14 (((o6_0.ext E8).keep K10).keep K12) c17 c18 (o10_0.keep K12) (o10_1.keep K12 nin0) (o10_2.keep K12 nin0)) hZ (hw _ (List.mem_of_getElem? (i := 30) rfl)) (hw _ (List.mem_of_getElem? (i := 7) rfl)) (by decide) (by decide)) q16a q16c (g := (mkF m 116 #[.val (.long q0), .second, .val (.long q1), .second, .val (.long q2), .second, .val (.long q3), .second, .val (.int p4), .val (.long (f_rmZ q0)), .second, .val (.long (q1 &&& (9223372036854775807 : Int64))), .second, .val (.long q13), .second, .val (.long q15), .second, .val (.ref b4), .val (.ref b8), .val (.ref r12), .val (.int i20), .unset, .unset, .unset, .unset, .unset] [(.ref b8), (.ref b4)])) rfl (by rw [hml]; rfl) (Steps.refl _) (argsL := [(.ref b8)]) (rest := []) (lenOf pd__28Ljava_2flang_2fObject_3b_29Z rfl) rfl (by show 2 * 0 + _ ≤ _; exact Nat.le_of_eq rfl) (hb hby at_116) (fun _ _ => ⟨rfl, ej15, (by decide : 3 + 0 ≤ _), (by decide : 5 + 0 ≤ _)⟩)
        dsimp only [Pt.U, Pt.locs, Pt.cells, Pt.slots] at X16 l16 y16 z16 st16 hQ16
        obtain ⟨rfl, N16q, e16⟩ := hQ16
        obtain ⟨lc16, X16, N16⟩ := own_pack X16 l16 y16 z16 Nj15 N16q (C := 3) (S' := 5) rfl rfl
        refine own_thr (a := T16.setTop (mkF m 119 #[.val (.long q0), .second, .val (.long q1), .second, .val (.long q2), .second, .val (.long q3), .second, .val (.int p4), .val (.long (f_rmZ q0)), .second, .val (.long (q1 &&& (9223372036854775807 : Int64))), .second, .val (.long q13), .second, .val (.long q15), .second, .val (.ref b4), .val (.ref b8), .val (.ref r12), .val (.int i20), .unset, .unset, .unset, .unset, .unset] [(.int (f_rmE1 b4 b8 (f_rmZ q0) (q1 &&& (9223372036854775807 : Int64)) q13 q15))])) (fun t kt => st16.trans kt) ?_
        refine own_thr (a := T16.setTop (mkF m 125 #[.val (.long q0), .second, .val (.long q1), .second, .val (.long q2), .second, .val (.long q3), .second, .val (.int p4), .val (.long (f_rmZ q0)), .second, .val (.long (q1 &&& (9223372036854775807 : Int64))), .second, .val (.long q13), .second, .val (.long q15), .second, .val (.ref b4), .val (.ref b8), .val (.ref r12), .val (.int i20), .val (.int (f_rmE1 b4 b8 (f_rmZ q0) (q1 &&& (9223372036854775807 : Int64)) q13 q15)), .unset, .unset, .unset, .unset] [(.ref b4), (.ref b8)])) (fun t kt => ?_) ?_
        · show Steps p.tables e below (T16.setTop (mkF m 119 #[.val (.long q0), .second, .val (.long q1), .second, .val (.long q2), .second, .val (.long q3), .second, .val (.int p4), .val (.long (f_rmZ q0)), .second, .val (.long (q1 &&& (9223372036854775807 : Int64))), .second, .val (.long q13), .second, .val (.long q15), .second, .val (.ref b4), .val (.ref b8), .val (.ref r12), .val (.int i20), .unset, .unset, .unset, .unset, .unset] [(.int (f_rmE1 b4 b8 (f_rmZ q0) (q1 &&& (9223372036854775807 : Int64)) q13 q15))])) _
          refine XS.istore X16.here hx rfl (hb hby at_119) rfl (l' := #[.val (.long q0), .second, .val (.long q1), .second, .val (.long q2), .second, .val (.long q3), .second, .val (.int p4), .val (.long (f_rmZ q0)), .second, .val (.long (q1 &&& (9223372036854775807 : Int64))), .second, .val (.long q13), .second, .val (.long q15), .second, .val (.ref b4), .val (.ref b8), .val (.ref r12), .val (.int i20), .val (.int (f_rmE1 b4 b8 (f_rmZ q0) (q1 &&& (9223372036854775807 : Int64)) q13 q15)), .unset, .unset, .unset, .unset]) rfl ?_
          show Steps p.tables e below (T16.setTop (mkF m 121 #[.val (.long q0), .second, .val (.long q1), .second, .val (.long q2), .second, .val (.long q3), .second, .val (.int p4), .val (.long (f_rmZ q0)), .second, .val (.long (q1 &&& (9223372036854775807 : Int64))), .second, .val (.long q13), .second, .val (.long q15), .second, .val (.ref b4), .val (.ref b8), .val (.ref r12), .val (.int i20), .val (.int (f_rmE1 b4 b8 (f_rmZ q0) (q1 &&& (9223372036854775807 : Int64)) q13 q15)), .unset, .unset, .unset, .unset] [])) _
          refine XS.aload X16.here hx rfl (hb hby at_121) rfl rfl ?_
          show Steps p.tables e below (T16.setTop (mkF m 123 #[.val (.long q0), .second, .val (.long q1), .second, .val (.long q2), .second, .val (.long q3), .second, .val (.int p4), .val (.long (f_rmZ q0)), .second, .val (.long (q1 &&& (9223372036854775807 : Int64))), .second, .val (.long q13), .second, .val (.long q15), .second, .val (.ref b4), .val (.ref b8), .val (.ref r12), .val (.int i20), .val (.int (f_rmE1 b4 b8 (f_rmZ q0) (q1 &&& (9223372036854775807 : Int64)) q13 q15)), .unset, .unset, .unset, .unset] [(.ref b8)])) _
          refine XS.aload X16.here hx rfl (hb hby at_123) rfl rfl ?_
          exact kt
        obtain ⟨cq19, kq19, q19a, q19b, q19c⟩ := isOf hZ e16 (o10_0.keep K12)
        obtain ⟨_, _, ⟨T19, L19, k19, n19⟩, -, X19, ⟨Lc19, hQ19, l19, y19, z19⟩, st19⟩ := X16.virtualBack hx (y := (⟨"com/example/bouncer/bouncer/RequestId", "equals", "(Ljava/lang/Object;)Z"⟩ : MethodName)) (z := (⟨"com/example/bouncer/bouncer/RequestId", "equals", "(Ljava/lang/Object;)Z"⟩ : MethodName)) hown (mvT hZ (hw _ (List.mem_of_getElem? (i := 26) rfl))) (mvT hZ (hw _ (List.mem_of_getElem? (i := 27) rfl))) (notFace_of_selects (args := #[]) (mvT hZ (hw _ (List.mem_of_getElem? (i := 29) rfl)))) (mvT hZ (hw _ (List.mem_of_getElem? (i := 29) rfl))) (mvT hZ (hw _ (List.mem_of_getElem? (i := 28) rfl))) (by decide) (backOf (W := 0) (rmE1 l Z a0 hw [] b8 b4 q13 q15 (f_rmZ q0) (q1 &&& (9223372036854775807 : Int64)) T12.heap n0 Z14 (o10_0.keep K12) (o10_1.keep K12 nin0) (o10_2.keep K12 nin0) (((o6_0.ext E8).keep K10).keep K12) c17 c18) hZ (hw _ (List.mem_of_getElem? (i := 30) rfl)) (hw _ (List.mem_of_getElem? (i := 7) rfl)) (by decide) (by decide)) q19a q19c (g := (mkF m 125 #[.val (.long q0), .second, .val (.long q1), .second, .val (.long q2), .second, .val (.long q3), .second, .val (.int p4), .val (.long (f_rmZ q0)), .second, .val (.long (q1 &&& (9223372036854775807 : Int64))), .second, .val (.long q13), .second, .val (.long q15), .second, .val (.ref b4), .val (.ref b8), .val (.ref r12), .val (.int i20), .val (.int (f_rmE1 b4 b8 (f_rmZ q0) (q1 &&& (9223372036854775807 : Int64)) q13 q15)), .unset, .unset, .unset, .unset] [(.ref b4), (.ref b8)])) rfl (by rw [hml]; rfl) (Steps.refl _) (argsL := [(.ref b4)]) (rest := []) (lenOf pd__28Ljava_2flang_2fObject_3b_29Z rfl) rfl (by show 2 * 0 + _ ≤ _; exact Nat.le_of_eq rfl) (hb hby at_125) (fun _ _ => ⟨rfl, e16, (by decide : 3 + 0 ≤ _), (by decide : 5 + 0 ≤ _)⟩)
        dsimp only [Pt.U, Pt.locs, Pt.cells, Pt.slots] at X19 l19 y19 z19 st19 hQ19
        obtain ⟨rfl, N19q, e19⟩ := hQ19
        obtain ⟨lc19, X19, N19⟩ := own_pack X19 l19 y19 z19 N16 N19q (C := 3) (S' := 5) rfl rfl
        refine own_thr (a := T19.setTop (mkF m 128 #[.val (.long q0), .second, .val (.long q1), .second, .val (.long q2), .second, .val (.long q3), .second, .val (.int p4), .val (.long (f_rmZ q0)), .second, .val (.long (q1 &&& (9223372036854775807 : Int64))), .second, .val (.long q13), .second, .val (.long q15), .second, .val (.ref b4), .val (.ref b8), .val (.ref r12), .val (.int i20), .val (.int (f_rmE1 b4 b8 (f_rmZ q0) (q1 &&& (9223372036854775807 : Int64)) q13 q15)), .unset, .unset, .unset, .unset] [(.int (f_rmE1 b8 b4 q13 q15 (f_rmZ q0) (q1 &&& (9223372036854775807 : Int64))))])) (fun t kt => st19.trans kt) ?_
        refine own_thr (a := T19.setTop (mkF m 134 #[.val (.long q0), .second, .val (.long q1), .second, .val (.long q2), .second, .val (.long q3), .second, .val (.int p4), .val (.long (f_rmZ q0)), .second, .val (.long (q1 &&& (9223372036854775807 : Int64))), .second, .val (.long q13), .second, .val (.long q15), .second, .val (.ref b4), .val (.ref b8), .val (.ref r12), .val (.int i20), .val (.int (f_rmE1 b4 b8 (f_rmZ q0) (q1 &&& (9223372036854775807 : Int64)) q13 q15)), .val (.int (f_rmE1 b8 b4 q13 q15 (f_rmZ q0) (q1 &&& (9223372036854775807 : Int64)))), .unset, .unset, .unset] [(.ref b4), (.ref b4)])) (fun t kt => ?_) ?_
        · show Steps p.tables e below (T19.setTop (mkF m 128 #[.val (.long q0), .second, .val (.long q1), .second, .val (.long q2), .second, .val (.long q3), .second, .val (.int p4), .val (.long (f_rmZ q0)), .second, .val (.long (q1 &&& (9223372036854775807 : Int64))), .second, .val (.long q13), .second, .val (.long q15), .second, .val (.ref b4), .val (.ref b8), .val (.ref r12), .val (.int i20), .val (.int (f_rmE1 b4 b8 (f_rmZ q0) (q1 &&& (9223372036854775807 : Int64)) q13 q15)), .unset, .unset, .unset, .unset] [(.int (f_rmE1 b8 b4 q13 q15 (f_rmZ q0) (q1 &&& (9223372036854775807 : Int64))))])) _
          refine XS.istore X19.here hx rfl (hb hby at_128) rfl (l' := #[.val (.long q0), .second, .val (.long q1), .second, .val (.long q2), .second, .val (.long q3), .second, .val (.int p4), .val (.long (f_rmZ q0)), .second, .val (.long (q1 &&& (9223372036854775807 : Int64))), .second, .val (.long q13), .second, .val (.long q15), .second, .val (.ref b4), .val (.ref b8), .val (.ref r12), .val (.int i20), .val (.int (f_rmE1 b4 b8 (f_rmZ q0) (q1 &&& (9223372036854775807 : Int64)) q13 q15)), .val (.int (f_rmE1 b8 b4 q13 q15 (f_rmZ q0) (q1 &&& (9223372036854775807 : Int64)))), .unset, .unset, .unset]) rfl ?_
          show Steps p.tables e below (T19.setTop (mkF m 130 #[.val (.long q0), .second, .val (.long q1), .second, .val (.long q2), .second, .val (.long q3), .second, .val (.int p4), .val (.long (f_rmZ q0)), .second, .val (.long (q1 &&& (9223372036854775807 : Int64))), .second, .val (.long q13), .second, .val (.long q15), .second, .val (.ref b4), .val (.ref b8), .val (.ref r12), .val (.int i20), .val (.int (f_rmE1 b4 b8 (f_rmZ q0) (q1 &&& (9223372036854775807 : Int64)) q13 q15)), .val (.int (f_rmE1 b8 b4 q13 q15 (f_rmZ q0) (q1 &&& (9223372036854775807 : Int64)))), .unset, .unset, .unset] [])) _
          refine XS.aload X19.here hx rfl (hb hby at_130) rfl rfl ?_
          show Steps p.tables e below (T19.setTop (mkF m 132 #[.val (.long q0), .second, .val (.long q1), .second, .val (.long q2), .second, .val (.long q3), .second, .val (.int p4), .val (.long (f_rmZ q0)), .second, .val (.long (q1 &&& (9223372036854775807 : Int64))), .second, .val (.long q13), .second, .val (.long q15), .second, .val (.ref b4), .val (.ref b8), .val (.ref r12), .val (.int i20), .val (.int (f_rmE1 b4 b8 (f_rmZ q0) (q1 &&& (9223372036854775807 : Int64)) q13 q15)), .val (.int (f_rmE1 b8 b4 q13 q15 (f_rmZ q0) (q1 &&& (9223372036854775807 : Int64)))), .unset, .unset, .unset] [(.ref b4)])) _
          refine XS.aload X19.here hx rfl (hb hby at_132) rfl rfl ?_
          exact kt
        obtain ⟨cq20, kq20, q20a, q20b, q20c⟩ := isOf hZ e19 (((o6_0.ext E8).keep K10).keep K12)
        obtain ⟨_, _, ⟨T20, L20, k20, n20⟩, -, X20, ⟨Lc20, hQ20, l20, y20, z20⟩, st20⟩ := X19.virtualBack hx (y := (⟨"com/example/bouncer/bouncer/RequestId", "equals", "(Ljava/lang/Object;)Z"⟩ : MethodName)) (z := (⟨"com/example/bouncer/bouncer/RequestId", "equals", "(Ljava/lang/Object;)Z"⟩ : MethodName)) hown (mvT hZ (hw _ (List.mem_of_getElem? (i := 26) rfl))) (mvT hZ (hw _ (List.mem_of_getElem? (i := 27) rfl))) (notFace_of_selects (args := #[]) (mvT hZ (hw _ (List.mem_of_getElem? (i := 29) rfl)))) (mvT hZ (hw _ (List.mem_of_getElem? (i := 29) rfl))) (mvT hZ (hw _ (List.mem_of_getElem? (i := 28) rfl))) (by decide) (backOf (W := 0) (rmE1 l Z a0 hw [] b4 b4 (f_rmZ q0) (q1 &&& (9223372036854775807 : Int64)) (f_rmZ q0) (q1 &&& (9223372036854775807 : Int64)) T12.heap n0 Z14 (((o6_0.ext E8).keep K10).keep K12) c17 c18 (((o6_0.ext E8).keep K10).keep K12) c17 c18) hZ (hw _ (List.mem_of_getElem? (i := 30) rfl)) (hw _ (List.mem_of_getElem? (i := 7) rfl)) (by decide) (by decide)) q20a q20c (g := (mkF m 134 #[.val (.long q0), .second, .val (.long q1), .second, .val (.long q2), .second, .val (.long q3), .second, .val (.int p4), .val (.long (f_rmZ q0)), .second, .val (.long (q1 &&& (9223372036854775807 : Int64))), .second, .val (.long q13), .second, .val (.long q15), .second, .val (.ref b4), .val (.ref b8), .val (.ref r12), .val (.int i20), .val (.int (f_rmE1 b4 b8 (f_rmZ q0) (q1 &&& (9223372036854775807 : Int64)) q13 q15)), .val (.int (f_rmE1 b8 b4 q13 q15 (f_rmZ q0) (q1 &&& (9223372036854775807 : Int64)))), .unset, .unset, .unset] [(.ref b4), (.ref b4)])) rfl (by rw [hml]; rfl) (Steps.refl _) (argsL := [(.ref b4)]) (rest := []) (lenOf pd__28Ljava_2flang_2fObject_3b_29Z rfl) rfl (by show 2 * 0 + _ ≤ _; exact Nat.le_of_eq rfl) (hb hby at_134) (fun _ _ => ⟨rfl, e19, (by decide : 3 + 0 ≤ _), (by decide : 5 + 0 ≤ _)⟩)
        dsimp only [Pt.U, Pt.locs, Pt.cells, Pt.slots] at X20 l20 y20 z20 st20 hQ20
        obtain ⟨rfl, N20q, e20⟩ := hQ20
        obtain ⟨lc20, X20, N20⟩ := own_pack X20 l20 y20 z20 N19 N20q (C := 3) (S' := 5) rfl rfl
        refine own_thr (a := T20.setTop (mkF m 137 #[.val (.long q0), .second, .val (.long q1), .second, .val (.long q2), .second, .val (.long q3), .second, .val (.int p4), .val (.long (f_rmZ q0)), .second, .val (.long (q1 &&& (9223372036854775807 : Int64))), .second, .val (.long q13), .second, .val (.long q15), .second, .val (.ref b4), .val (.ref b8), .val (.ref r12), .val (.int i20), .val (.int (f_rmE1 b4 b8 (f_rmZ q0) (q1 &&& (9223372036854775807 : Int64)) q13 q15)), .val (.int (f_rmE1 b8 b4 q13 q15 (f_rmZ q0) (q1 &&& (9223372036854775807 : Int64)))), .unset, .unset, .unset] [(.int (f_rmE1 b4 b4 (f_rmZ q0) (q1 &&& (9223372036854775807 : Int64)) (f_rmZ q0) (q1 &&& (9223372036854775807 : Int64))))])) (fun t kt => st20.trans kt) ?_
        refine own_thr (a := T20.setTop (mkF m 142 #[.val (.long q0), .second, .val (.long q1), .second, .val (.long q2), .second, .val (.long q3), .second, .val (.int p4), .val (.long (f_rmZ q0)), .second, .val (.long (q1 &&& (9223372036854775807 : Int64))), .second, .val (.long q13), .second, .val (.long q15), .second, .val (.ref b4), .val (.ref b8), .val (.ref r12), .val (.int i20), .val (.int (f_rmE1 b4 b8 (f_rmZ q0) (q1 &&& (9223372036854775807 : Int64)) q13 q15)), .val (.int (f_rmE1 b8 b4 q13 q15 (f_rmZ q0) (q1 &&& (9223372036854775807 : Int64)))), .val (.int (f_rmE1 b4 b4 (f_rmZ q0) (q1 &&& (9223372036854775807 : Int64)) (f_rmZ q0) (q1 &&& (9223372036854775807 : Int64)))), .unset, .unset] [.null, (.ref b4)])) (fun t kt => ?_) ?_
        · show Steps p.tables e below (T20.setTop (mkF m 137 #[.val (.long q0), .second, .val (.long q1), .second, .val (.long q2), .second, .val (.long q3), .second, .val (.int p4), .val (.long (f_rmZ q0)), .second, .val (.long (q1 &&& (9223372036854775807 : Int64))), .second, .val (.long q13), .second, .val (.long q15), .second, .val (.ref b4), .val (.ref b8), .val (.ref r12), .val (.int i20), .val (.int (f_rmE1 b4 b8 (f_rmZ q0) (q1 &&& (9223372036854775807 : Int64)) q13 q15)), .val (.int (f_rmE1 b8 b4 q13 q15 (f_rmZ q0) (q1 &&& (9223372036854775807 : Int64)))), .unset, .unset, .unset] [(.int (f_rmE1 b4 b4 (f_rmZ q0) (q1 &&& (9223372036854775807 : Int64)) (f_rmZ q0) (q1 &&& (9223372036854775807 : Int64))))])) _
          refine XS.istore X20.here hx rfl (hb hby at_137) rfl (l' := #[.val (.long q0), .second, .val (.long q1), .second, .val (.long q2), .second, .val (.long q3), .second, .val (.int p4), .val (.long (f_rmZ q0)), .second, .val (.long (q1 &&& (9223372036854775807 : Int64))), .second, .val (.long q13), .second, .val (.long q15), .second, .val (.ref b4), .val (.ref b8), .val (.ref r12), .val (.int i20), .val (.int (f_rmE1 b4 b8 (f_rmZ q0) (q1 &&& (9223372036854775807 : Int64)) q13 q15)), .val (.int (f_rmE1 b8 b4 q13 q15 (f_rmZ q0) (q1 &&& (9223372036854775807 : Int64)))), .val (.int (f_rmE1 b4 b4 (f_rmZ q0) (q1 &&& (9223372036854775807 : Int64)) (f_rmZ q0) (q1 &&& (9223372036854775807 : Int64)))), .unset, .unset]) rfl ?_
          show Steps p.tables e below (T20.setTop (mkF m 139 #[.val (.long q0), .second, .val (.long q1), .second, .val (.long q2), .second, .val (.long q3), .second, .val (.int p4), .val (.long (f_rmZ q0)), .second, .val (.long (q1 &&& (9223372036854775807 : Int64))), .second, .val (.long q13), .second, .val (.long q15), .second, .val (.ref b4), .val (.ref b8), .val (.ref r12), .val (.int i20), .val (.int (f_rmE1 b4 b8 (f_rmZ q0) (q1 &&& (9223372036854775807 : Int64)) q13 q15)), .val (.int (f_rmE1 b8 b4 q13 q15 (f_rmZ q0) (q1 &&& (9223372036854775807 : Int64)))), .val (.int (f_rmE1 b4 b4 (f_rmZ q0) (q1 &&& (9223372036854775807 : Int64)) (f_rmZ q0) (q1 &&& (9223372036854775807 : Int64)))), .unset, .unset] [])) _
          refine XS.aload X20.here hx rfl (hb hby at_139) rfl rfl ?_
          show Steps p.tables e below (T20.setTop (mkF m 141 #[.val (.long q0), .second, .val (.long q1), .second, .val (.long q2), .second, .val (.long q3), .second, .val (.int p4), .val (.long (f_rmZ q0)), .second, .val (.long (q1 &&& (9223372036854775807 : Int64))), .second, .val (.long q13), .second, .val (.long q15), .second, .val (.ref b4), .val (.ref b8), .val (.ref r12), .val (.int i20), .val (.int (f_rmE1 b4 b8 (f_rmZ q0) (q1 &&& (9223372036854775807 : Int64)) q13 q15)), .val (.int (f_rmE1 b8 b4 q13 q15 (f_rmZ q0) (q1 &&& (9223372036854775807 : Int64)))), .val (.int (f_rmE1 b4 b4 (f_rmZ q0) (q1 &&& (9223372036854775807 : Int64)) (f_rmZ q0) (q1 &&& (9223372036854775807 : Int64)))), .unset, .unset] [(.ref b4)])) _
          refine XS.aconstNull X20.here hx rfl (hb hby at_141) ?_
          exact kt
        obtain ⟨cq21, kq21, q21a, q21b, q21c⟩ := isOf hZ e20 (((o6_0.ext E8).keep K10).keep K12)
        obtain ⟨_, _, ⟨T21, L21, k21, n21⟩, -, X21, ⟨Lc21, hQ21, l21, y21, z21⟩, st21⟩ := X20.virtualBack hx (y := (⟨"com/example/bouncer/bouncer/RequestId", "equals", "(Ljava/lang/Object;)Z"⟩ : MethodName)) (z := (⟨"com/example/bouncer/bouncer/RequestId", "equals", "(Ljava/lang/Object;)Z"⟩ : MethodName)) hown (mvT hZ (hw _ (List.mem_of_getElem? (i := 26) rfl))) (mvT hZ (hw _ (List.mem_of_getElem? (i := 27) rfl))) (notFace_of_selects (args := #[]) (mvT hZ (hw _ (List.mem_of_getElem? (i := 29) rfl)))) (mvT hZ (hw _ (List.mem_of_getElem? (i := 29) rfl))) (mvT hZ (hw _ (List.mem_of_getElem? (i := 28) rfl))) (by decide) (backOf (W := 0) (rmE0 l Z a0 hw [] b4 T12.heap n0 Z14) hZ (hw _ (List.mem_of_getElem? (i := 30) rfl)) (hw _ (List.mem_of_getElem? (i := 7) rfl)) (by decide) (by decide)) q21a q21c (g := (mkF m 142 #[.val (.long q0), .second, .val (.long q1), .second, .val (.long q2), .second, .val (.long q3), .second, .val (.int p4), .val (.long (f_rmZ q0)), .second, .val (.long (q1 &&& (9223372036854775807 : Int64))), .second, .val (.long q13), .second, .val (.long q15), .second, .val (.ref b4), .val (.ref b8), .val (.ref r12), .val (.int i20), .val (.int (f_rmE1 b4 b8 (f_rmZ q0) (q1 &&& (9223372036854775807 : Int64)) q13 q15)), .val (.int (f_rmE1 b8 b4 q13 q15 (f_rmZ q0) (q1 &&& (9223372036854775807 : Int64)))), .val (.int (f_rmE1 b4 b4 (f_rmZ q0) (q1 &&& (9223372036854775807 : Int64)) (f_rmZ q0) (q1 &&& (9223372036854775807 : Int64)))), .unset, .unset] [.null, (.ref b4)])) rfl (by rw [hml]; rfl) (Steps.refl _) (argsL := [.null]) (rest := []) (lenOf pd__28Ljava_2flang_2fObject_3b_29Z rfl) rfl (by show 2 * 0 + _ ≤ _; exact Nat.le_of_eq rfl) (hb hby at_142) (fun _ _ => ⟨rfl, e20, (by decide : 3 + 0 ≤ _), (by decide : 5 + 0 ≤ _)⟩)
        dsimp only [Pt.U, Pt.locs, Pt.cells, Pt.slots] at X21 l21 y21 z21 st21 hQ21
        obtain ⟨rfl, N21q, e21⟩ := hQ21
        obtain ⟨lc21, X21, N21⟩ := own_pack X21 l21 y21 z21 N20 N21q (C := 3) (S' := 5) rfl rfl
        refine own_thr (a := T21.setTop (mkF m 145 #[.val (.long q0), .second, .val (.long q1), .second, .val (.long q2), .second, .val (.long q3), .second, .val (.int p4), .val (.long (f_rmZ q0)), .second, .val (.long (q1 &&& (9223372036854775807 : Int64))), .second, .val (.long q13), .second, .val (.long q15), .second, .val (.ref b4), .val (.ref b8), .val (.ref r12), .val (.int i20), .val (.int (f_rmE1 b4 b8 (f_rmZ q0) (q1 &&& (9223372036854775807 : Int64)) q13 q15)), .val (.int (f_rmE1 b8 b4 q13 q15 (f_rmZ q0) (q1 &&& (9223372036854775807 : Int64)))), .val (.int (f_rmE1 b4 b4 (f_rmZ q0) (q1 &&& (9223372036854775807 : Int64)) (f_rmZ q0) (q1 &&& (9223372036854775807 : Int64)))), .unset, .unset] [(.int (0 : Int32))])) (fun t kt => st21.trans kt) ?_
        refine own_thr (a := T21.setTop (mkF m 151 #[.val (.long q0), .second, .val (.long q1), .second, .val (.long q2), .second, .val (.long q3), .second, .val (.int p4), .val (.long (f_rmZ q0)), .second, .val (.long (q1 &&& (9223372036854775807 : Int64))), .second, .val (.long q13), .second, .val (.long q15), .second, .val (.ref b4), .val (.ref b8), .val (.ref r12), .val (.int i20), .val (.int (f_rmE1 b4 b8 (f_rmZ q0) (q1 &&& (9223372036854775807 : Int64)) q13 q15)), .val (.int (f_rmE1 b8 b4 q13 q15 (f_rmZ q0) (q1 &&& (9223372036854775807 : Int64)))), .val (.int (f_rmE1 b4 b4 (f_rmZ q0) (q1 &&& (9223372036854775807 : Int64)) (f_rmZ q0) (q1 &&& (9223372036854775807 : Int64)))), .val (.int (0 : Int32)), .unset] [(.ref r12), (.ref b4)])) (fun t kt => ?_) ?_
        · show Steps p.tables e below (T21.setTop (mkF m 145 #[.val (.long q0), .second, .val (.long q1), .second, .val (.long q2), .second, .val (.long q3), .second, .val (.int p4), .val (.long (f_rmZ q0)), .second, .val (.long (q1 &&& (9223372036854775807 : Int64))), .second, .val (.long q13), .second, .val (.long q15), .second, .val (.ref b4), .val (.ref b8), .val (.ref r12), .val (.int i20), .val (.int (f_rmE1 b4 b8 (f_rmZ q0) (q1 &&& (9223372036854775807 : Int64)) q13 q15)), .val (.int (f_rmE1 b8 b4 q13 q15 (f_rmZ q0) (q1 &&& (9223372036854775807 : Int64)))), .val (.int (f_rmE1 b4 b4 (f_rmZ q0) (q1 &&& (9223372036854775807 : Int64)) (f_rmZ q0) (q1 &&& (9223372036854775807 : Int64)))), .unset, .unset] [(.int (0 : Int32))])) _
          refine XS.istore X21.here hx rfl (hb hby at_145) rfl (l' := #[.val (.long q0), .second, .val (.long q1), .second, .val (.long q2), .second, .val (.long q3), .second, .val (.int p4), .val (.long (f_rmZ q0)), .second, .val (.long (q1 &&& (9223372036854775807 : Int64))), .second, .val (.long q13), .second, .val (.long q15), .second, .val (.ref b4), .val (.ref b8), .val (.ref r12), .val (.int i20), .val (.int (f_rmE1 b4 b8 (f_rmZ q0) (q1 &&& (9223372036854775807 : Int64)) q13 q15)), .val (.int (f_rmE1 b8 b4 q13 q15 (f_rmZ q0) (q1 &&& (9223372036854775807 : Int64)))), .val (.int (f_rmE1 b4 b4 (f_rmZ q0) (q1 &&& (9223372036854775807 : Int64)) (f_rmZ q0) (q1 &&& (9223372036854775807 : Int64)))), .val (.int (0 : Int32)), .unset]) rfl ?_
          show Steps p.tables e below (T21.setTop (mkF m 147 #[.val (.long q0), .second, .val (.long q1), .second, .val (.long q2), .second, .val (.long q3), .second, .val (.int p4), .val (.long (f_rmZ q0)), .second, .val (.long (q1 &&& (9223372036854775807 : Int64))), .second, .val (.long q13), .second, .val (.long q15), .second, .val (.ref b4), .val (.ref b8), .val (.ref r12), .val (.int i20), .val (.int (f_rmE1 b4 b8 (f_rmZ q0) (q1 &&& (9223372036854775807 : Int64)) q13 q15)), .val (.int (f_rmE1 b8 b4 q13 q15 (f_rmZ q0) (q1 &&& (9223372036854775807 : Int64)))), .val (.int (f_rmE1 b4 b4 (f_rmZ q0) (q1 &&& (9223372036854775807 : Int64)) (f_rmZ q0) (q1 &&& (9223372036854775807 : Int64)))), .val (.int (0 : Int32)), .unset] [])) _
          refine XS.aload X21.here hx rfl (hb hby at_147) rfl rfl ?_
          show Steps p.tables e below (T21.setTop (mkF m 149 #[.val (.long q0), .second, .val (.long q1), .second, .val (.long q2), .second, .val (.long q3), .second, .val (.int p4), .val (.long (f_rmZ q0)), .second, .val (.long (q1 &&& (9223372036854775807 : Int64))), .second, .val (.long q13), .second, .val (.long q15), .second, .val (.ref b4), .val (.ref b8), .val (.ref r12), .val (.int i20), .val (.int (f_rmE1 b4 b8 (f_rmZ q0) (q1 &&& (9223372036854775807 : Int64)) q13 q15)), .val (.int (f_rmE1 b8 b4 q13 q15 (f_rmZ q0) (q1 &&& (9223372036854775807 : Int64)))), .val (.int (f_rmE1 b4 b4 (f_rmZ q0) (q1 &&& (9223372036854775807 : Int64)) (f_rmZ q0) (q1 &&& (9223372036854775807 : Int64)))), .val (.int (0 : Int32)), .unset] [(.ref b4)])) _
          refine XS.aload X21.here hx rfl (hb hby at_149) rfl rfl ?_
          exact kt
        obtain ⟨cq22, kq22, q22a, q22b, q22c⟩ := isOf hZ e21 (((o6_0.ext E8).keep K10).keep K12)
        obtain ⟨_, _, ⟨T22, L22, k22, n22⟩, -, X22, ⟨Lc22, hQ22, l22, y22, z22⟩, st22⟩ := X21.virtualBack hx (y := (⟨"com/example/bouncer/bouncer/RequestId", "equals", "(Ljava/lang/Object;)Z"⟩ : MethodName)) (z := (⟨"com/example/bouncer/bouncer/RequestId", "equals", "(Ljava/lang/Object;)Z"⟩ : MethodName)) hown (mvT hZ (hw _ (List.mem_of_getElem? (i := 26) rfl))) (mvT hZ (hw _ (List.mem_of_getElem? (i := 27) rfl))) (notFace_of_selects (args := #[]) (mvT hZ (hw _ (List.mem_of_getElem? (i := 29) rfl)))) (mvT hZ (hw _ (List.mem_of_getElem? (i := 29) rfl))) (mvT hZ (hw _ (List.mem_of_getElem? (i := 28) rfl))) (by decide) (backOf (W := 0) (rmE2 l Z a0 hw [] b4 r12 T12.heap n0 Z14 o12) hZ (hw _ (List.mem_of_getElem? (i := 30) rfl)) (hw _ (List.mem_of_getElem? (i := 7) rfl)) (by decide) (by decide)) q22a q22c (g := (mkF m 151 #[.val (.long q0), .second, .val (.long q1), .second, .val (.long q2), .second, .val (.long q3), .second, .val (.int p4), .val (.long (f_rmZ q0)), .second, .val (.long (q1 &&& (9223372036854775807 : Int64))), .second, .val (.long q13), .second, .val (.long q15), .second, .val (.ref b4), .val (.ref b8), .val (.ref r12), .val (.int i20), .val (.int (f_rmE1 b4 b8 (f_rmZ q0) (q1 &&& (9223372036854775807 : Int64)) q13 q15)), .val (.int (f_rmE1 b8 b4 q13 q15 (f_rmZ q0) (q1 &&& (9223372036854775807 : Int64)))), .val (.int (f_rmE1 b4 b4 (f_rmZ q0) (q1 &&& (9223372036854775807 : Int64)) (f_rmZ q0) (q1 &&& (9223372036854775807 : Int64)))), .val (.int (0 : Int32)), .unset] [(.ref r12), (.ref b4)])) rfl (by rw [hml]; rfl) (Steps.refl _) (argsL := [(.ref r12)]) (rest := []) (lenOf pd__28Ljava_2flang_2fObject_3b_29Z rfl) rfl (by show 2 * 0 + _ ≤ _; exact Nat.le_of_eq rfl) (hb hby at_151) (fun _ _ => ⟨rfl, e21, (by decide : 3 + 0 ≤ _), (by decide : 5 + 0 ≤ _)⟩)
        dsimp only [Pt.U, Pt.locs, Pt.cells, Pt.slots] at X22 l22 y22 z22 st22 hQ22
        obtain ⟨rfl, N22q, e22⟩ := hQ22
        obtain ⟨lc22, X22, N22⟩ := own_pack X22 l22 y22 z22 N21 N22q (C := 3) (S' := 5) rfl rfl
        refine own_thr (a := T22.setTop (mkF m 154 #[.val (.long q0), .second, .val (.long q1), .second, .val (.long q2), .second, .val (.long q3), .second, .val (.int p4), .val (.long (f_rmZ q0)), .second, .val (.long (q1 &&& (9223372036854775807 : Int64))), .second, .val (.long q13), .second, .val (.long q15), .second, .val (.ref b4), .val (.ref b8), .val (.ref r12), .val (.int i20), .val (.int (f_rmE1 b4 b8 (f_rmZ q0) (q1 &&& (9223372036854775807 : Int64)) q13 q15)), .val (.int (f_rmE1 b8 b4 q13 q15 (f_rmZ q0) (q1 &&& (9223372036854775807 : Int64)))), .val (.int (f_rmE1 b4 b4 (f_rmZ q0) (q1 &&& (9223372036854775807 : Int64)) (f_rmZ q0) (q1 &&& (9223372036854775807 : Int64)))), .val (.int (0 : Int32)), .unset] [(.int (0 : Int32))])) (fun t kt => st22.trans kt) ?_
        refine own_thr (a := T22.setTop (mkF m 190 #[.val (.long q0), .second, .val (.long q1), .second, .val (.long q2), .second, .val (.long q3), .second, .val (.int p4), .val (.long (f_rmZ q0)), .second, .val (.long (q1 &&& (9223372036854775807 : Int64))), .second, .val (.long q13), .second, .val (.long q15), .second, .val (.ref b4), .val (.ref b8), .val (.ref r12), .val (.int i20), .val (.int (f_rmE1 b4 b8 (f_rmZ q0) (q1 &&& (9223372036854775807 : Int64)) q13 q15)), .val (.int (f_rmE1 b8 b4 q13 q15 (f_rmZ q0) (q1 &&& (9223372036854775807 : Int64)))), .val (.int (f_rmE1 b4 b4 (f_rmZ q0) (q1 &&& (9223372036854775807 : Int64)) (f_rmZ q0) (q1 &&& (9223372036854775807 : Int64)))), .val (.int (0 : Int32)), .val (.int (0 : Int32))] [(.int (1 : Int32))])) (fun t kt => ?_) ?_
        · show Steps p.tables e below (T22.setTop (mkF m 154 #[.val (.long q0), .second, .val (.long q1), .second, .val (.long q2), .second, .val (.long q3), .second, .val (.int p4), .val (.long (f_rmZ q0)), .second, .val (.long (q1 &&& (9223372036854775807 : Int64))), .second, .val (.long q13), .second, .val (.long q15), .second, .val (.ref b4), .val (.ref b8), .val (.ref r12), .val (.int i20), .val (.int (f_rmE1 b4 b8 (f_rmZ q0) (q1 &&& (9223372036854775807 : Int64)) q13 q15)), .val (.int (f_rmE1 b8 b4 q13 q15 (f_rmZ q0) (q1 &&& (9223372036854775807 : Int64)))), .val (.int (f_rmE1 b4 b4 (f_rmZ q0) (q1 &&& (9223372036854775807 : Int64)) (f_rmZ q0) (q1 &&& (9223372036854775807 : Int64)))), .val (.int (0 : Int32)), .unset] [(.int (0 : Int32))])) _
          refine XS.istore X22.here hx rfl (hb hby at_154) rfl (l' := #[.val (.long q0), .second, .val (.long q1), .second, .val (.long q2), .second, .val (.long q3), .second, .val (.int p4), .val (.long (f_rmZ q0)), .second, .val (.long (q1 &&& (9223372036854775807 : Int64))), .second, .val (.long q13), .second, .val (.long q15), .second, .val (.ref b4), .val (.ref b8), .val (.ref r12), .val (.int i20), .val (.int (f_rmE1 b4 b8 (f_rmZ q0) (q1 &&& (9223372036854775807 : Int64)) q13 q15)), .val (.int (f_rmE1 b8 b4 q13 q15 (f_rmZ q0) (q1 &&& (9223372036854775807 : Int64)))), .val (.int (f_rmE1 b4 b4 (f_rmZ q0) (q1 &&& (9223372036854775807 : Int64)) (f_rmZ q0) (q1 &&& (9223372036854775807 : Int64)))), .val (.int (0 : Int32)), .val (.int (0 : Int32))]) rfl ?_
          show Steps p.tables e below (T22.setTop (mkF m 156 #[.val (.long q0), .second, .val (.long q1), .second, .val (.long q2), .second, .val (.long q3), .second, .val (.int p4), .val (.long (f_rmZ q0)), .second, .val (.long (q1 &&& (9223372036854775807 : Int64))), .second, .val (.long q13), .second, .val (.long q15), .second, .val (.ref b4), .val (.ref b8), .val (.ref r12), .val (.int i20), .val (.int (f_rmE1 b4 b8 (f_rmZ q0) (q1 &&& (9223372036854775807 : Int64)) q13 q15)), .val (.int (f_rmE1 b8 b4 q13 q15 (f_rmZ q0) (q1 &&& (9223372036854775807 : Int64)))), .val (.int (f_rmE1 b4 b4 (f_rmZ q0) (q1 &&& (9223372036854775807 : Int64)) (f_rmZ q0) (q1 &&& (9223372036854775807 : Int64)))), .val (.int (0 : Int32)), .val (.int (0 : Int32))] [])) _
          refine XS.iload X22.here hx rfl (hb hby at_156) rfl ?_
          show Steps p.tables e below (T22.setTop (mkF m 158 #[.val (.long q0), .second, .val (.long q1), .second, .val (.long q2), .second, .val (.long q3), .second, .val (.int p4), .val (.long (f_rmZ q0)), .second, .val (.long (q1 &&& (9223372036854775807 : Int64))), .second, .val (.long q13), .second, .val (.long q15), .second, .val (.ref b4), .val (.ref b8), .val (.ref r12), .val (.int i20), .val (.int (f_rmE1 b4 b8 (f_rmZ q0) (q1 &&& (9223372036854775807 : Int64)) q13 q15)), .val (.int (f_rmE1 b8 b4 q13 q15 (f_rmZ q0) (q1 &&& (9223372036854775807 : Int64)))), .val (.int (f_rmE1 b4 b4 (f_rmZ q0) (q1 &&& (9223372036854775807 : Int64)) (f_rmZ q0) (q1 &&& (9223372036854775807 : Int64)))), .val (.int (0 : Int32)), .val (.int (0 : Int32))] [(.int (f_rmE1 b4 b8 (f_rmZ q0) (q1 &&& (9223372036854775807 : Int64)) q13 q15))])) _
          refine XS.iload X22.here hx rfl (hb hby at_158) rfl ?_
          show Steps p.tables e below (T22.setTop (mkF m 160 #[.val (.long q0), .second, .val (.long q1), .second, .val (.long q2), .second, .val (.long q3), .second, .val (.int p4), .val (.long (f_rmZ q0)), .second, .val (.long (q1 &&& (9223372036854775807 : Int64))), .second, .val (.long q13), .second, .val (.long q15), .second, .val (.ref b4), .val (.ref b8), .val (.ref r12), .val (.int i20), .val (.int (f_rmE1 b4 b8 (f_rmZ q0) (q1 &&& (9223372036854775807 : Int64)) q13 q15)), .val (.int (f_rmE1 b8 b4 q13 q15 (f_rmZ q0) (q1 &&& (9223372036854775807 : Int64)))), .val (.int (f_rmE1 b4 b4 (f_rmZ q0) (q1 &&& (9223372036854775807 : Int64)) (f_rmZ q0) (q1 &&& (9223372036854775807 : Int64)))), .val (.int (0 : Int32)), .val (.int (0 : Int32))] [(.int i20), (.int (f_rmE1 b4 b8 (f_rmZ q0) (q1 &&& (9223372036854775807 : Int64)) q13 q15))])) _
          refine XS.icmpNo X22.here hx rfl (hb hby at_160) rfl (teq (hi20.symm ▸ own_xy _ _ _ _ _ _)).2 ?_
          show Steps p.tables e below (T22.setTop (mkF m 163 #[.val (.long q0), .second, .val (.long q1), .second, .val (.long q2), .second, .val (.long q3), .second, .val (.int p4), .val (.long (f_rmZ q0)), .second, .val (.long (q1 &&& (9223372036854775807 : Int64))), .second, .val (.long q13), .second, .val (.long q15), .second, .val (.ref b4), .val (.ref b8), .val (.ref r12), .val (.int i20), .val (.int (f_rmE1 b4 b8 (f_rmZ q0) (q1 &&& (9223372036854775807 : Int64)) q13 q15)), .val (.int (f_rmE1 b8 b4 q13 q15 (f_rmZ q0) (q1 &&& (9223372036854775807 : Int64)))), .val (.int (f_rmE1 b4 b4 (f_rmZ q0) (q1 &&& (9223372036854775807 : Int64)) (f_rmZ q0) (q1 &&& (9223372036854775807 : Int64)))), .val (.int (0 : Int32)), .val (.int (0 : Int32))] [])) _
          refine XS.iload X22.here hx rfl (hb hby at_163) rfl ?_
          show Steps p.tables e below (T22.setTop (mkF m 165 #[.val (.long q0), .second, .val (.long q1), .second, .val (.long q2), .second, .val (.long q3), .second, .val (.int p4), .val (.long (f_rmZ q0)), .second, .val (.long (q1 &&& (9223372036854775807 : Int64))), .second, .val (.long q13), .second, .val (.long q15), .second, .val (.ref b4), .val (.ref b8), .val (.ref r12), .val (.int i20), .val (.int (f_rmE1 b4 b8 (f_rmZ q0) (q1 &&& (9223372036854775807 : Int64)) q13 q15)), .val (.int (f_rmE1 b8 b4 q13 q15 (f_rmZ q0) (q1 &&& (9223372036854775807 : Int64)))), .val (.int (f_rmE1 b4 b4 (f_rmZ q0) (q1 &&& (9223372036854775807 : Int64)) (f_rmZ q0) (q1 &&& (9223372036854775807 : Int64)))), .val (.int (0 : Int32)), .val (.int (0 : Int32))] [(.int (f_rmE1 b8 b4 q13 q15 (f_rmZ q0) (q1 &&& (9223372036854775807 : Int64))))])) _
          refine XS.iload X22.here hx rfl (hb hby at_165) rfl ?_
          show Steps p.tables e below (T22.setTop (mkF m 167 #[.val (.long q0), .second, .val (.long q1), .second, .val (.long q2), .second, .val (.long q3), .second, .val (.int p4), .val (.long (f_rmZ q0)), .second, .val (.long (q1 &&& (9223372036854775807 : Int64))), .second, .val (.long q13), .second, .val (.long q15), .second, .val (.ref b4), .val (.ref b8), .val (.ref r12), .val (.int i20), .val (.int (f_rmE1 b4 b8 (f_rmZ q0) (q1 &&& (9223372036854775807 : Int64)) q13 q15)), .val (.int (f_rmE1 b8 b4 q13 q15 (f_rmZ q0) (q1 &&& (9223372036854775807 : Int64)))), .val (.int (f_rmE1 b4 b4 (f_rmZ q0) (q1 &&& (9223372036854775807 : Int64)) (f_rmZ q0) (q1 &&& (9223372036854775807 : Int64)))), .val (.int (0 : Int32)), .val (.int (0 : Int32))] [(.int i20), (.int (f_rmE1 b8 b4 q13 q15 (f_rmZ q0) (q1 &&& (9223372036854775807 : Int64))))])) _
          refine XS.icmpNo X22.here hx rfl (hb hby at_167) rfl (teq (hi20.symm ▸ own_yx _ _ _ _ _ _)).2 ?_
          show Steps p.tables e below (T22.setTop (mkF m 170 #[.val (.long q0), .second, .val (.long q1), .second, .val (.long q2), .second, .val (.long q3), .second, .val (.int p4), .val (.long (f_rmZ q0)), .second, .val (.long (q1 &&& (9223372036854775807 : Int64))), .second, .val (.long q13), .second, .val (.long q15), .second, .val (.ref b4), .val (.ref b8), .val (.ref r12), .val (.int i20), .val (.int (f_rmE1 b4 b8 (f_rmZ q0) (q1 &&& (9223372036854775807 : Int64)) q13 q15)), .val (.int (f_rmE1 b8 b4 q13 q15 (f_rmZ q0) (q1 &&& (9223372036854775807 : Int64)))), .val (.int (f_rmE1 b4 b4 (f_rmZ q0) (q1 &&& (9223372036854775807 : Int64)) (f_rmZ q0) (q1 &&& (9223372036854775807 : Int64)))), .val (.int (0 : Int32)), .val (.int (0 : Int32))] [])) _
          refine XS.iload X22.here hx rfl (hb hby at_170) rfl ?_
          show Steps p.tables e below (T22.setTop (mkF m 172 #[.val (.long q0), .second, .val (.long q1), .second, .val (.long q2), .second, .val (.long q3), .second, .val (.int p4), .val (.long (f_rmZ q0)), .second, .val (.long (q1 &&& (9223372036854775807 : Int64))), .second, .val (.long q13), .second, .val (.long q15), .second, .val (.ref b4), .val (.ref b8), .val (.ref r12), .val (.int i20), .val (.int (f_rmE1 b4 b8 (f_rmZ q0) (q1 &&& (9223372036854775807 : Int64)) q13 q15)), .val (.int (f_rmE1 b8 b4 q13 q15 (f_rmZ q0) (q1 &&& (9223372036854775807 : Int64)))), .val (.int (f_rmE1 b4 b4 (f_rmZ q0) (q1 &&& (9223372036854775807 : Int64)) (f_rmZ q0) (q1 &&& (9223372036854775807 : Int64)))), .val (.int (0 : Int32)), .val (.int (0 : Int32))] [(.int (f_rmE1 b4 b4 (f_rmZ q0) (q1 &&& (9223372036854775807 : Int64)) (f_rmZ q0) (q1 &&& (9223372036854775807 : Int64))))])) _
          refine XS.ifNo X22.here hx rfl (hb hby at_172) rfl ((if0 _ _).trans (feq (by rw [own_xx]; decide)).1) ?_
          show Steps p.tables e below (T22.setTop (mkF m 175 #[.val (.long q0), .second, .val (.long q1), .second, .val (.long q2), .second, .val (.long q3), .second, .val (.int p4), .val (.long (f_rmZ q0)), .second, .val (.long (q1 &&& (9223372036854775807 : Int64))), .second, .val (.long q13), .second, .val (.long q15), .second, .val (.ref b4), .val (.ref b8), .val (.ref r12), .val (.int i20), .val (.int (f_rmE1 b4 b8 (f_rmZ q0) (q1 &&& (9223372036854775807 : Int64)) q13 q15)), .val (.int (f_rmE1 b8 b4 q13 q15 (f_rmZ q0) (q1 &&& (9223372036854775807 : Int64)))), .val (.int (f_rmE1 b4 b4 (f_rmZ q0) (q1 &&& (9223372036854775807 : Int64)) (f_rmZ q0) (q1 &&& (9223372036854775807 : Int64)))), .val (.int (0 : Int32)), .val (.int (0 : Int32))] [])) _
          refine XS.iload X22.here hx rfl (hb hby at_175) rfl ?_
          show Steps p.tables e below (T22.setTop (mkF m 177 #[.val (.long q0), .second, .val (.long q1), .second, .val (.long q2), .second, .val (.long q3), .second, .val (.int p4), .val (.long (f_rmZ q0)), .second, .val (.long (q1 &&& (9223372036854775807 : Int64))), .second, .val (.long q13), .second, .val (.long q15), .second, .val (.ref b4), .val (.ref b8), .val (.ref r12), .val (.int i20), .val (.int (f_rmE1 b4 b8 (f_rmZ q0) (q1 &&& (9223372036854775807 : Int64)) q13 q15)), .val (.int (f_rmE1 b8 b4 q13 q15 (f_rmZ q0) (q1 &&& (9223372036854775807 : Int64)))), .val (.int (f_rmE1 b4 b4 (f_rmZ q0) (q1 &&& (9223372036854775807 : Int64)) (f_rmZ q0) (q1 &&& (9223372036854775807 : Int64)))), .val (.int (0 : Int32)), .val (.int (0 : Int32))] [(.int (0 : Int32))])) _
          refine XS.ifNo X22.here hx rfl (hb hby at_177) rfl ((if0 _ _).trans (teq rfl).2) ?_
          show Steps p.tables e below (T22.setTop (mkF m 180 #[.val (.long q0), .second, .val (.long q1), .second, .val (.long q2), .second, .val (.long q3), .second, .val (.int p4), .val (.long (f_rmZ q0)), .second, .val (.long (q1 &&& (9223372036854775807 : Int64))), .second, .val (.long q13), .second, .val (.long q15), .second, .val (.ref b4), .val (.ref b8), .val (.ref r12), .val (.int i20), .val (.int (f_rmE1 b4 b8 (f_rmZ q0) (q1 &&& (9223372036854775807 : Int64)) q13 q15)), .val (.int (f_rmE1 b8 b4 q13 q15 (f_rmZ q0) (q1 &&& (9223372036854775807 : Int64)))), .val (.int (f_rmE1 b4 b4 (f_rmZ q0) (q1 &&& (9223372036854775807 : Int64)) (f_rmZ q0) (q1 &&& (9223372036854775807 : Int64)))), .val (.int (0 : Int32)), .val (.int (0 : Int32))] [])) _
          refine XS.iload X22.here hx rfl (hb hby at_180) rfl ?_
          show Steps p.tables e below (T22.setTop (mkF m 182 #[.val (.long q0), .second, .val (.long q1), .second, .val (.long q2), .second, .val (.long q3), .second, .val (.int p4), .val (.long (f_rmZ q0)), .second, .val (.long (q1 &&& (9223372036854775807 : Int64))), .second, .val (.long q13), .second, .val (.long q15), .second, .val (.ref b4), .val (.ref b8), .val (.ref r12), .val (.int i20), .val (.int (f_rmE1 b4 b8 (f_rmZ q0) (q1 &&& (9223372036854775807 : Int64)) q13 q15)), .val (.int (f_rmE1 b8 b4 q13 q15 (f_rmZ q0) (q1 &&& (9223372036854775807 : Int64)))), .val (.int (f_rmE1 b4 b4 (f_rmZ q0) (q1 &&& (9223372036854775807 : Int64)) (f_rmZ q0) (q1 &&& (9223372036854775807 : Int64)))), .val (.int (0 : Int32)), .val (.int (0 : Int32))] [(.int (0 : Int32))])) _
          refine XS.ifNo X22.here hx rfl (hb hby at_182) rfl ((if0 _ _).trans (teq rfl).2) ?_
          show Steps p.tables e below (T22.setTop (mkF m 185 #[.val (.long q0), .second, .val (.long q1), .second, .val (.long q2), .second, .val (.long q3), .second, .val (.int p4), .val (.long (f_rmZ q0)), .second, .val (.long (q1 &&& (9223372036854775807 : Int64))), .second, .val (.long q13), .second, .val (.long q15), .second, .val (.ref b4), .val (.ref b8), .val (.ref r12), .val (.int i20), .val (.int (f_rmE1 b4 b8 (f_rmZ q0) (q1 &&& (9223372036854775807 : Int64)) q13 q15)), .val (.int (f_rmE1 b8 b4 q13 q15 (f_rmZ q0) (q1 &&& (9223372036854775807 : Int64)))), .val (.int (f_rmE1 b4 b4 (f_rmZ q0) (q1 &&& (9223372036854775807 : Int64)) (f_rmZ q0) (q1 &&& (9223372036854775807 : Int64)))), .val (.int (0 : Int32)), .val (.int (0 : Int32))] [])) _
          refine XS.iconst X22.here hx rfl (hb hby at_185) ?_
          show Steps p.tables e below (T22.setTop (mkF m 186 #[.val (.long q0), .second, .val (.long q1), .second, .val (.long q2), .second, .val (.long q3), .second, .val (.int p4), .val (.long (f_rmZ q0)), .second, .val (.long (q1 &&& (9223372036854775807 : Int64))), .second, .val (.long q13), .second, .val (.long q15), .second, .val (.ref b4), .val (.ref b8), .val (.ref r12), .val (.int i20), .val (.int (f_rmE1 b4 b8 (f_rmZ q0) (q1 &&& (9223372036854775807 : Int64)) q13 q15)), .val (.int (f_rmE1 b8 b4 q13 q15 (f_rmZ q0) (q1 &&& (9223372036854775807 : Int64)))), .val (.int (f_rmE1 b4 b4 (f_rmZ q0) (q1 &&& (9223372036854775807 : Int64)) (f_rmZ q0) (q1 &&& (9223372036854775807 : Int64)))), .val (.int (0 : Int32)), .val (.int (0 : Int32))] [(.int (1 : Int32))])) _
          refine XS.goto X22.here hx rfl (pc0 := 186) (pc' := 190) rfl (hb hby at_186) (by decide) (by decide) ?_
          exact kt
        exact own_end X22 hlk (v := some (.int (1 : Int32))) (fun h => by rw [Bd.returns] at h; cases h) (fun fs hr => retN X22 hx (t := .boolean) Bd.returns (by simp) (hb hby at_190) hr) ⟨rfl, N22⟩ (by decide : 3 ≤ _) (by decide : 5 ≤ _)
      refine own_thr (a := T12.setTop (mkF m 94 #[.val (.long q0), .second, .val (.long q1), .second, .val (.long q2), .second, .val (.long q3), .second, .val (.int p4), .val (.long (f_rmZ q0)), .second, .val (.long (q1 &&& (9223372036854775807 : Int64))), .second, .val (.long q13), .second, .val (.long q15), .second, .val (.ref b4), .val (.ref b8), .val (.ref r12), .unset, .unset, .unset, .unset, .unset, .unset] [(.int (lcmpW (f_rmZ q0) q13))])) (fun t kt => ?_) ?_
      · show Steps p.tables e below (T12.setTop (mkF m 89 #[.val (.long q0), .second, .val (.long q1), .second, .val (.long q2), .second, .val (.long q3), .second, .val (.int p4), .val (.long (f_rmZ q0)), .second, .val (.long (q1 &&& (9223372036854775807 : Int64))), .second, .val (.long q13), .second, .val (.long q15), .second, .val (.ref b4), .val (.ref b8), .val (.ref r12), .unset, .unset, .unset, .unset, .unset, .unset] [])) _
        refine XS.lload X12.here hx rfl (hb hby at_89) rfl ?_
        show Steps p.tables e below (T12.setTop (mkF m 91 #[.val (.long q0), .second, .val (.long q1), .second, .val (.long q2), .second, .val (.long q3), .second, .val (.int p4), .val (.long (f_rmZ q0)), .second, .val (.long (q1 &&& (9223372036854775807 : Int64))), .second, .val (.long q13), .second, .val (.long q15), .second, .val (.ref b4), .val (.ref b8), .val (.ref r12), .unset, .unset, .unset, .unset, .unset, .unset] [(.long (f_rmZ q0))])) _
        refine XS.lload X12.here hx rfl (hb hby at_91) rfl ?_
        show Steps p.tables e below (T12.setTop (mkF m 93 #[.val (.long q0), .second, .val (.long q1), .second, .val (.long q2), .second, .val (.long q3), .second, .val (.int p4), .val (.long (f_rmZ q0)), .second, .val (.long (q1 &&& (9223372036854775807 : Int64))), .second, .val (.long q13), .second, .val (.long q15), .second, .val (.ref b4), .val (.ref b8), .val (.ref r12), .unset, .unset, .unset, .unset, .unset, .unset] [(.long q13), (.long (f_rmZ q0))])) _
        refine XS.lcmp X12.here hx rfl (hb hby at_93) rfl ?_
        exact kt
      by_cases hc23 : (f_rmZ q0) = q13
      · refine own_thr (a := T12.setTop (mkF m 102 #[.val (.long q0), .second, .val (.long q1), .second, .val (.long q2), .second, .val (.long q3), .second, .val (.int p4), .val (.long (f_rmZ q0)), .second, .val (.long (q1 &&& (9223372036854775807 : Int64))), .second, .val (.long q13), .second, .val (.long q15), .second, .val (.ref b4), .val (.ref b8), .val (.ref r12), .unset, .unset, .unset, .unset, .unset, .unset] [(.int (lcmpW (q1 &&& (9223372036854775807 : Int64)) q15))])) (fun t kt => ?_) ?_
        · show Steps p.tables e below (T12.setTop (mkF m 94 #[.val (.long q0), .second, .val (.long q1), .second, .val (.long q2), .second, .val (.long q3), .second, .val (.int p4), .val (.long (f_rmZ q0)), .second, .val (.long (q1 &&& (9223372036854775807 : Int64))), .second, .val (.long q13), .second, .val (.long q15), .second, .val (.ref b4), .val (.ref b8), .val (.ref r12), .unset, .unset, .unset, .unset, .unset, .unset] [(.int (lcmpW (f_rmZ q0) q13))])) _
          refine XS.ifNo X12.here hx rfl (hb hby at_94) rfl ((if0 _ _).trans (teq ((lw_eq (f_rmZ q0) q13).mpr hc23)).2) ?_
          show Steps p.tables e below (T12.setTop (mkF m 97 #[.val (.long q0), .second, .val (.long q1), .second, .val (.long q2), .second, .val (.long q3), .second, .val (.int p4), .val (.long (f_rmZ q0)), .second, .val (.long (q1 &&& (9223372036854775807 : Int64))), .second, .val (.long q13), .second, .val (.long q15), .second, .val (.ref b4), .val (.ref b8), .val (.ref r12), .unset, .unset, .unset, .unset, .unset, .unset] [])) _
          refine XS.lload X12.here hx rfl (hb hby at_97) rfl ?_
          show Steps p.tables e below (T12.setTop (mkF m 99 #[.val (.long q0), .second, .val (.long q1), .second, .val (.long q2), .second, .val (.long q3), .second, .val (.int p4), .val (.long (f_rmZ q0)), .second, .val (.long (q1 &&& (9223372036854775807 : Int64))), .second, .val (.long q13), .second, .val (.long q15), .second, .val (.ref b4), .val (.ref b8), .val (.ref r12), .unset, .unset, .unset, .unset, .unset, .unset] [(.long (q1 &&& (9223372036854775807 : Int64)))])) _
          refine XS.lload X12.here hx rfl (hb hby at_99) rfl ?_
          show Steps p.tables e below (T12.setTop (mkF m 101 #[.val (.long q0), .second, .val (.long q1), .second, .val (.long q2), .second, .val (.long q3), .second, .val (.int p4), .val (.long (f_rmZ q0)), .second, .val (.long (q1 &&& (9223372036854775807 : Int64))), .second, .val (.long q13), .second, .val (.long q15), .second, .val (.ref b4), .val (.ref b8), .val (.ref r12), .unset, .unset, .unset, .unset, .unset, .unset] [(.long q15), (.long (q1 &&& (9223372036854775807 : Int64)))])) _
          refine XS.lcmp X12.here hx rfl (hb hby at_101) rfl ?_
          exact kt
        by_cases hc24 : (q1 &&& (9223372036854775807 : Int64)) = q15
        · refine own_thr (a := T12.setTop (mkF m 110 #[.val (.long q0), .second, .val (.long q1), .second, .val (.long q2), .second, .val (.long q3), .second, .val (.int p4), .val (.long (f_rmZ q0)), .second, .val (.long (q1 &&& (9223372036854775807 : Int64))), .second, .val (.long q13), .second, .val (.long q15), .second, .val (.ref b4), .val (.ref b8), .val (.ref r12), .unset, .unset, .unset, .unset, .unset, .unset] [(.int (1 : Int32))])) (fun t kt => ?_) ?_
          · show Steps p.tables e below (T12.setTop (mkF m 102 #[.val (.long q0), .second, .val (.long q1), .second, .val (.long q2), .second, .val (.long q3), .second, .val (.int p4), .val (.long (f_rmZ q0)), .second, .val (.long (q1 &&& (9223372036854775807 : Int64))), .second, .val (.long q13), .second, .val (.long q15), .second, .val (.ref b4), .val (.ref b8), .val (.ref r12), .unset, .unset, .unset, .unset, .unset, .unset] [(.int (lcmpW (q1 &&& (9223372036854775807 : Int64)) q15))])) _
            refine XS.ifNo X12.here hx rfl (hb hby at_102) rfl ((if0 _ _).trans (teq ((lw_eq (q1 &&& (9223372036854775807 : Int64)) q15).mpr hc24)).2) ?_
            show Steps p.tables e below (T12.setTop (mkF m 105 #[.val (.long q0), .second, .val (.long q1), .second, .val (.long q2), .second, .val (.long q3), .second, .val (.int p4), .val (.long (f_rmZ q0)), .second, .val (.long (q1 &&& (9223372036854775807 : Int64))), .second, .val (.long q13), .second, .val (.long q15), .second, .val (.ref b4), .val (.ref b8), .val (.ref r12), .unset, .unset, .unset, .unset, .unset, .unset] [])) _
            refine XS.iconst X12.here hx rfl (hb hby at_105) ?_
            show Steps p.tables e below (T12.setTop (mkF m 106 #[.val (.long q0), .second, .val (.long q1), .second, .val (.long q2), .second, .val (.long q3), .second, .val (.int p4), .val (.long (f_rmZ q0)), .second, .val (.long (q1 &&& (9223372036854775807 : Int64))), .second, .val (.long q13), .second, .val (.long q15), .second, .val (.ref b4), .val (.ref b8), .val (.ref r12), .unset, .unset, .unset, .unset, .unset, .unset] [(.int (1 : Int32))])) _
            refine XS.goto X12.here hx rfl (pc0 := 106) (pc' := 110) rfl (hb hby at_106) (by decide) (by decide) ?_
            exact kt
          exact jn110 _ _ X12 N12 rfl (1 : Int32) (by unfold own_ex; rw [if_pos hc23, if_pos hc24])
        · refine own_thr (a := T12.setTop (mkF m 110 #[.val (.long q0), .second, .val (.long q1), .second, .val (.long q2), .second, .val (.long q3), .second, .val (.int p4), .val (.long (f_rmZ q0)), .second, .val (.long (q1 &&& (9223372036854775807 : Int64))), .second, .val (.long q13), .second, .val (.long q15), .second, .val (.ref b4), .val (.ref b8), .val (.ref r12), .unset, .unset, .unset, .unset, .unset, .unset] [(.int (0 : Int32))])) (fun t kt => ?_) ?_
          · show Steps p.tables e below (T12.setTop (mkF m 102 #[.val (.long q0), .second, .val (.long q1), .second, .val (.long q2), .second, .val (.long q3), .second, .val (.int p4), .val (.long (f_rmZ q0)), .second, .val (.long (q1 &&& (9223372036854775807 : Int64))), .second, .val (.long q13), .second, .val (.long q15), .second, .val (.ref b4), .val (.ref b8), .val (.ref r12), .unset, .unset, .unset, .unset, .unset, .unset] [(.int (lcmpW (q1 &&& (9223372036854775807 : Int64)) q15))])) _
            refine XS.ifYes X12.here hx rfl (pc0 := 102) (pc' := 109) rfl (hb hby at_102) rfl ((if0 _ _).trans (feq (fun q => hc24 ((lw_eq (q1 &&& (9223372036854775807 : Int64)) q15).mp q))).2) (by decide) (by decide) ?_
            show Steps p.tables e below (T12.setTop (mkF m 109 #[.val (.long q0), .second, .val (.long q1), .second, .val (.long q2), .second, .val (.long q3), .second, .val (.int p4), .val (.long (f_rmZ q0)), .second, .val (.long (q1 &&& (9223372036854775807 : Int64))), .second, .val (.long q13), .second, .val (.long q15), .second, .val (.ref b4), .val (.ref b8), .val (.ref r12), .unset, .unset, .unset, .unset, .unset, .unset] [])) _
            refine XS.iconst X12.here hx rfl (hb hby at_109) ?_
            exact kt
          exact jn110 _ _ X12 N12 rfl (0 : Int32) (by unfold own_ex; rw [if_pos hc23, if_neg hc24])
      · refine own_thr (a := T12.setTop (mkF m 110 #[.val (.long q0), .second, .val (.long q1), .second, .val (.long q2), .second, .val (.long q3), .second, .val (.int p4), .val (.long (f_rmZ q0)), .second, .val (.long (q1 &&& (9223372036854775807 : Int64))), .second, .val (.long q13), .second, .val (.long q15), .second, .val (.ref b4), .val (.ref b8), .val (.ref r12), .unset, .unset, .unset, .unset, .unset, .unset] [(.int (0 : Int32))])) (fun t kt => ?_) ?_
        · show Steps p.tables e below (T12.setTop (mkF m 94 #[.val (.long q0), .second, .val (.long q1), .second, .val (.long q2), .second, .val (.long q3), .second, .val (.int p4), .val (.long (f_rmZ q0)), .second, .val (.long (q1 &&& (9223372036854775807 : Int64))), .second, .val (.long q13), .second, .val (.long q15), .second, .val (.ref b4), .val (.ref b8), .val (.ref r12), .unset, .unset, .unset, .unset, .unset, .unset] [(.int (lcmpW (f_rmZ q0) q13))])) _
          refine XS.ifYes X12.here hx rfl (pc0 := 94) (pc' := 109) rfl (hb hby at_94) rfl ((if0 _ _).trans (feq (fun q => hc23 ((lw_eq (f_rmZ q0) q13).mp q))).2) (by decide) (by decide) ?_
          show Steps p.tables e below (T12.setTop (mkF m 109 #[.val (.long q0), .second, .val (.long q1), .second, .val (.long q2), .second, .val (.long q3), .second, .val (.int p4), .val (.long (f_rmZ q0)), .second, .val (.long (q1 &&& (9223372036854775807 : Int64))), .second, .val (.long q13), .second, .val (.long q15), .second, .val (.ref b4), .val (.ref b8), .val (.ref r12), .unset, .unset, .unset, .unset, .unset, .unset] [])) _
          refine XS.iconst X12.here hx rfl (hb hby at_109) ?_
          exact kt
        exact jn110 _ _ X12 N12 rfl (0 : Int32) (by unfold own_ex; rw [if_neg hc23])
    refine own_thr (a := Tj2.setTop (mkF m 38 #[.val (.long q0), .second, .val (.long q1), .second, .val (.long q2), .second, .val (.long q3), .second, .val (.int p4), .val (.long (f_rmZ q0)), .second, .val (.long (q1 &&& (9223372036854775807 : Int64))), .second, .val (.long q13), .second, .unset, .unset, .unset, .unset, .unset, .unset, .unset, .unset, .unset, .unset, .unset] [(.int (p4 &&& (2 : Int32)))])) (fun t kt => ?_) ?_
    · show Steps p.tables e below (Tj2.setTop (mkF m 34 #[.val (.long q0), .second, .val (.long q1), .second, .val (.long q2), .second, .val (.long q3), .second, .val (.int p4), .val (.long (f_rmZ q0)), .second, .val (.long (q1 &&& (9223372036854775807 : Int64))), .second, .val (.long q13), .second, .unset, .unset, .unset, .unset, .unset, .unset, .unset, .unset, .unset, .unset, .unset] [])) _
      refine XS.iload Xj2.here hx rfl (hb hby at_34) rfl ?_
      show Steps p.tables e below (Tj2.setTop (mkF m 36 #[.val (.long q0), .second, .val (.long q1), .second, .val (.long q2), .second, .val (.long q3), .second, .val (.int p4), .val (.long (f_rmZ q0)), .second, .val (.long (q1 &&& (9223372036854775807 : Int64))), .second, .val (.long q13), .second, .unset, .unset, .unset, .unset, .unset, .unset, .unset, .unset, .unset, .unset, .unset] [(.int p4)])) _
      refine XS.iconst Xj2.here hx rfl (hb hby at_36) ?_
      show Steps p.tables e below (Tj2.setTop (mkF m 37 #[.val (.long q0), .second, .val (.long q1), .second, .val (.long q2), .second, .val (.long q3), .second, .val (.int p4), .val (.long (f_rmZ q0)), .second, .val (.long (q1 &&& (9223372036854775807 : Int64))), .second, .val (.long q13), .second, .unset, .unset, .unset, .unset, .unset, .unset, .unset, .unset, .unset, .unset, .unset] [(.int (2 : Int32)), (.int p4)])) _
      refine XS.iand Xj2.here hx rfl (hb hby at_37) rfl ?_
      exact kt
    by_cases hc25 : (p4 &&& (2 : Int32)) = (0 : Int32)
    · refine own_thr (a := Tj2.setTop (mkF m 56 #[.val (.long q0), .second, .val (.long q1), .second, .val (.long q2), .second, .val (.long q3), .second, .val (.int p4), .val (.long (f_rmZ q0)), .second, .val (.long (q1 &&& (9223372036854775807 : Int64))), .second, .val (.long q13), .second, .val (.long (q3 &&& (9223372036854775807 : Int64))), .second, .unset, .unset, .unset, .unset, .unset, .unset, .unset, .unset, .unset] [])) (fun t kt => ?_) ?_
      · show Steps p.tables e below (Tj2.setTop (mkF m 38 #[.val (.long q0), .second, .val (.long q1), .second, .val (.long q2), .second, .val (.long q3), .second, .val (.int p4), .val (.long (f_rmZ q0)), .second, .val (.long (q1 &&& (9223372036854775807 : Int64))), .second, .val (.long q13), .second, .unset, .unset, .unset, .unset, .unset, .unset, .unset, .unset, .unset, .unset, .unset] [(.int (p4 &&& (2 : Int32)))])) _
        refine XS.ifYes Xj2.here hx rfl (pc0 := 38) (pc' := 48) rfl (hb hby at_38) rfl ((if0 _ _).trans (teq hc25).1) (by decide) (by decide) ?_
        show Steps p.tables e below (Tj2.setTop (mkF m 48 #[.val (.long q0), .second, .val (.long q1), .second, .val (.long q2), .second, .val (.long q3), .second, .val (.int p4), .val (.long (f_rmZ q0)), .second, .val (.long (q1 &&& (9223372036854775807 : Int64))), .second, .val (.long q13), .second, .unset, .unset, .unset, .unset, .unset, .unset, .unset, .unset, .unset, .unset, .unset] [])) _
        refine XS.lload Xj2.here hx rfl (hb hby at_48) rfl ?_
        show Steps p.tables e below (Tj2.setTop (mkF m 50 #[.val (.long q0), .second, .val (.long q1), .second, .val (.long q2), .second, .val (.long q3), .second, .val (.int p4), .val (.long (f_rmZ q0)), .second, .val (.long (q1 &&& (9223372036854775807 : Int64))), .second, .val (.long q13), .second, .unset, .unset, .unset, .unset, .unset, .unset, .unset, .unset, .unset, .unset, .unset] [(.long q3)])) _
        refine Xj2.ldc2Long hx hown (mvT hZ (hw _ (List.mem_of_getElem? (i := 4) rfl))) (g := (mkF m 50 #[.val (.long q0), .second, .val (.long q1), .second, .val (.long q2), .second, .val (.long q3), .second, .val (.int p4), .val (.long (f_rmZ q0)), .second, .val (.long (q1 &&& (9223372036854775807 : Int64))), .second, .val (.long q13), .second, .unset, .unset, .unset, .unset, .unset, .unset, .unset, .unset, .unset, .unset, .unset] [(.long q3)])) rfl (hb hby at_50) _ ?_
        show Steps p.tables e below (Tj2.setTop (mkF m 53 #[.val (.long q0), .second, .val (.long q1), .second, .val (.long q2), .second, .val (.long q3), .second, .val (.int p4), .val (.long (f_rmZ q0)), .second, .val (.long (q1 &&& (9223372036854775807 : Int64))), .second, .val (.long q13), .second, .unset, .unset, .unset, .unset, .unset, .unset, .unset, .unset, .unset, .unset, .unset] [(.long (9223372036854775807 : Int64)), (.long q3)])) _
        refine XS.land Xj2.here hx rfl (hb hby at_53) rfl ?_
        show Steps p.tables e below (Tj2.setTop (mkF m 54 #[.val (.long q0), .second, .val (.long q1), .second, .val (.long q2), .second, .val (.long q3), .second, .val (.int p4), .val (.long (f_rmZ q0)), .second, .val (.long (q1 &&& (9223372036854775807 : Int64))), .second, .val (.long q13), .second, .unset, .unset, .unset, .unset, .unset, .unset, .unset, .unset, .unset, .unset, .unset] [(.long (q3 &&& (9223372036854775807 : Int64)))])) _
        refine XS.lstore Xj2.here hx rfl (hb hby at_54) rfl (l' := #[.val (.long q0), .second, .val (.long q1), .second, .val (.long q2), .second, .val (.long q3), .second, .val (.int p4), .val (.long (f_rmZ q0)), .second, .val (.long (q1 &&& (9223372036854775807 : Int64))), .second, .val (.long q13), .second, .val (.long (q3 &&& (9223372036854775807 : Int64))), .second, .unset, .unset, .unset, .unset, .unset, .unset, .unset, .unset, .unset]) rfl ?_
        exact kt
      exact jn56 _ _ Xj2 Nj2 ej2 (q3 &&& (9223372036854775807 : Int64)) (own_nonneg _)
    · refine own_thr (a := Tj2.setTop (mkF m 56 #[.val (.long q0), .second, .val (.long q1), .second, .val (.long q2), .second, .val (.long q3), .second, .val (.int p4), .val (.long (f_rmZ q0)), .second, .val (.long (q1 &&& (9223372036854775807 : Int64))), .second, .val (.long q13), .second, .val (.long (q1 &&& (9223372036854775807 : Int64))), .second, .unset, .unset, .unset, .unset, .unset, .unset, .unset, .unset, .unset] [])) (fun t kt => ?_) ?_
      · show Steps p.tables e below (Tj2.setTop (mkF m 38 #[.val (.long q0), .second, .val (.long q1), .second, .val (.long q2), .second, .val (.long q3), .second, .val (.int p4), .val (.long (f_rmZ q0)), .second, .val (.long (q1 &&& (9223372036854775807 : Int64))), .second, .val (.long q13), .second, .unset, .unset, .unset, .unset, .unset, .unset, .unset, .unset, .unset, .unset, .unset] [(.int (p4 &&& (2 : Int32)))])) _
        refine XS.ifNo Xj2.here hx rfl (hb hby at_38) rfl ((if0 _ _).trans (feq hc25).1) ?_
        show Steps p.tables e below (Tj2.setTop (mkF m 41 #[.val (.long q0), .second, .val (.long q1), .second, .val (.long q2), .second, .val (.long q3), .second, .val (.int p4), .val (.long (f_rmZ q0)), .second, .val (.long (q1 &&& (9223372036854775807 : Int64))), .second, .val (.long q13), .second, .unset, .unset, .unset, .unset, .unset, .unset, .unset, .unset, .unset, .unset, .unset] [])) _
        refine XS.lload Xj2.here hx rfl (hb hby at_41) rfl ?_
        show Steps p.tables e below (Tj2.setTop (mkF m 43 #[.val (.long q0), .second, .val (.long q1), .second, .val (.long q2), .second, .val (.long q3), .second, .val (.int p4), .val (.long (f_rmZ q0)), .second, .val (.long (q1 &&& (9223372036854775807 : Int64))), .second, .val (.long q13), .second, .unset, .unset, .unset, .unset, .unset, .unset, .unset, .unset, .unset, .unset, .unset] [(.long (q1 &&& (9223372036854775807 : Int64)))])) _
        refine XS.lstore Xj2.here hx rfl (hb hby at_43) rfl (l' := #[.val (.long q0), .second, .val (.long q1), .second, .val (.long q2), .second, .val (.long q3), .second, .val (.int p4), .val (.long (f_rmZ q0)), .second, .val (.long (q1 &&& (9223372036854775807 : Int64))), .second, .val (.long q13), .second, .val (.long (q1 &&& (9223372036854775807 : Int64))), .second, .unset, .unset, .unset, .unset, .unset, .unset, .unset, .unset, .unset]) rfl ?_
        show Steps p.tables e below (Tj2.setTop (mkF m 45 #[.val (.long q0), .second, .val (.long q1), .second, .val (.long q2), .second, .val (.long q3), .second, .val (.int p4), .val (.long (f_rmZ q0)), .second, .val (.long (q1 &&& (9223372036854775807 : Int64))), .second, .val (.long q13), .second, .val (.long (q1 &&& (9223372036854775807 : Int64))), .second, .unset, .unset, .unset, .unset, .unset, .unset, .unset, .unset, .unset] [])) _
        refine XS.goto Xj2.here hx rfl (pc0 := 45) (pc' := 56) rfl (hb hby at_45) (by decide) (by decide) ?_
        exact kt
      exact jn56 _ _ Xj2 Nj2 ej2 (q1 &&& (9223372036854775807 : Int64)) (own_nonneg _)
  refine own_thr (a := T1.setTop (mkF m 17 #[.val (.long q0), .second, .val (.long q1), .second, .val (.long q2), .second, .val (.long q3), .second, .val (.int p4), .val (.long (f_rmZ q0)), .second, .val (.long (q1 &&& (9223372036854775807 : Int64))), .second, .unset, .unset, .unset, .unset, .unset, .unset, .unset, .unset, .unset, .unset, .unset, .unset, .unset] [(.int (p4 &&& (1 : Int32)))])) (fun t kt => ?_) ?_
  · show Steps p.tables e below (T1.setTop (mkF m 13 #[.val (.long q0), .second, .val (.long q1), .second, .val (.long q2), .second, .val (.long q3), .second, .val (.int p4), .val (.long (f_rmZ q0)), .second, .val (.long (q1 &&& (9223372036854775807 : Int64))), .second, .unset, .unset, .unset, .unset, .unset, .unset, .unset, .unset, .unset, .unset, .unset, .unset, .unset] [])) _
    refine XS.iload X1.here hx rfl (hb hby at_13) rfl ?_
    show Steps p.tables e below (T1.setTop (mkF m 15 #[.val (.long q0), .second, .val (.long q1), .second, .val (.long q2), .second, .val (.long q3), .second, .val (.int p4), .val (.long (f_rmZ q0)), .second, .val (.long (q1 &&& (9223372036854775807 : Int64))), .second, .unset, .unset, .unset, .unset, .unset, .unset, .unset, .unset, .unset, .unset, .unset, .unset, .unset] [(.int p4)])) _
    refine XS.iconst X1.here hx rfl (hb hby at_15) ?_
    show Steps p.tables e below (T1.setTop (mkF m 16 #[.val (.long q0), .second, .val (.long q1), .second, .val (.long q2), .second, .val (.long q3), .second, .val (.int p4), .val (.long (f_rmZ q0)), .second, .val (.long (q1 &&& (9223372036854775807 : Int64))), .second, .unset, .unset, .unset, .unset, .unset, .unset, .unset, .unset, .unset, .unset, .unset, .unset, .unset] [(.int (1 : Int32)), (.int p4)])) _
    refine XS.iand X1.here hx rfl (hb hby at_16) rfl ?_
    exact kt
  by_cases hc26 : (p4 &&& (1 : Int32)) = (0 : Int32)
  · refine own_thr (a := T1.setTop (mkF m 29 #[.val (.long q0), .second, .val (.long q1), .second, .val (.long q2), .second, .val (.long q3), .second, .val (.int p4), .val (.long (f_rmZ q0)), .second, .val (.long (q1 &&& (9223372036854775807 : Int64))), .second, .unset, .unset, .unset, .unset, .unset, .unset, .unset, .unset, .unset, .unset, .unset, .unset, .unset] [(.long q2)])) (fun t kt => ?_) ?_
    · show Steps p.tables e below (T1.setTop (mkF m 17 #[.val (.long q0), .second, .val (.long q1), .second, .val (.long q2), .second, .val (.long q3), .second, .val (.int p4), .val (.long (f_rmZ q0)), .second, .val (.long (q1 &&& (9223372036854775807 : Int64))), .second, .unset, .unset, .unset, .unset, .unset, .unset, .unset, .unset, .unset, .unset, .unset, .unset, .unset] [(.int (p4 &&& (1 : Int32)))])) _
      refine XS.ifYes X1.here hx rfl (pc0 := 17) (pc' := 27) rfl (hb hby at_17) rfl ((if0 _ _).trans (teq hc26).1) (by decide) (by decide) ?_
      show Steps p.tables e below (T1.setTop (mkF m 27 #[.val (.long q0), .second, .val (.long q1), .second, .val (.long q2), .second, .val (.long q3), .second, .val (.int p4), .val (.long (f_rmZ q0)), .second, .val (.long (q1 &&& (9223372036854775807 : Int64))), .second, .unset, .unset, .unset, .unset, .unset, .unset, .unset, .unset, .unset, .unset, .unset, .unset, .unset] [])) _
      refine XS.lload X1.here hx rfl (hb hby at_27) rfl ?_
      exact kt
    obtain ⟨_, _, ⟨T27, L27, k27, n27⟩, -, X27, ⟨Lc27, hQ27, l27, y27, z27⟩, st27⟩ := Jvm.LawKit.callS X1 hx (y := (⟨"com/example/bouncer/bouncer/RequestIdEqualsPinLaw", "nz", "(J)J"⟩ : MethodName)) hown (mvT hZ (hw _ (List.mem_of_getElem? (i := 0) rfl))) (mvT hZ (hw _ (List.mem_of_getElem? (i := 1) rfl))) (mvT hZ (hw _ (List.mem_of_getElem? (i := 2) rfl))) (mvT hZ (hw _ (List.mem_of_getElem? (i := 3) rfl))) (by decide) (backOf (W := 0) (rmZ l Z a0 hw [] q2 h0 n0 Z0) hZ (hw _ (List.mem_of_getElem? (i := 3) rfl)) (hw _ (List.mem_of_getElem? (i := 2) rfl)) (by decide) (by decide)) (g := (mkF m 29 #[.val (.long q0), .second, .val (.long q1), .second, .val (.long q2), .second, .val (.long q3), .second, .val (.int p4), .val (.long (f_rmZ q0)), .second, .val (.long (q1 &&& (9223372036854775807 : Int64))), .second, .unset, .unset, .unset, .unset, .unset, .unset, .unset, .unset, .unset, .unset, .unset, .unset, .unset] [(.long q2)])) rfl (by rw [hml]; rfl) (argsL := [(.long q2)]) (rest := []) (lenOf pd__28J_29J rfl) rfl (by show 2 * 0 + _ ≤ _; exact Nat.le_of_eq rfl) (hb hby at_29) (fun _ _ => ⟨rfl, e1, (by decide : 0 + 0 ≤ _), (by decide : 0 + 0 ≤ _)⟩)
    dsimp only [Pt.U, Pt.locs, Pt.cells, Pt.slots] at X27 l27 y27 z27 st27 hQ27
    obtain ⟨rfl, N27q, e27⟩ := hQ27
    obtain ⟨lc27, X27, N27⟩ := own_pack X27 l27 y27 z27 N1 N27q (C := 0) (S' := 0) rfl rfl
    refine own_thr (a := T27.setTop (mkF m 32 #[.val (.long q0), .second, .val (.long q1), .second, .val (.long q2), .second, .val (.long q3), .second, .val (.int p4), .val (.long (f_rmZ q0)), .second, .val (.long (q1 &&& (9223372036854775807 : Int64))), .second, .unset, .unset, .unset, .unset, .unset, .unset, .unset, .unset, .unset, .unset, .unset, .unset, .unset] [(.long (f_rmZ q2))])) (fun t kt => st27 t kt) ?_
    refine own_thr (a := T27.setTop (mkF m 34 #[.val (.long q0), .second, .val (.long q1), .second, .val (.long q2), .second, .val (.long q3), .second, .val (.int p4), .val (.long (f_rmZ q0)), .second, .val (.long (q1 &&& (9223372036854775807 : Int64))), .second, .val (.long (f_rmZ q2)), .second, .unset, .unset, .unset, .unset, .unset, .unset, .unset, .unset, .unset, .unset, .unset] [])) (fun t kt => ?_) ?_
    · show Steps p.tables e below (T27.setTop (mkF m 32 #[.val (.long q0), .second, .val (.long q1), .second, .val (.long q2), .second, .val (.long q3), .second, .val (.int p4), .val (.long (f_rmZ q0)), .second, .val (.long (q1 &&& (9223372036854775807 : Int64))), .second, .unset, .unset, .unset, .unset, .unset, .unset, .unset, .unset, .unset, .unset, .unset, .unset, .unset] [(.long (f_rmZ q2))])) _
      refine XS.lstore X27.here hx rfl (hb hby at_32) rfl (l' := #[.val (.long q0), .second, .val (.long q1), .second, .val (.long q2), .second, .val (.long q3), .second, .val (.int p4), .val (.long (f_rmZ q0)), .second, .val (.long (q1 &&& (9223372036854775807 : Int64))), .second, .val (.long (f_rmZ q2)), .second, .unset, .unset, .unset, .unset, .unset, .unset, .unset, .unset, .unset, .unset, .unset]) rfl ?_
      exact kt
    exact jn34 _ _ X27 N27 e27 (f_rmZ q2) (own_nz _)
  · refine own_thr (a := T1.setTop (mkF m 34 #[.val (.long q0), .second, .val (.long q1), .second, .val (.long q2), .second, .val (.long q3), .second, .val (.int p4), .val (.long (f_rmZ q0)), .second, .val (.long (q1 &&& (9223372036854775807 : Int64))), .second, .val (.long (f_rmZ q0)), .second, .unset, .unset, .unset, .unset, .unset, .unset, .unset, .unset, .unset, .unset, .unset] [])) (fun t kt => ?_) ?_
    · show Steps p.tables e below (T1.setTop (mkF m 17 #[.val (.long q0), .second, .val (.long q1), .second, .val (.long q2), .second, .val (.long q3), .second, .val (.int p4), .val (.long (f_rmZ q0)), .second, .val (.long (q1 &&& (9223372036854775807 : Int64))), .second, .unset, .unset, .unset, .unset, .unset, .unset, .unset, .unset, .unset, .unset, .unset, .unset, .unset] [(.int (p4 &&& (1 : Int32)))])) _
      refine XS.ifNo X1.here hx rfl (hb hby at_17) rfl ((if0 _ _).trans (feq hc26).1) ?_
      show Steps p.tables e below (T1.setTop (mkF m 20 #[.val (.long q0), .second, .val (.long q1), .second, .val (.long q2), .second, .val (.long q3), .second, .val (.int p4), .val (.long (f_rmZ q0)), .second, .val (.long (q1 &&& (9223372036854775807 : Int64))), .second, .unset, .unset, .unset, .unset, .unset, .unset, .unset, .unset, .unset, .unset, .unset, .unset, .unset] [])) _
      refine XS.lload X1.here hx rfl (hb hby at_20) rfl ?_
      show Steps p.tables e below (T1.setTop (mkF m 22 #[.val (.long q0), .second, .val (.long q1), .second, .val (.long q2), .second, .val (.long q3), .second, .val (.int p4), .val (.long (f_rmZ q0)), .second, .val (.long (q1 &&& (9223372036854775807 : Int64))), .second, .unset, .unset, .unset, .unset, .unset, .unset, .unset, .unset, .unset, .unset, .unset, .unset, .unset] [(.long (f_rmZ q0))])) _
      refine XS.lstore X1.here hx rfl (hb hby at_22) rfl (l' := #[.val (.long q0), .second, .val (.long q1), .second, .val (.long q2), .second, .val (.long q3), .second, .val (.int p4), .val (.long (f_rmZ q0)), .second, .val (.long (q1 &&& (9223372036854775807 : Int64))), .second, .val (.long (f_rmZ q0)), .second, .unset, .unset, .unset, .unset, .unset, .unset, .unset, .unset, .unset, .unset, .unset]) rfl ?_
      show Steps p.tables e below (T1.setTop (mkF m 24 #[.val (.long q0), .second, .val (.long q1), .second, .val (.long q2), .second, .val (.long q3), .second, .val (.int p4), .val (.long (f_rmZ q0)), .second, .val (.long (q1 &&& (9223372036854775807 : Int64))), .second, .val (.long (f_rmZ q0)), .second, .unset, .unset, .unset, .unset, .unset, .unset, .unset, .unset, .unset, .unset, .unset] [])) _
      refine XS.goto X1.here hx rfl (pc0 := 24) (pc' := 34) rfl (hb hby at_24) (by decide) (by decide) ?_
      exact kt
    exact jn34 _ _ X1 N1 e1 (f_rmZ q0) (own_nz _)
set_option maxRecDepth 65536 in
set_option maxHeartbeats 40000000 in
theorem comes_1 {Post : Tables → Env → Array Value → State → Outcome → State → Prop} (hpost : ∀ tb e args s v u, (limb_1_1.after args s (.returned v) u = true ∧ limb_1_2.after args s (.returned v) u = true ∧ True) → FrameEnd s (.returned v) u (Jvm.fieldLocs frame_1_writes args s ++ Jvm.arrayLocs frame_1_arrays args s ++ Jvm.staticLocs frame_1_statics s) 16 128 → Post tb e args s (.returned v) u) :
    ArmFor flags0 classFile x code maxLocals ret World_1 tables_1 room_1 Calls_1 rest_1 Pre_1 Post := by
  intro l hfl _ _ p e ha hc hk s m args below hf hA hF happ hP
  obtain ⟨hcalls, hrest, hpre⟩ := hP
  obtain ⟨-, -, -, hnamed, -, -, -, hat⟩ := (Spec.applies_iff hf).mp happ
  obtain ⟨hg, hn⟩ := and_e (Cond.before_iff.mp (show (Jvm.Cond.and given_1 narrow_1).before args s = true from hpre))
  obtain ⟨g1, g2⟩ := and_e hg
  obtain ⟨g3, g4⟩ := and_e g2
  obtain ⟨g5, g6⟩ := and_e g4
  obtain ⟨g7, g8⟩ := and_e g6
  obtain ⟨g9, g10⟩ := and_e g8
  obtain ⟨w0, w1, w2, w3, w4, rfl⟩ : ∃ w0 w1 w2 w3 w4 : Value, args = #[w0, w1, w2, w3, w4] := by
    have hs : args.size = 5 := by simpa [Cond.value, given_1] using g1
    obtain ⟨L⟩ := args
    match L, hs with
    | [w0, w1, w2, w3, w4], _ => exact ⟨w0, w1, w2, w3, w4, rfl⟩
  have hw := fun d (hd : d ∈ tables_1) => atoms_spec (ws := Jvm.Cond.code x code maxLocals ret :: tables_1) hat d (List.mem_cons_of_mem _ hd)
  have hfit : Fit s := fun {y c} hc i hi => by
    obtain ⟨ha, rfl⟩ := Array.getElem?_eq_some_iff.mp hc
    have q := List.all_eq_true.mp ((Array.all_eq_true_iff_forall_mem.mp hF) _ (Array.getElem_mem ha)) i (List.mem_range.mpr hi)
    simpa [Array.getElem?_eq_getElem hi] using q
  obtain ⟨hsets, hown0⟩ := atoms_of _ (rest_1_c_eq ▸ (show rest_1_c.before _ s = true from hrest))
  have hr0 := Cond.before_iff.mp hown0
  obtain ⟨i0, ei0⟩ := isL_v g3
  obtain rfl : w0 = (.long i0) := Option.some.inj ei0
  obtain ⟨i1, ei1⟩ := isL_v g5
  obtain rfl : w1 = (.long i1) := Option.some.inj ei1
  obtain ⟨i2, ei2⟩ := isL_v g7
  obtain rfl : w2 = (.long i2) := Option.some.inj ei2
  obtain ⟨i3, ei3⟩ := isL_v g9
  obtain rfl : w3 = (.long i3) := Option.some.inj ei3
  obtain ⟨i4, ei4⟩ := is_v g10
  obtain rfl : w4 = (.int i4) := Option.some.inj ei4
  obtain ⟨ca, eca⟩ := arr_v (Cond.before_iff.mp (hsets _ (List.mem_of_getElem? (i := 2) rfl)))
  obtain ⟨clc, Arc⟩ := Arr.start eca (Cond.before_iff.mp (hsets _ (List.mem_of_getElem? (i := 2) rfl)))
  have S_c : Sta s s.heap "java/lang/Long$LongCache" "cache" "[Ljava/lang/Long;" (.ref ca) := Sta.start eca (Or.inl (hsets _ (List.mem_of_getElem? (i := 1) rfl)))
  have hsz := own_sz eca Arc (Cond.before_iff.mp (hsets _ (List.mem_of_getElem? (i := 4) rfl)))
  have hall := own_hall eca Arc hsz (Cond.before_iff.mp (hsets _ (List.mem_of_getElem? (i := 5) rfl)))
  obtain ⟨n, o, h1, h2, h3, _, L, rfl, ⟨rfl, N⟩, hq⟩ := rm0 l s _ hw tables_1 i0 i1 i2 i3 i4 ca clc s.heap s.heap.size (Nat.le_refl _) S_c Arc hsz hall (Old.start s) p e ha hc hk s m _ below hf ((Spec.applies_iff_loose hf).mp happ).1 ⟨rfl, State.Warmed39.refl s, rfl⟩ trivial
  refine ⟨n, _, h1, h2, h3, hpost _ _ _ _ _ _ ⟨Cond.after_iff.mpr rfl, Cond.after_iff.mpr (eq_i res_at (Term.int_eval (1)) rfl), trivial⟩ ⟨hq.1, hq.2.1, (hq.2.2.sift fun y hy => Or.inr (N y hy)).mono (by decide) (by decide)⟩⟩
theorem main_1_1 : Claimed_1_1 := comes_1 fun _ _ _ _ _ _ h hF => ⟨h.1, hF⟩
theorem main_1_2 : Claimed_1_2 := comes_1 fun _ _ _ _ _ _ h hF => ⟨h.2.1, hF⟩
end Jvm.Pilot.@@N@@
namespace Jvm.Pilot.@@N@@
open Jvm Jvm.ClassFile Sem Op Lib Jvm.Free Jvm.Stand Jvm.Pilot.@@N@@.Jvm.D
/-! MADE BY PROGRAM (witnessworld.py) out of the Statement's table words and the real class files: 16 classes; the members and pool entries that the words name. The judged class is class 1, her method 2. -/
namespace start1
open Jvm.ClassFile
def u (s : String) : CpInfo := .utf8 (stringToUtf16 s)
/-- a pool by its gaps: so many unusable entries, then the entry; so many at the end -/
def gap : Nat → List CpInfo → List CpInfo
  | 0, r => r
  | n + 1, r => .unusable :: gap n r
def poolList (es : List (Nat × CpInfo)) (last : Nat) : List CpInfo := es.foldr (fun e r => gap e.1 (e.2 :: r)) (gap last [])
def pool (es : List (Nat × CpInfo)) (last : Nat) : Array CpInfo := ⟨poolList es last⟩
def fileOf (pool : Array CpInfo) (this : Nat) (attrs : Array Attribute := #[]) (ms : Array MethodInfo := #[]) (fl : Nat := 33) (sup : Nat := 0) (ifs : Array Nat := #[]) (fds : Array FieldInfo := #[]) : ClassFile where
  minorVersion := 0
  majorVersion := 65
  constantPool := pool
  accessFlags := fl
  thisClass := this
  superClass := sup
  interfaces := ifs
  fields := fds
  methods := ms
  attributes := attrs
def plain (name : String) (sup : Option ClassId) : Class where
  name := name
  kind := .ordinary
  loader := none
  accessFlags := 33
  super := sup
  interfaces := #[]
  cf := none
  fields := #[]
  methods := #[]
  instanceTypes := #[]
  staticTypes := #[]
  resolved := #[]
  callSites := []
  init := .initialized
  statics := none
  mirror := none

def pool0 : Array CpInfo := pool [(5, u "<init>"), (0, u "()V"), (1, .class_ 10), (1, u "java/lang/Object")] 113

def k0c0 : Code := { maxStack := 0, maxLocals := 1, code := object_method_1_code, exceptionTable := #[], attributes := #[] }
def k0m0 : Method := { name := "<init>", desc := "()V", sig := { parameters := [], returnType := none }, accessFlags := 1, code := some k0c0 }
/-- java/lang/Object -/
def k0 : Class := { plain "java/lang/Object" none with
  accessFlags := 33
  interfaces := #[]
  cf := some (fileOf pool0 8 #[] #[{ accessFlags := 1, nameIndex := 5, descriptorIndex := 6, attributes := #[] }] 33 0 #[] #[])
  fields := #[]
  methods := #[k0m0]
  instanceTypes := #[]
  staticTypes := #[]
  resolved := Array.replicate 124 none
  statics := none }

def pool1 : Array CpInfo := pool [(2, .class_ 4), (1, u "java/lang/Object"), (0, u "<init>"), (0, u "()V"), (0, .methodref 8 9), (0, .class_ 10), (0, .nameAndType 11 12), (0, u "com/example/bouncer/bouncer/RequestIdEqualsPinLaw"), (0, u "nz"), (0, u "(J)J"), (0, .class_ 14), (0, u "java/lang/Long"), (0, .long 9223372036854775807), (1, .class_ 18), (0, u "com/example/bouncer/bouncer/RequestId"), (0, .methodref 17 20), (0, .nameAndType 5 21), (0, u "(JJ)V"), (0, .methodref 13 23), (0, .nameAndType 24 25), (0, u "valueOf"), (0, u "(J)Ljava/lang/Long;"), (0, .methodref 17 27), (0, .nameAndType 28 29), (0, u "equals"), (0, u "(Ljava/lang/Object;)Z"), (3, u "law"), (0, u "(JJJJI)Z")] 2

def k1m0 : Method := { name := "<init>", desc := "()V", sig := { parameters := [], returnType := none }, accessFlags := 1, code := none }
def k1c1 : Code := { maxStack := 4, maxLocals := 2, code := method_2_code, exceptionTable := #[], attributes := #[] }
def k1m1 : Method := { name := "nz", desc := "(J)J", sig := { parameters := [.long], returnType := some .long }, accessFlags := 10, code := some k1c1 }
def k1c2 : Code := { maxStack := 6, maxLocals := 26, code := code, exceptionTable := #[], attributes := #[] }
def k1m2 : Method := { name := "law", desc := "(JJJJI)Z", sig := { parameters := [.long, .long, .long, .long, .int], returnType := some .boolean }, accessFlags := 9, code := some k1c2 }
/-- com/example/bouncer/bouncer/RequestIdEqualsPinLaw -/
def k1 : Class := { plain "com/example/bouncer/bouncer/RequestIdEqualsPinLaw" (some 0) with
  accessFlags := 49
  interfaces := #[]
  cf := some (fileOf pool1 8 #[] #[{ accessFlags := 1, nameIndex := 5, descriptorIndex := 6, attributes := #[] }, { accessFlags := 10, nameIndex := 11, descriptorIndex := 12, attributes := #[] }, { accessFlags := 9, nameIndex := 33, descriptorIndex := 34, attributes := #[] }] 49 2 #[] #[])
  fields := #[]
  methods := #[k1m0, k1m1, k1m2]
  instanceTypes := #[]
  staticTypes := #[]
  resolved := Array.replicate 37 none
  statics := none }

def pool2 : Array CpInfo := pool [(1, .methodref 2 3), (0, .class_ 4), (0, .nameAndType 5 6), (0, u "java/lang/Object"), (0, u "<init>"), (0, u "()V"), (21, .fieldref 29 30), (0, .class_ 31), (0, .nameAndType 32 33), (0, u "com/example/bouncer/bouncer/RequestId"), (0, u "clientId"), (0, u "J"), (0, .fieldref 29 35), (0, .nameAndType 36 33), (0, u "requestNumber"), (8, u "UNNUMBERED"), (3, u "(JJ)V"), (6, u "equals"), (0, u "(Ljava/lang/Object;)Z")] 20

def k2c0 : Code := { maxStack := 8, maxLocals := 5, code := prog_12_method_1_code, exceptionTable := #[], attributes := #[] }
def k2m0 : Method := { name := "<init>", desc := "(JJ)V", sig := { parameters := [.long, .long], returnType := none }, accessFlags := 1, code := some k2c0 }
def k2c1 : Code := { maxStack := 4, maxLocals := 3, code := prog_12_method_5_code, exceptionTable := #[], attributes := #[] }
def k2m1 : Method := { name := "equals", desc := "(Ljava/lang/Object;)Z", sig := { parameters := [(.object "java/lang/Object")], returnType := some .boolean }, accessFlags := 1, code := some k2c1 }
/-- com/example/bouncer/bouncer/RequestId -/
def k2 : Class := { plain "com/example/bouncer/bouncer/RequestId" (some 0) with
  accessFlags := 33
  interfaces := #[]
  cf := some (fileOf pool2 29 #[] #[{ accessFlags := 1, nameIndex := 5, descriptorIndex := 49, attributes := #[] }, { accessFlags := 1, nameIndex := 56, descriptorIndex := 57, attributes := #[] }] 33 2 #[] #[{ accessFlags := 25, nameIndex := 45, descriptorIndex := 33, attributes := #[] }, { accessFlags := 18, nameIndex := 32, descriptorIndex := 33, attributes := #[] }, { accessFlags := 18, nameIndex := 36, descriptorIndex := 33, attributes := #[] }])
  fields := #[{ name := "UNNUMBERED", type := .long, accessFlags := 25, slot := 0, constantValue := 0 }, { name := "clientId", type := .long, accessFlags := 18, slot := 0, constantValue := 0 }, { name := "requestNumber", type := .long, accessFlags := 18, slot := 1, constantValue := 0 }]
  methods := #[k2m0, k2m1]
  instanceTypes := #[.long, .long]
  staticTypes := #[.long]
  resolved := Array.replicate 78 none
  statics := none }

def pool3 : Array CpInfo := pool [(1, .class_ 2), (0, u "java/io/Serializable"), (0, .class_ 4), (0, u "java/lang/Object")] 2

/-- java/io/Serializable -/
def k3 : Class := { plain "java/io/Serializable" (some 0) with
  accessFlags := 1537
  interfaces := #[]
  cf := some (fileOf pool3 1 #[] #[] 1537 3 #[] #[])
  fields := #[]
  methods := #[]
  instanceTypes := #[]
  staticTypes := #[]
  resolved := Array.replicate 7 none
  statics := none }

def pool4 : Array CpInfo := pool [(1, .methodref 2 3), (0, .class_ 4), (0, .nameAndType 5 6), (0, u "java/lang/Object"), (0, u "<init>"), (0, u "()V"), (1, .class_ 10), (1, u "java/lang/Number"), (2, .class_ 14), (0, u "java/io/Serializable"), (0, u "serialVersionUID"), (0, u "J")] 20

def k4c0 : Code := { maxStack := 1, maxLocals := 1, code := jdk_18_method_1_code, exceptionTable := #[], attributes := #[] }
def k4m0 : Method := { name := "<init>", desc := "()V", sig := { parameters := [], returnType := none }, accessFlags := 1, code := some k4c0 }
/-- java/lang/Number -/
def k4 : Class := { plain "java/lang/Number" (some 0) with
  accessFlags := 1057
  interfaces := #[3]
  cf := some (fileOf pool4 8 #[] #[{ accessFlags := 1, nameIndex := 5, descriptorIndex := 6, attributes := #[] }] 1057 2 #[13] #[{ accessFlags := 26, nameIndex := 15, descriptorIndex := 16, attributes := #[] }])
  fields := #[{ name := "serialVersionUID", type := .long, accessFlags := 26, slot := 0, constantValue := 0 }]
  methods := #[k4m0]
  instanceTypes := #[]
  staticTypes := #[.long]
  resolved := Array.replicate 37 none
  statics := none }

def pool5 : Array CpInfo := pool [(1, .class_ 2), (0, u "java/lang/Comparable"), (0, .class_ 4), (0, u "java/lang/Object")] 7

/-- java/lang/Comparable -/
def k5 : Class := { plain "java/lang/Comparable" (some 0) with
  accessFlags := 1537
  interfaces := #[]
  cf := some (fileOf pool5 1 #[] #[] 1537 3 #[] #[])
  fields := #[]
  methods := #[]
  instanceTypes := #[]
  staticTypes := #[]
  resolved := Array.replicate 12 none
  statics := none }

def pool6 : Array CpInfo := pool [(1, .class_ 2), (0, u "java/lang/constant/Constable"), (0, .class_ 4), (0, u "java/lang/Object")] 6

/-- java/lang/constant/Constable -/
def k6 : Class := { plain "java/lang/constant/Constable" (some 0) with
  accessFlags := 1537
  interfaces := #[]
  cf := some (fileOf pool6 1 #[] #[] 1537 3 #[] #[])
  fields := #[]
  methods := #[]
  instanceTypes := #[]
  staticTypes := #[]
  resolved := Array.replicate 11 none
  statics := none }

def pool7 : Array CpInfo := pool [(1, .class_ 2), (0, u "java/lang/constant/ConstantDesc"), (0, .class_ 4), (0, u "java/lang/Object")] 32

/-- java/lang/constant/ConstantDesc -/
def k7 : Class := { plain "java/lang/constant/ConstantDesc" (some 0) with
  accessFlags := 1537
  interfaces := #[]
  cf := some (fileOf pool7 1 #[] #[] 1537 3 #[] #[])
  fields := #[]
  methods := #[]
  instanceTypes := #[]
  staticTypes := #[]
  resolved := Array.replicate 37 none
  statics := none }

def pool8 : Array CpInfo := pool [(1, .class_ 2), (0, u "java/lang/Long"), (55, .nameAndType 59 60), (0, u "<init>"), (0, u "()V"), (24, u "valueOf"), (143, u "(J)Ljava/lang/Long;"), (0, .long 18446744073709551488), (1, .long 127), (1, .fieldref 235 236), (0, .class_ 237), (0, .nameAndType 238 239), (0, u "java/lang/Long$LongCache"), (0, u "cache"), (0, u "[Ljava/lang/Long;"), (0, .methodref 1 241), (0, .nameAndType 59 242), (0, u "(J)V"), (27, .methodref 271 58), (0, .class_ 272), (0, u "java/lang/Number"), (0, .fieldref 1 274), (0, .nameAndType 275 276), (0, u "value"), (0, u "J"), (84, u "TYPE"), (0, u "Ljava/lang/Class;"), (0, .class_ 364), (0, u "java/lang/Comparable"), (0, .class_ 366), (0, u "java/lang/constant/Constable"), (0, .class_ 368), (0, u "java/lang/constant/ConstantDesc"), (0, u "MIN_VALUE"), (1, u "MAX_VALUE"), (4, u "SIZE"), (0, u "I"), (1, u "BYTES"), (1, u "serialVersionUID")] 142

def k8c0 : Code := { maxStack := 4, maxLocals := 3, code := jdk_35_method_24_code, exceptionTable := #[], attributes := #[] }
def k8m0 : Method := { name := "valueOf", desc := "(J)Ljava/lang/Long;", sig := { parameters := [.long], returnType := some (.object "java/lang/Long") }, accessFlags := 9, code := some k8c0 }
def k8c1 : Code := { maxStack := 3, maxLocals := 3, code := jdk_35_method_26_code, exceptionTable := #[], attributes := #[] }
def k8m1 : Method := { name := "<init>", desc := "(J)V", sig := { parameters := [.long], returnType := none }, accessFlags := 1, code := some k8c1 }
/-- java/lang/Long -/
def k8 : Class := { plain "java/lang/Long" (some 4) with
  accessFlags := 49
  interfaces := #[5, 6, 7]
  cf := some (fileOf pool8 1 #[.nestMembers #[235]] #[{ accessFlags := 9, nameIndex := 85, descriptorIndex := 229, attributes := #[] }, { accessFlags := 1, nameIndex := 59, descriptorIndex := 242, attributes := #[] }] 49 271 #[363, 365, 367] #[{ accessFlags := 25, nameIndex := 369, descriptorIndex := 276, attributes := #[] }, { accessFlags := 25, nameIndex := 371, descriptorIndex := 276, attributes := #[] }, { accessFlags := 25, nameIndex := 361, descriptorIndex := 362, attributes := #[] }, { accessFlags := 18, nameIndex := 275, descriptorIndex := 276, attributes := #[] }, { accessFlags := 25, nameIndex := 376, descriptorIndex := 377, attributes := #[] }, { accessFlags := 25, nameIndex := 379, descriptorIndex := 377, attributes := #[] }, { accessFlags := 26, nameIndex := 381, descriptorIndex := 276, attributes := #[] }])
  fields := #[{ name := "MIN_VALUE", type := .long, accessFlags := 25, slot := 0, constantValue := 0 }, { name := "MAX_VALUE", type := .long, accessFlags := 25, slot := 1, constantValue := 0 }, { name := "TYPE", type := (.object "java/lang/Class"), accessFlags := 25, slot := 2, constantValue := 0 }, { name := "value", type := .long, accessFlags := 18, slot := 0, constantValue := 0 }, { name := "SIZE", type := .int, accessFlags := 25, slot := 3, constantValue := 0 }, { name := "BYTES", type := .int, accessFlags := 25, slot := 4, constantValue := 0 }, { name := "serialVersionUID", type := .long, accessFlags := 26, slot := 5, constantValue := 0 }]
  methods := #[k8m0, k8m1]
  instanceTypes := #[.long]
  staticTypes := #[.long, .long, (.object "java/lang/Class"), .int, .int, .long]
  resolved := Array.replicate 524 none
  statics := none }

def pool9 : Array CpInfo := pool [(2, .class_ 4), (1, u "java/lang/Object"), (0, u "<init>"), (0, u "()V"), (0, .class_ 8), (0, u "java/lang/Long"), (7, .class_ 18), (1, u "java/lang/Long$LongCache"), (0, u "$assertionsDisabled"), (0, u "Z"), (8, u "archivedCache"), (0, u "[Ljava/lang/Long;"), (7, u "cache")] 24

def k9m0 : Method := { name := "<init>", desc := "()V", sig := { parameters := [], returnType := none }, accessFlags := 2, code := none }
/-- java/lang/Long$LongCache -/
def k9 : Class := { plain "java/lang/Long$LongCache" (some 0) with
  accessFlags := 48
  interfaces := #[]
  cf := some (fileOf pool9 16 #[.nestHost 7] #[{ accessFlags := 2, nameIndex := 5, descriptorIndex := 6, attributes := #[] }] 48 2 #[] #[{ accessFlags := 24, nameIndex := 38, descriptorIndex := 30, attributes := #[] }, { accessFlags := 8, nameIndex := 29, descriptorIndex := 30, attributes := #[] }, { accessFlags := 4120, nameIndex := 19, descriptorIndex := 20, attributes := #[] }])
  fields := #[{ name := "cache", type := (.array (.object "java/lang/Long")), accessFlags := 24, slot := 0, constantValue := 0 }, { name := "archivedCache", type := (.array (.object "java/lang/Long")), accessFlags := 8, slot := 1, constantValue := 0 }, { name := "$assertionsDisabled", type := .boolean, accessFlags := 4120, slot := 2, constantValue := 0 }]
  methods := #[k9m0]
  instanceTypes := #[]
  staticTypes := #[(.array (.object "java/lang/Long")), (.array (.object "java/lang/Long")), .boolean]
  resolved := Array.replicate 63 none
  statics := some 0 }

def pool10 : Array CpInfo := pool [(1, u "java/lang/Cloneable"), (0, .class_ 1), (0, u "java/lang/Object"), (0, .class_ 3)] 3

/-- java/lang/Cloneable -/
def k10 : Class := { plain "java/lang/Cloneable" (some 0) with
  accessFlags := 1537
  interfaces := #[]
  cf := some (fileOf pool10 2 #[] #[] 1537 4 #[] #[])
  fields := #[]
  methods := #[]
  instanceTypes := #[]
  staticTypes := #[]
  resolved := Array.replicate 8 none
  statics := none }

/-- the primitive byte -/
def k11 : Class := { plain "byte" none with kind := .primitive 'B', accessFlags := 0x411 }
/-- [B -/
def k12 : Class := { plain "[B" (some 0) with kind := .array 11 .byte, interfaces := #[10, 3], accessFlags := 1041 }

/-- the primitive int -/
def k13 : Class := { plain "int" none with kind := .primitive 'I', accessFlags := 0x411 }
/-- [I -/
def k14 : Class := { plain "[I" (some 0) with kind := .array 13 .int, interfaces := #[10, 3], accessFlags := 1041 }

/-- [Ljava/lang/Long; -/
def k15 : Class := { plain "[Ljava/lang/Long;" (some 0) with kind := .array 8 (.object "java/lang/Long"), interfaces := #[10, 3], accessFlags := 1041 }

def heap : Heap := #[{ cls := 9, slots := #[.ref 1, .null, .int 0], vm := .statics 9 },
  { cls := 15, slots := #[.ref 2, .ref 3, .ref 4, .ref 5, .ref 6, .ref 7, .ref 8, .ref 9, .ref 10, .ref 11, .ref 12, .ref 13, .ref 14, .ref 15, .ref 16, .ref 17, .ref 18, .ref 19, .ref 20, .ref 21, .ref 22, .ref 23, .ref 24, .ref 25, .ref 26, .ref 27, .ref 28, .ref 29, .ref 30, .ref 31, .ref 32, .ref 33, .ref 34, .ref 35, .ref 36, .ref 37, .ref 38, .ref 39, .ref 40, .ref 41, .ref 42, .ref 43, .ref 44, .ref 45, .ref 46, .ref 47, .ref 48, .ref 49, .ref 50, .ref 51, .ref 52, .ref 53, .ref 54, .ref 55, .ref 56, .ref 57, .ref 58, .ref 59, .ref 60, .ref 61, .ref 62, .ref 63, .ref 64, .ref 65, .ref 66, .ref 67, .ref 68, .ref 69, .ref 70, .ref 71, .ref 72, .ref 73, .ref 74, .ref 75, .ref 76, .ref 77, .ref 78, .ref 79, .ref 80, .ref 81, .ref 82, .ref 83, .ref 84, .ref 85, .ref 86, .ref 87, .ref 88, .ref 89, .ref 90, .ref 91, .ref 92, .ref 93, .ref 94, .ref 95, .ref 96, .ref 97, .ref 98, .ref 99, .ref 100, .ref 101, .ref 102, .ref 103, .ref 104, .ref 105, .ref 106, .ref 107, .ref 108, .ref 109, .ref 110, .ref 111, .ref 112, .ref 113, .ref 114, .ref 115, .ref 116, .ref 117, .ref 118, .ref 119, .ref 120, .ref 121, .ref 122, .ref 123, .ref 124, .ref 125, .ref 126, .ref 127, .ref 128, .ref 129, .ref 130, .ref 131, .ref 132, .ref 133, .ref 134, .ref 135, .ref 136, .ref 137, .ref 138, .ref 139, .ref 140, .ref 141, .ref 142, .ref 143, .ref 144, .ref 145, .ref 146, .ref 147, .ref 148, .ref 149, .ref 150, .ref 151, .ref 152, .ref 153, .ref 154, .ref 155, .ref 156, .ref 157, .ref 158, .ref 159, .ref 160, .ref 161, .ref 162, .ref 163, .ref 164, .ref 165, .ref 166, .ref 167, .ref 168, .ref 169, .ref 170, .ref 171, .ref 172, .ref 173, .ref 174, .ref 175, .ref 176, .ref 177, .ref 178, .ref 179, .ref 180, .ref 181, .ref 182, .ref 183, .ref 184, .ref 185, .ref 186, .ref 187, .ref 188, .ref 189, .ref 190, .ref 191, .ref 192, .ref 193, .ref 194, .ref 195, .ref 196, .ref 197, .ref 198, .ref 199, .ref 200, .ref 201, .ref 202, .ref 203, .ref 204, .ref 205, .ref 206, .ref 207, .ref 208, .ref 209, .ref 210, .ref 211, .ref 212, .ref 213, .ref 214, .ref 215, .ref 216, .ref 217, .ref 218, .ref 219, .ref 220, .ref 221, .ref 222, .ref 223, .ref 224, .ref 225, .ref 226, .ref 227, .ref 228, .ref 229, .ref 230, .ref 231, .ref 232, .ref 233, .ref 234, .ref 235, .ref 236, .ref 237, .ref 238, .ref 239, .ref 240, .ref 241, .ref 242, .ref 243, .ref 244, .ref 245, .ref 246, .ref 247, .ref 248, .ref 249, .ref 250, .ref 251, .ref 252, .ref 253, .ref 254, .ref 255, .ref 256, .ref 257], vm := .none },
  { cls := 8, slots := #[.long (-128)], vm := .none },
  { cls := 8, slots := #[.long (-127)], vm := .none },
  { cls := 8, slots := #[.long (-126)], vm := .none },
  { cls := 8, slots := #[.long (-125)], vm := .none },
  { cls := 8, slots := #[.long (-124)], vm := .none },
  { cls := 8, slots := #[.long (-123)], vm := .none },
  { cls := 8, slots := #[.long (-122)], vm := .none },
  { cls := 8, slots := #[.long (-121)], vm := .none },
  { cls := 8, slots := #[.long (-120)], vm := .none },
  { cls := 8, slots := #[.long (-119)], vm := .none },
  { cls := 8, slots := #[.long (-118)], vm := .none },
  { cls := 8, slots := #[.long (-117)], vm := .none },
  { cls := 8, slots := #[.long (-116)], vm := .none },
  { cls := 8, slots := #[.long (-115)], vm := .none },
  { cls := 8, slots := #[.long (-114)], vm := .none },
  { cls := 8, slots := #[.long (-113)], vm := .none },
  { cls := 8, slots := #[.long (-112)], vm := .none },
  { cls := 8, slots := #[.long (-111)], vm := .none },
  { cls := 8, slots := #[.long (-110)], vm := .none },
  { cls := 8, slots := #[.long (-109)], vm := .none },
  { cls := 8, slots := #[.long (-108)], vm := .none },
  { cls := 8, slots := #[.long (-107)], vm := .none },
  { cls := 8, slots := #[.long (-106)], vm := .none },
  { cls := 8, slots := #[.long (-105)], vm := .none },
  { cls := 8, slots := #[.long (-104)], vm := .none },
  { cls := 8, slots := #[.long (-103)], vm := .none },
  { cls := 8, slots := #[.long (-102)], vm := .none },
  { cls := 8, slots := #[.long (-101)], vm := .none },
  { cls := 8, slots := #[.long (-100)], vm := .none },
  { cls := 8, slots := #[.long (-99)], vm := .none },
  { cls := 8, slots := #[.long (-98)], vm := .none },
  { cls := 8, slots := #[.long (-97)], vm := .none },
  { cls := 8, slots := #[.long (-96)], vm := .none },
  { cls := 8, slots := #[.long (-95)], vm := .none },
  { cls := 8, slots := #[.long (-94)], vm := .none },
  { cls := 8, slots := #[.long (-93)], vm := .none },
  { cls := 8, slots := #[.long (-92)], vm := .none },
  { cls := 8, slots := #[.long (-91)], vm := .none },
  { cls := 8, slots := #[.long (-90)], vm := .none },
  { cls := 8, slots := #[.long (-89)], vm := .none },
  { cls := 8, slots := #[.long (-88)], vm := .none },
  { cls := 8, slots := #[.long (-87)], vm := .none },
  { cls := 8, slots := #[.long (-86)], vm := .none },
  { cls := 8, slots := #[.long (-85)], vm := .none },
  { cls := 8, slots := #[.long (-84)], vm := .none },
  { cls := 8, slots := #[.long (-83)], vm := .none },
  { cls := 8, slots := #[.long (-82)], vm := .none },
  { cls := 8, slots := #[.long (-81)], vm := .none },
  { cls := 8, slots := #[.long (-80)], vm := .none },
  { cls := 8, slots := #[.long (-79)], vm := .none },
  { cls := 8, slots := #[.long (-78)], vm := .none },
  { cls := 8, slots := #[.long (-77)], vm := .none },
  { cls := 8, slots := #[.long (-76)], vm := .none },
  { cls := 8, slots := #[.long (-75)], vm := .none },
  { cls := 8, slots := #[.long (-74)], vm := .none },
  { cls := 8, slots := #[.long (-73)], vm := .none },
  { cls := 8, slots := #[.long (-72)], vm := .none },
  { cls := 8, slots := #[.long (-71)], vm := .none },
  { cls := 8, slots := #[.long (-70)], vm := .none },
  { cls := 8, slots := #[.long (-69)], vm := .none },
  { cls := 8, slots := #[.long (-68)], vm := .none },
  { cls := 8, slots := #[.long (-67)], vm := .none },
  { cls := 8, slots := #[.long (-66)], vm := .none },
  { cls := 8, slots := #[.long (-65)], vm := .none },
  { cls := 8, slots := #[.long (-64)], vm := .none },
  { cls := 8, slots := #[.long (-63)], vm := .none },
  { cls := 8, slots := #[.long (-62)], vm := .none },
  { cls := 8, slots := #[.long (-61)], vm := .none },
  { cls := 8, slots := #[.long (-60)], vm := .none },
  { cls := 8, slots := #[.long (-59)], vm := .none },
  { cls := 8, slots := #[.long (-58)], vm := .none },
  { cls := 8, slots := #[.long (-57)], vm := .none },
  { cls := 8, slots := #[.long (-56)], vm := .none },
  { cls := 8, slots := #[.long (-55)], vm := .none },
  { cls := 8, slots := #[.long (-54)], vm := .none },
  { cls := 8, slots := #[.long (-53)], vm := .none },
  { cls := 8, slots := #[.long (-52)], vm := .none },
  { cls := 8, slots := #[.long (-51)], vm := .none },
  { cls := 8, slots := #[.long (-50)], vm := .none },
  { cls := 8, slots := #[.long (-49)], vm := .none },
  { cls := 8, slots := #[.long (-48)], vm := .none },
  { cls := 8, slots := #[.long (-47)], vm := .none },
  { cls := 8, slots := #[.long (-46)], vm := .none },
  { cls := 8, slots := #[.long (-45)], vm := .none },
  { cls := 8, slots := #[.long (-44)], vm := .none },
  { cls := 8, slots := #[.long (-43)], vm := .none },
  { cls := 8, slots := #[.long (-42)], vm := .none },
  { cls := 8, slots := #[.long (-41)], vm := .none },
  { cls := 8, slots := #[.long (-40)], vm := .none },
  { cls := 8, slots := #[.long (-39)], vm := .none },
  { cls := 8, slots := #[.long (-38)], vm := .none },
  { cls := 8, slots := #[.long (-37)], vm := .none },
  { cls := 8, slots := #[.long (-36)], vm := .none },
  { cls := 8, slots := #[.long (-35)], vm := .none },
  { cls := 8, slots := #[.long (-34)], vm := .none },
  { cls := 8, slots := #[.long (-33)], vm := .none },
  { cls := 8, slots := #[.long (-32)], vm := .none },
  { cls := 8, slots := #[.long (-31)], vm := .none },
  { cls := 8, slots := #[.long (-30)], vm := .none },
  { cls := 8, slots := #[.long (-29)], vm := .none },
  { cls := 8, slots := #[.long (-28)], vm := .none },
  { cls := 8, slots := #[.long (-27)], vm := .none },
  { cls := 8, slots := #[.long (-26)], vm := .none },
  { cls := 8, slots := #[.long (-25)], vm := .none },
  { cls := 8, slots := #[.long (-24)], vm := .none },
  { cls := 8, slots := #[.long (-23)], vm := .none },
  { cls := 8, slots := #[.long (-22)], vm := .none },
  { cls := 8, slots := #[.long (-21)], vm := .none },
  { cls := 8, slots := #[.long (-20)], vm := .none },
  { cls := 8, slots := #[.long (-19)], vm := .none },
  { cls := 8, slots := #[.long (-18)], vm := .none },
  { cls := 8, slots := #[.long (-17)], vm := .none },
  { cls := 8, slots := #[.long (-16)], vm := .none },
  { cls := 8, slots := #[.long (-15)], vm := .none },
  { cls := 8, slots := #[.long (-14)], vm := .none },
  { cls := 8, slots := #[.long (-13)], vm := .none },
  { cls := 8, slots := #[.long (-12)], vm := .none },
  { cls := 8, slots := #[.long (-11)], vm := .none },
  { cls := 8, slots := #[.long (-10)], vm := .none },
  { cls := 8, slots := #[.long (-9)], vm := .none },
  { cls := 8, slots := #[.long (-8)], vm := .none },
  { cls := 8, slots := #[.long (-7)], vm := .none },
  { cls := 8, slots := #[.long (-6)], vm := .none },
  { cls := 8, slots := #[.long (-5)], vm := .none },
  { cls := 8, slots := #[.long (-4)], vm := .none },
  { cls := 8, slots := #[.long (-3)], vm := .none },
  { cls := 8, slots := #[.long (-2)], vm := .none },
  { cls := 8, slots := #[.long (-1)], vm := .none },
  { cls := 8, slots := #[.long (0)], vm := .none },
  { cls := 8, slots := #[.long (1)], vm := .none },
  { cls := 8, slots := #[.long (2)], vm := .none },
  { cls := 8, slots := #[.long (3)], vm := .none },
  { cls := 8, slots := #[.long (4)], vm := .none },
  { cls := 8, slots := #[.long (5)], vm := .none },
  { cls := 8, slots := #[.long (6)], vm := .none },
  { cls := 8, slots := #[.long (7)], vm := .none },
  { cls := 8, slots := #[.long (8)], vm := .none },
  { cls := 8, slots := #[.long (9)], vm := .none },
  { cls := 8, slots := #[.long (10)], vm := .none },
  { cls := 8, slots := #[.long (11)], vm := .none },
  { cls := 8, slots := #[.long (12)], vm := .none },
  { cls := 8, slots := #[.long (13)], vm := .none },
  { cls := 8, slots := #[.long (14)], vm := .none },
  { cls := 8, slots := #[.long (15)], vm := .none },
  { cls := 8, slots := #[.long (16)], vm := .none },
  { cls := 8, slots := #[.long (17)], vm := .none },
  { cls := 8, slots := #[.long (18)], vm := .none },
  { cls := 8, slots := #[.long (19)], vm := .none },
  { cls := 8, slots := #[.long (20)], vm := .none },
  { cls := 8, slots := #[.long (21)], vm := .none },
  { cls := 8, slots := #[.long (22)], vm := .none },
  { cls := 8, slots := #[.long (23)], vm := .none },
  { cls := 8, slots := #[.long (24)], vm := .none },
  { cls := 8, slots := #[.long (25)], vm := .none },
  { cls := 8, slots := #[.long (26)], vm := .none },
  { cls := 8, slots := #[.long (27)], vm := .none },
  { cls := 8, slots := #[.long (28)], vm := .none },
  { cls := 8, slots := #[.long (29)], vm := .none },
  { cls := 8, slots := #[.long (30)], vm := .none },
  { cls := 8, slots := #[.long (31)], vm := .none },
  { cls := 8, slots := #[.long (32)], vm := .none },
  { cls := 8, slots := #[.long (33)], vm := .none },
  { cls := 8, slots := #[.long (34)], vm := .none },
  { cls := 8, slots := #[.long (35)], vm := .none },
  { cls := 8, slots := #[.long (36)], vm := .none },
  { cls := 8, slots := #[.long (37)], vm := .none },
  { cls := 8, slots := #[.long (38)], vm := .none },
  { cls := 8, slots := #[.long (39)], vm := .none },
  { cls := 8, slots := #[.long (40)], vm := .none },
  { cls := 8, slots := #[.long (41)], vm := .none },
  { cls := 8, slots := #[.long (42)], vm := .none },
  { cls := 8, slots := #[.long (43)], vm := .none },
  { cls := 8, slots := #[.long (44)], vm := .none },
  { cls := 8, slots := #[.long (45)], vm := .none },
  { cls := 8, slots := #[.long (46)], vm := .none },
  { cls := 8, slots := #[.long (47)], vm := .none },
  { cls := 8, slots := #[.long (48)], vm := .none },
  { cls := 8, slots := #[.long (49)], vm := .none },
  { cls := 8, slots := #[.long (50)], vm := .none },
  { cls := 8, slots := #[.long (51)], vm := .none },
  { cls := 8, slots := #[.long (52)], vm := .none },
  { cls := 8, slots := #[.long (53)], vm := .none },
  { cls := 8, slots := #[.long (54)], vm := .none },
  { cls := 8, slots := #[.long (55)], vm := .none },
  { cls := 8, slots := #[.long (56)], vm := .none },
  { cls := 8, slots := #[.long (57)], vm := .none },
  { cls := 8, slots := #[.long (58)], vm := .none },
  { cls := 8, slots := #[.long (59)], vm := .none },
  { cls := 8, slots := #[.long (60)], vm := .none },
  { cls := 8, slots := #[.long (61)], vm := .none },
  { cls := 8, slots := #[.long (62)], vm := .none },
  { cls := 8, slots := #[.long (63)], vm := .none },
  { cls := 8, slots := #[.long (64)], vm := .none },
  { cls := 8, slots := #[.long (65)], vm := .none },
  { cls := 8, slots := #[.long (66)], vm := .none },
  { cls := 8, slots := #[.long (67)], vm := .none },
  { cls := 8, slots := #[.long (68)], vm := .none },
  { cls := 8, slots := #[.long (69)], vm := .none },
  { cls := 8, slots := #[.long (70)], vm := .none },
  { cls := 8, slots := #[.long (71)], vm := .none },
  { cls := 8, slots := #[.long (72)], vm := .none },
  { cls := 8, slots := #[.long (73)], vm := .none },
  { cls := 8, slots := #[.long (74)], vm := .none },
  { cls := 8, slots := #[.long (75)], vm := .none },
  { cls := 8, slots := #[.long (76)], vm := .none },
  { cls := 8, slots := #[.long (77)], vm := .none },
  { cls := 8, slots := #[.long (78)], vm := .none },
  { cls := 8, slots := #[.long (79)], vm := .none },
  { cls := 8, slots := #[.long (80)], vm := .none },
  { cls := 8, slots := #[.long (81)], vm := .none },
  { cls := 8, slots := #[.long (82)], vm := .none },
  { cls := 8, slots := #[.long (83)], vm := .none },
  { cls := 8, slots := #[.long (84)], vm := .none },
  { cls := 8, slots := #[.long (85)], vm := .none },
  { cls := 8, slots := #[.long (86)], vm := .none },
  { cls := 8, slots := #[.long (87)], vm := .none },
  { cls := 8, slots := #[.long (88)], vm := .none },
  { cls := 8, slots := #[.long (89)], vm := .none },
  { cls := 8, slots := #[.long (90)], vm := .none },
  { cls := 8, slots := #[.long (91)], vm := .none },
  { cls := 8, slots := #[.long (92)], vm := .none },
  { cls := 8, slots := #[.long (93)], vm := .none },
  { cls := 8, slots := #[.long (94)], vm := .none },
  { cls := 8, slots := #[.long (95)], vm := .none },
  { cls := 8, slots := #[.long (96)], vm := .none },
  { cls := 8, slots := #[.long (97)], vm := .none },
  { cls := 8, slots := #[.long (98)], vm := .none },
  { cls := 8, slots := #[.long (99)], vm := .none },
  { cls := 8, slots := #[.long (100)], vm := .none },
  { cls := 8, slots := #[.long (101)], vm := .none },
  { cls := 8, slots := #[.long (102)], vm := .none },
  { cls := 8, slots := #[.long (103)], vm := .none },
  { cls := 8, slots := #[.long (104)], vm := .none },
  { cls := 8, slots := #[.long (105)], vm := .none },
  { cls := 8, slots := #[.long (106)], vm := .none },
  { cls := 8, slots := #[.long (107)], vm := .none },
  { cls := 8, slots := #[.long (108)], vm := .none },
  { cls := 8, slots := #[.long (109)], vm := .none },
  { cls := 8, slots := #[.long (110)], vm := .none },
  { cls := 8, slots := #[.long (111)], vm := .none },
  { cls := 8, slots := #[.long (112)], vm := .none },
  { cls := 8, slots := #[.long (113)], vm := .none },
  { cls := 8, slots := #[.long (114)], vm := .none },
  { cls := 8, slots := #[.long (115)], vm := .none },
  { cls := 8, slots := #[.long (116)], vm := .none },
  { cls := 8, slots := #[.long (117)], vm := .none },
  { cls := 8, slots := #[.long (118)], vm := .none },
  { cls := 8, slots := #[.long (119)], vm := .none },
  { cls := 8, slots := #[.long (120)], vm := .none },
  { cls := 8, slots := #[.long (121)], vm := .none },
  { cls := 8, slots := #[.long (122)], vm := .none },
  { cls := 8, slots := #[.long (123)], vm := .none },
  { cls := 8, slots := #[.long (124)], vm := .none },
  { cls := 8, slots := #[.long (125)], vm := .none },
  { cls := 8, slots := #[.long (126)], vm := .none },
  { cls := 8, slots := #[.long (127)], vm := .none }]
def classes : Array Class := #[k0, k1, k2, k3, k4, k5, k6, k7, k8, k9, k10, k11, k12, k13, k14, k15]
def interned : List (Array UInt16 × Addr) := []
def slotsUsed : Nat := 515
def theMethod : MethodId := ⟨1, 2⟩
def args0 : Array Value := #[.long 5, .long 6, .long 7, .long 8, .int 3]
def aboutOver (below : List Frame) : State where
  vm := { classes := classes, interned := interned.toArray }
  heap := heap
  slotsUsed := slotsUsed
  threads := #[{ frames := .invoking theMethod args0 :: below }]
def below0 : List Frame := [.native { method := ⟨0, 0⟩, args := #[] }]
def about1 : State := aboutOver below0
def p0 : Program := .bare "" "" ""
def e0 : Env := launch0.env 0 0 0
theorem w_frames : about1.frames = Frame.invoking theMethod args0 :: below0 := rfl
set_option maxRecDepth 65536 in
theorem w_args : argsFit about1.vm theMethod args0 = true := by decide +kernel
set_option maxRecDepth 65536 in
theorem w_heap : heapFits about1 = true := by decide +kernel
set_option maxRecDepth 65536 in
theorem w_runnable : about1.curStatus? = some .runnable := by decide +kernel
set_option maxRecDepth 65536 in
theorem w_alone : about1.alone = true := by decide +kernel
set_option maxRecDepth 65536 in
theorem w_named : about1.methodNamed? x = some theMethod := by decide +kernel
set_option maxRecDepth 65536 in
theorem w_hears : about1.hears theMethod below0 = true := by decide +kernel
set_option maxRecDepth 65536 in
theorem w_ripe : about1.ripe theMethod args0 below0 = true := by decide +kernel
theorem w_running : about1.status = .running := rfl
set_option maxRecDepth 65536 in
theorem w_room : about1.hasRoom e0.platform room_1 = true :=
  launch0.hasRoom_least _ room_1 (by decide +kernel) (by decide +kernel) (by decide +kernel) (by decide +kernel) (by decide +kernel) (by decide +kernel)
theorem allAtoms_all (ts : List Jvm.Cond) (a : Array Jvm.Value) (st : Jvm.State) : (allAtoms ts).before a st = ts.all (fun c => c.before a st) := by
  induction ts with
  | nil => rfl
  | cons c t ih =>
    show (Jvm.Cond.and c (allAtoms t)).before a st = _
    rw [Jvm.Cond.before_and, ih, List.all_cons]
def words1 : List Jvm.Cond := Jvm.Cond.code x code maxLocals ret :: tables_1
/-- a 'code' word, met by the world's own term for the bytes: nothing is compared byte by byte -/
theorem code_word {y : MethodName} {bytes : ByteArray} {mx : Nat} {rt : Option FieldType} {a : Array Value} {s : State} {m : MethodId} {meth : Method} {c : Code} (h1 : s.methodNamed? y = some m) (h2 : s.vm.method? m = some meth) (h3 : meth.code = some c) (h4 : c.code = bytes)
    (h5 : (c.maxLocals == mx && c.exceptionTable.isEmpty && decide (c.maxStack ≤ mostOperands) && decide (meth.sig.returnType = rt) && !meth.locks && decide (parseMethodDescriptor y.desc = some meth.sig)) = true) : (Jvm.Cond.code y bytes mx rt).before a s = true := by
  simp only [Bool.and_eq_true, beq_iff_eq, Bool.not_eq_true', decide_eq_true_eq] at h5
  obtain ⟨⟨⟨⟨⟨g1, g2⟩, g3⟩, g4⟩, g5⟩, g6⟩ := h5
  simp [Cond.before, Cond.holds, Cond.value, h1, h2, h3, h4, g1, g2, g3, g4, g5, g6]
def isCode : Jvm.Cond → Bool
  | .code _ _ _ _ => true
  | _ => false
theorem all_split {L : List Jvm.Cond} {P : Jvm.Cond → Bool} (h1 : L.all (fun c => isCode c || P c) = true) (h2 : ∀ c ∈ L.filter isCode, P c = true) : L.all P = true := by
  refine List.all_eq_true.mpr fun c hc => ?_
  have h := List.all_eq_true.mp h1 c hc
  rcases Bool.eq_false_or_eq_true (isCode c) with hi | hi
  · exact h2 c (List.mem_filter.mpr ⟨hc, hi⟩)
  · simpa [hi] using h
set_option maxRecDepth 65536 in
theorem w_c0 : (Jvm.Cond.code x code maxLocals ret).before args0 about1 = true := code_word (m := ⟨1, 2⟩) (meth := k1m2) (c := k1c2) (by decide +kernel) rfl rfl rfl (by decide +kernel)
set_option maxRecDepth 65536 in
theorem w_c1 : (Jvm.Cond.code ({ cls := "com/example/bouncer/bouncer/RequestIdEqualsPinLaw", name := "nz", desc := "(J)J" } : Jvm.MethodName) method_2_code (2 : Nat) (Option.some Jvm.ClassFile.FieldType.long)).before args0 about1 = true := code_word (m := ⟨1, 1⟩) (meth := k1m1) (c := k1c1) (by decide +kernel) rfl rfl rfl (by decide +kernel)
set_option maxRecDepth 65536 in
theorem w_c2 : (Jvm.Cond.code ({ cls := "com/example/bouncer/bouncer/RequestId", name := "<init>", desc := "(JJ)V" } : Jvm.MethodName) prog_12_method_1_code (5 : Nat) (Option.none : Option Jvm.ClassFile.FieldType)).before args0 about1 = true := code_word (m := ⟨2, 0⟩) (meth := k2m0) (c := k2c0) (by decide +kernel) rfl rfl rfl (by decide +kernel)
set_option maxRecDepth 65536 in
theorem w_c3 : (Jvm.Cond.code ({ cls := "java/lang/Object", name := "<init>", desc := "()V" } : Jvm.MethodName) object_method_1_code (1 : Nat) (Option.none : Option Jvm.ClassFile.FieldType)).before args0 about1 = true := code_word (m := ⟨0, 0⟩) (meth := k0m0) (c := k0c0) (by decide +kernel) rfl rfl rfl (by decide +kernel)
set_option maxRecDepth 65536 in
theorem w_c4 : (Jvm.Cond.code ({ cls := "java/lang/Long", name := "valueOf", desc := "(J)Ljava/lang/Long;" } : Jvm.MethodName) jdk_35_method_24_code (3 : Nat) (Option.some (Jvm.ClassFile.FieldType.object "java/lang/Long"))).before args0 about1 = true := code_word (m := ⟨8, 0⟩) (meth := k8m0) (c := k8c0) (by decide +kernel) rfl rfl rfl (by decide +kernel)
set_option maxRecDepth 65536 in
theorem w_c5 : (Jvm.Cond.code ({ cls := "com/example/bouncer/bouncer/RequestId", name := "equals", desc := "(Ljava/lang/Object;)Z" } : Jvm.MethodName) prog_12_method_5_code (3 : Nat) (Option.some Jvm.ClassFile.FieldType.boolean)).before args0 about1 = true := code_word (m := ⟨2, 1⟩) (meth := k2m1) (c := k2c1) (by decide +kernel) rfl rfl rfl (by decide +kernel)
set_option maxRecDepth 65536 in
theorem w_c6 : (Jvm.Cond.code ({ cls := "java/lang/Long", name := "<init>", desc := "(J)V" } : Jvm.MethodName) jdk_35_method_26_code (3 : Nat) (Option.none : Option Jvm.ClassFile.FieldType)).before args0 about1 = true := code_word (m := ⟨8, 1⟩) (meth := k8m1) (c := k8c1) (by decide +kernel) rfl rfl rfl (by decide +kernel)
set_option maxRecDepth 65536 in
theorem w_c7 : (Jvm.Cond.code ({ cls := "java/lang/Number", name := "<init>", desc := "()V" } : Jvm.MethodName) jdk_18_method_1_code (1 : Nat) (Option.none : Option Jvm.ClassFile.FieldType)).before args0 about1 = true := code_word (m := ⟨4, 0⟩) (meth := k4m0) (c := k4c0) (by decide +kernel) rfl rfl rfl (by decide +kernel)
def codes1 : List Jvm.Cond := [Jvm.Cond.code x code maxLocals ret, Jvm.Cond.code ({ cls := "com/example/bouncer/bouncer/RequestIdEqualsPinLaw", name := "nz", desc := "(J)J" } : Jvm.MethodName) method_2_code (2 : Nat) (Option.some Jvm.ClassFile.FieldType.long), Jvm.Cond.code ({ cls := "com/example/bouncer/bouncer/RequestId", name := "<init>", desc := "(JJ)V" } : Jvm.MethodName) prog_12_method_1_code (5 : Nat) (Option.none : Option Jvm.ClassFile.FieldType), Jvm.Cond.code ({ cls := "java/lang/Object", name := "<init>", desc := "()V" } : Jvm.MethodName) object_method_1_code (1 : Nat) (Option.none : Option Jvm.ClassFile.FieldType), Jvm.Cond.code ({ cls := "java/lang/Long", name := "valueOf", desc := "(J)Ljava/lang/Long;" } : Jvm.MethodName) jdk_35_method_24_code (3 : Nat) (Option.some (Jvm.ClassFile.FieldType.object "java/lang/Long")), Jvm.Cond.code ({ cls := "com/example/bouncer/bouncer/RequestId", name := "equals", desc := "(Ljava/lang/Object;)Z" } : Jvm.MethodName) prog_12_method_5_code (3 : Nat) (Option.some Jvm.ClassFile.FieldType.boolean), Jvm.Cond.code ({ cls := "java/lang/Long", name := "<init>", desc := "(J)V" } : Jvm.MethodName) jdk_35_method_26_code (3 : Nat) (Option.none : Option Jvm.ClassFile.FieldType), Jvm.Cond.code ({ cls := "java/lang/Number", name := "<init>", desc := "()V" } : Jvm.MethodName) jdk_18_method_1_code (1 : Nat) (Option.none : Option Jvm.ClassFile.FieldType)]
set_option maxRecDepth 65536 in
theorem codes_eq : words1.filter isCode = codes1 := rfl
theorem w_codes : ∀ c ∈ words1.filter isCode, c.before args0 about1 = true := by
  rw [codes_eq]
  intro c hc
  simp only [codes1, List.mem_cons, List.not_mem_nil, or_false] at hc
  rcases hc with rfl | rfl | rfl | rfl | rfl | rfl | rfl | rfl
  · exact w_c0
  · exact w_c1
  · exact w_c2
  · exact w_c3
  · exact w_c4
  · exact w_c5
  · exact w_c6
  · exact w_c7
set_option maxRecDepth 65536 in
theorem w_t1 : (words1.take 24).all (fun c => isCode c || c.before args0 about1) = true := by decide +kernel
set_option maxRecDepth 65536 in
theorem w_t2 : ((words1.drop 24).take 24).all (fun c => isCode c || c.before args0 about1) = true := by decide +kernel
set_option maxRecDepth 65536 in
theorem w_t3 : ((words1.drop 24).drop 24).all (fun c => isCode c || c.before args0 about1) = true := by decide +kernel
theorem w_tables : (allAtoms (Jvm.Cond.code x code maxLocals ret :: tables_1)).before args0 about1 = true := by
  rw [allAtoms_all]
  show words1.all (fun c => c.before args0 about1) = true
  refine all_split ?_ w_codes
  rw [← List.take_append_drop 24 words1, List.all_append, w_t1, ← List.take_append_drop 24 (words1.drop 24), List.all_append, w_t2, w_t3]
  rfl
set_option maxRecDepth 65536 in
theorem w_rest : rest_1_c.before args0 about1 = true := by decide +kernel
set_option maxRecDepth 65536 in
theorem w_case : (Jvm.Cond.and given_1 narrow_1).before args0 about1 = true := by decide +kernel
theorem w_applies : (headSpec (Jvm.Cond.code x code maxLocals ret :: tables_1) room_1).applies x e0.platform about1 = true :=
  (Spec.applies_iff w_frames).mpr ⟨w_running, w_runnable, w_alone, w_named, w_hears, w_ripe, w_room, w_tables⟩
theorem atStart : AtStart classFile x code maxLocals ret World_1 tables_1 room_1 Calls_1 rest_1 Pre_1 launch0 p0 e0 about1 theMethod args0 below0 :=
  ⟨lists_1, trivial, launch0.admits_env _ _ _, launch0.least_env, fairChoices_fair.cas, fairChoices_fair.clock, w_frames, w_args, w_heap, w_applies, trivial, w_rest, w_case⟩
end start1
theorem witness_1 : WitnessClaimed_1 := ⟨start1.p0, start1.e0, start1.about1, start1.theMethod, start1.args0, start1.below0, start1.atStart⟩
end Jvm.Pilot.@@N@@
