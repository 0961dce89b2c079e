import JvmDerived
import JvmDerived.Pilot.@@N@@Statement
import JvmDerived.Pilot.@@N@@Code
set_option linter.unusedVariables false
set_option linter.unusedSimpArgs false
namespace Jvm.RoadKit
open Sem ClassFile Op Lib Jvm.Stand Jvm.Free Jvm.LawKit
section New
variable {p : Program} {l : Launch} {e : Env} {R : Room} {s : State} {m : MethodId} {args : Array Value} {below : List Frame} {meth : Method} {c : Code} {T : State} {locs : List Loc} {cells slots : Nat}
theorem retI (X : Stand p l e R s m args below meth c T locs cells slots) (hx : p.tables.exec = Jvm.exec) {pc : Nat} {Ls : Array Slot} {z : Int32} {rest : List Value} (hret : meth.sig.returnType = some .int) (hd : decode c.code pc = .ok (.ireturn, 1)) {fs : List Frame}
    (hl : ∀ (f : JFrame) (acts : List Action), f.method = m → f.locked = none → f.entered = [] → (doReturn e (T.setTop f) acts (some (.int z))).1 = T.setFrames fs) : Steps p.tables e below (T.setTop (mkF m pc Ls (.int z :: rest))) (T.setFrames fs) :=
  retOut X hx hret rfl (Or.inl ⟨rfl, Or.inl rfl, z, rfl⟩) hd hl
theorem retJ (X : Stand p l e R s m args below meth c T locs cells slots) (hx : p.tables.exec = Jvm.exec) {pc : Nat} {Ls : Array Slot} {z : Int64} {rest : List Value} (hret : meth.sig.returnType = some .long) (hd : decode c.code pc = .ok (.lreturn, 1)) {fs : List Frame}
    (hl : ∀ (f : JFrame) (acts : List Action), f.method = m → f.locked = none → f.entered = [] → (doReturn e (T.setTop f) acts (some (.long z))).1 = T.setFrames fs) : Steps p.tables e below (T.setTop (mkF m pc Ls (.long z :: rest))) (T.setFrames fs) :=
  retOut X hx hret rfl (Or.inr (Or.inl ⟨rfl, rfl, z, rfl⟩)) hd hl
theorem narA {t : FieldType} {w : Value} (ht : t.isReference = true) (hw : w.isRef = true) : narrow t w = w := by
  rcases ref_cases hw with rfl | ⟨z, rfl⟩ <;> cases t <;> first | rfl | (simp [FieldType.isReference] at ht)
theorem retA (X : Stand p l e R s m args below meth c T locs cells slots) (hx : p.tables.exec = Jvm.exec) {pc : Nat} {Ls : Array Slot} {t : FieldType} {w : Value} {rest : List Value} (hret : meth.sig.returnType = some t) (ht : t.isReference = true) (hw : w.isRef = true) (hd : decode c.code pc = .ok (.areturn, 1)) {fs : List Frame}
    (hl : ∀ (f : JFrame) (acts : List Action), f.method = m → f.locked = none → f.entered = [] → (doReturn e (T.setTop f) acts (some w)).1 = T.setFrames fs) : Steps p.tables e below (T.setTop (mkF m pc Ls (w :: rest))) (T.setFrames fs) :=
  retOut X hx hret (narA ht hw) (Or.inr (Or.inr (Or.inr (Or.inr ⟨rfl, ht, hw⟩)))) hd hl
theorem own_pack {n0 : Nat} {L Lc : List Loc} {k n rc rs C S' : Nat} (X : Stand p l e R s m args below meth c T L k n) (hl : L = locs ++ Lc) (hk : k = cells + rc) (hn : n = slots + rs) (N : Fr n0 locs) (Nq : Fr n0 Lc) (hC : cells + rc = C) (hS : slots + rs = S') : ∃ lc, Stand p l e R s m args below meth c T lc C S' ∧ Fr n0 lc := by
  subst hl hk hn hC hS; exact ⟨_, X, N.app Nq⟩
theorem own_pack1 {n0 : Nat} {a : Addr} {sl : Nat} (X : Stand p l e R s m args below meth c T (locs ++ [⟨a, sl⟩]) cells slots) (N : Fr n0 locs) (q : n0 ≤ a) : ∃ lc, Stand p l e R s m args below meth c T lc cells slots ∧ Fr n0 lc := ⟨_, X, Fr.snoc X N q⟩
/-- the run from a comes to an end that Q allows -/
def own_G (tb : Tables) (e : Env) (below : List Frame) (s : State) (Q : Option Value → Heap → List Loc → Prop) (C S : Nat) (a : State) : Prop :=
  ∃ (t : State) (o : Outcome), Steps tb e below a t ∧ t.status = .running ∧ Ended t below o ∧ ∃ v L, o = .returned v ∧ Q v t.heap L ∧ FrameEnd s o t L C S
theorem own_thr {tb : Tables} {Q : Option Value → Heap → List Loc → Prop} {C S : Nat} {a b : State} (h : ∀ t, Steps tb e below a t → Steps tb e below b t) (g : own_G tb e below s Q C S a) : own_G tb e below s Q C S b := by
  obtain ⟨t, o, h1, h2⟩ := g; exact ⟨t, o, h t h1, h2⟩
theorem own_end (X : Stand p l e R s m args below meth c T locs cells slots) (hlk : meth.locks = false) {v : Option Value} (hv : meth.sig.returnType = none → v = none) {g : JFrame} {Q : Option Value → Heap → List Loc → Prop} {C S : Nat}
    (hr : ∀ fs, (∀ (f : JFrame) (acts : List Action), f.method = m → f.locked = none → f.entered = [] → (doReturn e (T.setTop f) acts v).1 = T.setFrames fs) → Steps p.tables e below (T.setTop g) (T.setFrames fs))
    (hQ : Q v T.heap locs) (hC : cells ≤ C) (hS : slots ≤ S) : own_G p.tables e below s Q C S (T.setTop g) := by
  obtain ⟨fs, hr', hrun, hended, hW, hsame⟩ := X.leave (v := v) hv hlk
  exact ⟨_, _, hr fs hr', hrun, hended, _, _, rfl, hQ, ⟨_, rfl⟩, hW, hsame.mono hC hS⟩
def own_GW (tb : Tables) (e : Env) (below : List Frame) (s : State) (Q : Option Value → Heap → List Loc → Prop) (C S : Nat) (a : State) : Prop :=
  ∃ (t : State) (o : Outcome), Steps tb e below a t ∧ t.status = .running ∧ Ended t below o ∧ ∃ v L, o = .returned v ∧ Q v t.heap L ∧ ReturnedEndW s o t L C S
theorem own_thrW {tb : Tables} {Q : Option Value → Heap → List Loc → Prop} {C S : Nat} {a b : State} (h : ∀ t, Steps tb e below a t → Steps tb e below b t) (g : own_GW tb e below s Q C S a) : own_GW tb e below s Q C S b := by
  obtain ⟨t, o, h1, h2⟩ := g; exact ⟨t, o, h t h1, h2⟩
theorem own_endW {vm₁ : Vm} {k : Nat} (X : Stand p l e R (s.setVm vm₁) m args below meth c T locs cells slots) (hS : s.Since vm₁ k) (hk : k ≤ T.heap.size) (hlk : meth.locks = false) {v : Option Value} (hv : meth.sig.returnType = none → v = none) {g : JFrame} {Q : Option Value → Heap → List Loc → Prop} {C S : Nat}
    (hr : ∀ fs, (∀ (f : JFrame) (acts : List Action), f.method = m → f.locked = none → f.entered = [] → (doReturn e (T.setTop f) acts v).1 = T.setFrames fs) → Steps p.tables e below (T.setTop g) (T.setFrames fs))
    (hQ : Q v T.heap locs) (hC : cells ≤ C) (hSl : slots ≤ S) : own_GW p.tables e below s Q C S (T.setTop g) := by
  obtain ⟨fs, hr', hrun, hended, hret, hW, hint, hsame⟩ := X.leaveW hS hk (v := v) hv hlk
  exact ⟨_, _, hr fs hr', hrun, hended, _, _, rfl, hQ, ⟨_, rfl⟩, hW, hint, hsame.mono hC hSl⟩
end New
end Jvm.RoadKit
namespace Jvm.Pilot.@@N@@
open Jvm Jvm.ClassFile Sem Op Lib Jvm.Free Jvm.Stand Jvm.LawKit Jvm.RoadKit Bundle Jvm.Pilot.@@N@@.Jvm.D
theorem d1_0 : decode method_2_code 0 = .ok (.iload_n 0, 1) := by decide +kernel
theorem d1_1 : decode method_2_code 1 = .ok (.ifCond .ne 5, 3) := by decide +kernel
theorem d1_4 : decode method_2_code 4 = .ok (.lconst 0, 1) := by decide +kernel
theorem d1_5 : decode method_2_code 5 = .ok (.lreturn, 1) := by decide +kernel
theorem d1_6 : decode method_2_code 6 = .ok (.iload_n 0, 1) := by decide +kernel
theorem d1_7 : decode method_2_code 7 = .ok (.iconst 1, 1) := by decide +kernel
theorem d1_8 : decode method_2_code 8 = .ok (.if_icmp .ne 7, 3) := by decide +kernel
theorem d1_11 : decode method_2_code 11 = .ok (.ldc2_w 7, 3) := by decide +kernel
theorem d1_14 : decode method_2_code 14 = .ok (.lreturn, 1) := by decide +kernel
theorem d1_15 : decode method_2_code 15 = .ok (.iload_n 0, 1) := by decide +kernel
theorem d1_16 : decode method_2_code 16 = .ok (.iconst 2, 1) := by decide +kernel
theorem d1_17 : decode method_2_code 17 = .ok (.if_icmp .ne 7, 3) := by decide +kernel
theorem d1_20 : decode method_2_code 20 = .ok (.ldc2_w 9, 3) := by decide +kernel
theorem d1_23 : decode method_2_code 23 = .ok (.lreturn, 1) := by decide +kernel
theorem d1_24 : decode method_2_code 24 = .ok (.iload_n 0, 1) := by decide +kernel
theorem d1_25 : decode method_2_code 25 = .ok (.iconst 3, 1) := by decide +kernel
theorem d1_26 : decode method_2_code 26 = .ok (.if_icmp .ne 7, 3) := by decide +kernel
theorem d1_29 : decode method_2_code 29 = .ok (.ldc2_w 11, 3) := by decide +kernel
theorem d1_32 : decode method_2_code 32 = .ok (.lreturn, 1) := by decide +kernel
theorem d1_33 : decode method_2_code 33 = .ok (.iload_n 0, 1) := by decide +kernel
theorem d1_34 : decode method_2_code 34 = .ok (.iconst 4, 1) := by decide +kernel
theorem d1_35 : decode method_2_code 35 = .ok (.if_icmp .ne 7, 3) := by decide +kernel
theorem d1_38 : decode method_2_code 38 = .ok (.ldc2_w 15, 3) := by decide +kernel
theorem d1_41 : decode method_2_code 41 = .ok (.lreturn, 1) := by decide +kernel
theorem d1_42 : decode method_2_code 42 = .ok (.iload_n 0, 1) := by decide +kernel
theorem d1_43 : decode method_2_code 43 = .ok (.iconst 5, 1) := by decide +kernel
theorem d1_44 : decode method_2_code 44 = .ok (.if_icmp .ne 7, 3) := by decide +kernel
theorem d1_47 : decode method_2_code 47 = .ok (.ldc2_w 17, 3) := by decide +kernel
theorem d1_50 : decode method_2_code 50 = .ok (.lreturn, 1) := by decide +kernel
theorem d1_51 : decode method_2_code 51 = .ok (.iload_n 0, 1) := by decide +kernel
theorem d1_52 : decode method_2_code 52 = .ok (.bipush 6, 2) := by decide +kernel
theorem d1_54 : decode method_2_code 54 = .ok (.if_icmp .ne 7, 3) := by decide +kernel
theorem d1_57 : decode method_2_code 57 = .ok (.ldc2_w 19, 3) := by decide +kernel
theorem d1_60 : decode method_2_code 60 = .ok (.lreturn, 1) := by decide +kernel
theorem d1_61 : decode method_2_code 61 = .ok (.ldc2_w 21, 3) := by decide +kernel
theorem d1_64 : decode method_2_code 64 = .ok (.lreturn, 1) := by decide +kernel
theorem pn_com_example_lexint_lexint_LengthEncodedIntEncodedLengthPinLaw : plainName "com/example/lexint/lexint/LengthEncodedIntEncodedLengthPinLaw" = true := by first | (simp [plainName, overriddenIn]; done) | decide +kernel
theorem ef_rmB (m : MethodId) (p0 : Int32)  : entryFrame m #[(.int p0)] 1 = mkF m 0 #[.val (.int p0)] [] := by first |  (simp [entryFrame, mkF, argsToLocals, Value.category]; done) | rfl
def f_rmB (p0 : Int32) : Int64 := if p0 = (0 : Int32) then (0 : Int64) else if p0 = (1 : Int32) then (250 : Int64) else if p0 = (2 : Int32) then (65535 : Int64) else if p0 = (3 : Int32) then (16777215 : Int64) else if p0 = (4 : Int32) then (9223372036854775807 : Int64) else if p0 = (5 : Int32) then (255 : Int64) else if p0 = (6 : Int32) then (4294967295 : Int64) else (128 : Int64)
def Q_rmB (Z : State) (p0 : Int32) (h0 : Heap) (n0 : Nat) (v : Option Value) (h : Heap) (L : List Loc) : Prop := v = some (.long (f_rmB p0)) ∧ Fr n0 L ∧ h = h0
set_option maxRecDepth 65536 in
set_option maxHeartbeats 40000000 in
theorem rmB (l : Launch) (Z : State) (a0 : Array Value) (hw : ∀ d ∈ tables_1, d.before a0 Z = true) (ws : List Jvm.Cond) (p0 : Int32) (h0 : Heap) (n0 : Nat) (Z0 : n0 ≤ h0.size) :
    MetFree l (⟨"com/example/lexint/lexint/LengthEncodedIntEncodedLengthPinLaw", "base", "(I)J"⟩ : MethodName) (head1 (Jvm.Cond.code (⟨"com/example/lexint/lexint/LengthEncodedIntEncodedLengthPinLaw", "base", "(I)J"⟩ : MethodName) method_2_code 1 (some .long) :: ws) ({ frames := 0, cells := 0, slots := 0, locals := 0 } : Room)) (fun a U => a = #[(.int p0)] ∧ Z.Warmed39 U.vm ∧ U.heap = h0) (fun _ _ _ _ _ => True) (fun _ U o U' => ∃ v L, o = .returned v ∧ Q_rmB Z p0 h0 n0 v U'.heap L ∧ FrameEnd U o U' L ({ frames := 0, cells := 0, slots := 0, locals := 0 } : Room).cells ({ frames := 0, cells := 0, slots := 0, locals := 0 } : Room).slots) := by
  refine MetFree.of_bodySF (plainFor_of_name pn_com_example_lexint_lexint_LengthEncodedIntEncodedLengthPinLaw) hisR ?_
  intro p e s m args below meth c s₁ Bd hml0 hP hK
  obtain ⟨rfl, hZ, hh⟩ := hP
  have hx := Bd.exec
  have hby := Bd.bytes
  have hml : c.maxLocals = 1 := hml0
  have hown : s.vm.findClass "com/example/lexint/lexint/LengthEncodedIntEncodedLengthPinLaw" = some m.cls := findClass_of_methodNamed Bd.named
  have hnm := (name_of_methodNamed Bd.named Bd.method).1
  have hlk := Bd.notSynchronized
  have X0 : Stand p l e ({ frames := 0, cells := 0, slots := 0, locals := 0 } : Room) s m #[(.int p0)] below meth c s₁ [] 0 0 := Stand.of_body Bd
  have e0 : s₁.heap = h0 := by rw [← hh, Bd.state]; rfl
  have N0 := Fr.nil n0
  show own_G p.tables e below s (Q_rmB Z p0 h0 n0) ({ frames := 0, cells := 0, slots := 0, locals := 0 } : Room).cells ({ frames := 0, cells := 0, slots := 0, locals := 0 } : Room).slots _
  refine own_thr (a := s₁.setTop (mkF m 0 #[.val (.int p0)] [])) (fun t kt => castTop (ef_rmB m p0) kt) ?_
  refine own_thr (a := s₁.setTop (mkF m 1 #[.val (.int p0)] [(.int p0)])) (fun t kt => ?_) ?_
  · show Steps p.tables e below (s₁.setTop (mkF m 0 #[.val (.int p0)] [])) _
    refine XS.iloadN X0.here hx rfl (hb hby d1_0) rfl ?_
    exact kt
  by_cases hc1 : p0 = (0 : Int32)
  · refine own_thr (a := s₁.setTop (mkF m 5 #[.val (.int p0)] [(.long (0 : Int64))])) (fun t kt => ?_) ?_
    · show Steps p.tables e below (s₁.setTop (mkF m 1 #[.val (.int p0)] [(.int p0)])) _
      refine XS.ifNo X0.here hx rfl (hb hby d1_1) rfl ((if0 _ _).trans (teq hc1).2) ?_
      show Steps p.tables e below (s₁.setTop (mkF m 4 #[.val (.int p0)] [])) _
      refine XS.lconst X0.here hx rfl (hb hby d1_4) ?_
      exact kt
    exact own_end X0 hlk (v := some (.long (0 : Int64))) (fun h => by rw [Bd.returns] at h; cases h) (fun fs hr => retJ X0 hx Bd.returns (hb hby d1_5) hr) (by rw [e0]; exact ⟨(by rw [f_rmB, if_pos hc1]), N0, rfl⟩) (by decide : 0 ≤ _) (by decide : 0 ≤ _)
  · refine own_thr (a := s₁.setTop (mkF m 8 #[.val (.int p0)] [(.int (1 : Int32)), (.int p0)])) (fun t kt => ?_) ?_
    · show Steps p.tables e below (s₁.setTop (mkF m 1 #[.val (.int p0)] [(.int p0)])) _
      refine XS.ifYes X0.here hx rfl (pc0 := 1) (pc' := 6) rfl (hb hby d1_1) rfl ((if0 _ _).trans (feq hc1).2) (by decide) (by decide) ?_
      show Steps p.tables e below (s₁.setTop (mkF m 6 #[.val (.int p0)] [])) _
      refine XS.iloadN X0.here hx rfl (hb hby d1_6) rfl ?_
      show Steps p.tables e below (s₁.setTop (mkF m 7 #[.val (.int p0)] [(.int p0)])) _
      refine XS.iconst X0.here hx rfl (hb hby d1_7) ?_
      exact kt
    by_cases hc2 : p0 = (1 : Int32)
    · refine own_thr (a := s₁.setTop (mkF m 14 #[.val (.int p0)] [(.long (250 : Int64))])) (fun t kt => ?_) ?_
      · show Steps p.tables e below (s₁.setTop (mkF m 8 #[.val (.int p0)] [(.int (1 : Int32)), (.int p0)])) _
        refine XS.icmpNo X0.here hx rfl (hb hby d1_8) rfl (teq hc2).2 ?_
        show Steps p.tables e below (s₁.setTop (mkF m 11 #[.val (.int p0)] [])) _
        refine X0.ldc2Long hx hown (mvT hZ (hw _ (List.mem_of_getElem? (i := 24) rfl))) (g := (mkF m 11 #[.val (.int p0)] [])) rfl (hb hby d1_11) _ ?_
        exact kt
      exact own_end X0 hlk (v := some (.long (250 : Int64))) (fun h => by rw [Bd.returns] at h; cases h) (fun fs hr => retJ X0 hx Bd.returns (hb hby d1_14) hr) (by rw [e0]; exact ⟨(by rw [f_rmB, if_neg hc1, if_pos hc2]), N0, rfl⟩) (by decide : 0 ≤ _) (by decide : 0 ≤ _)
    · refine own_thr (a := s₁.setTop (mkF m 17 #[.val (.int p0)] [(.int (2 : Int32)), (.int p0)])) (fun t kt => ?_) ?_
      · show Steps p.tables e below (s₁.setTop (mkF m 8 #[.val (.int p0)] [(.int (1 : Int32)), (.int p0)])) _
        refine XS.icmpYes X0.here hx rfl (pc0 := 8) (pc' := 15) rfl (hb hby d1_8) rfl (feq hc2).2 (by decide) (by decide) ?_
        show Steps p.tables e below (s₁.setTop (mkF m 15 #[.val (.int p0)] [])) _
        refine XS.iloadN X0.here hx rfl (hb hby d1_15) rfl ?_
        show Steps p.tables e below (s₁.setTop (mkF m 16 #[.val (.int p0)] [(.int p0)])) _
        refine XS.iconst X0.here hx rfl (hb hby d1_16) ?_
        exact kt
      by_cases hc3 : p0 = (2 : Int32)
      · refine own_thr (a := s₁.setTop (mkF m 23 #[.val (.int p0)] [(.long (65535 : Int64))])) (fun t kt => ?_) ?_
        · show Steps p.tables e below (s₁.setTop (mkF m 17 #[.val (.int p0)] [(.int (2 : Int32)), (.int p0)])) _
          refine XS.icmpNo X0.here hx rfl (hb hby d1_17) rfl (teq hc3).2 ?_
          show Steps p.tables e below (s₁.setTop (mkF m 20 #[.val (.int p0)] [])) _
          refine X0.ldc2Long hx hown (mvT hZ (hw _ (List.mem_of_getElem? (i := 26) rfl))) (g := (mkF m 20 #[.val (.int p0)] [])) rfl (hb hby d1_20) _ ?_
          exact kt
        exact own_end X0 hlk (v := some (.long (65535 : Int64))) (fun h => by rw [Bd.returns] at h; cases h) (fun fs hr => retJ X0 hx Bd.returns (hb hby d1_23) hr) (by rw [e0]; exact ⟨(by rw [f_rmB, if_neg hc1, if_neg hc2, if_pos hc3]), N0, rfl⟩) (by decide : 0 ≤ _) (by decide : 0 ≤ _)
      · refine own_thr (a := s₁.setTop (mkF m 26 #[.val (.int p0)] [(.int (3 : Int32)), (.int p0)])) (fun t kt => ?_) ?_
        · show Steps p.tables e below (s₁.setTop (mkF m 17 #[.val (.int p0)] [(.int (2 : Int32)), (.int p0)])) _
          refine XS.icmpYes X0.here hx rfl (pc0 := 17) (pc' := 24) rfl (hb hby d1_17) rfl (feq hc3).2 (by decide) (by decide) ?_
          show Steps p.tables e below (s₁.setTop (mkF m 24 #[.val (.int p0)] [])) _
          refine XS.iloadN X0.here hx rfl (hb hby d1_24) rfl ?_
          show Steps p.tables e below (s₁.setTop (mkF m 25 #[.val (.int p0)] [(.int p0)])) _
          refine XS.iconst X0.here hx rfl (hb hby d1_25) ?_
          exact kt
        by_cases hc4 : p0 = (3 : Int32)
        · refine own_thr (a := s₁.setTop (mkF m 32 #[.val (.int p0)] [(.long (16777215 : Int64))])) (fun t kt => ?_) ?_
          · show Steps p.tables e below (s₁.setTop (mkF m 26 #[.val (.int p0)] [(.int (3 : Int32)), (.int p0)])) _
            refine XS.icmpNo X0.here hx rfl (hb hby d1_26) rfl (teq hc4).2 ?_
            show Steps p.tables e below (s₁.setTop (mkF m 29 #[.val (.int p0)] [])) _
            refine X0.ldc2Long hx hown (mvT hZ (hw _ (List.mem_of_getElem? (i := 27) rfl))) (g := (mkF m 29 #[.val (.int p0)] [])) rfl (hb hby d1_29) _ ?_
            exact kt
          exact own_end X0 hlk (v := some (.long (16777215 : Int64))) (fun h => by rw [Bd.returns] at h; cases h) (fun fs hr => retJ X0 hx Bd.returns (hb hby d1_32) hr) (by rw [e0]; exact ⟨(by rw [f_rmB, if_neg hc1, if_neg hc2, if_neg hc3, if_pos hc4]), N0, rfl⟩) (by decide : 0 ≤ _) (by decide : 0 ≤ _)
        · refine own_thr (a := s₁.setTop (mkF m 35 #[.val (.int p0)] [(.int (4 : Int32)), (.int p0)])) (fun t kt => ?_) ?_
          · show Steps p.tables e below (s₁.setTop (mkF m 26 #[.val (.int p0)] [(.int (3 : Int32)), (.int p0)])) _
            refine XS.icmpYes X0.here hx rfl (pc0 := 26) (pc' := 33) rfl (hb hby d1_26) rfl (feq hc4).2 (by decide) (by decide) ?_
            show Steps p.tables e below (s₁.setTop (mkF m 33 #[.val (.int p0)] [])) _
            refine XS.iloadN X0.here hx rfl (hb hby d1_33) rfl ?_
            show Steps p.tables e below (s₁.setTop (mkF m 34 #[.val (.int p0)] [(.int p0)])) _
            refine XS.iconst X0.here hx rfl (hb hby d1_34) ?_
            exact kt
          by_cases hc5 : p0 = (4 : Int32)
          · refine own_thr (a := s₁.setTop (mkF m 41 #[.val (.int p0)] [(.long (9223372036854775807 : Int64))])) (fun t kt => ?_) ?_
            · show Steps p.tables e below (s₁.setTop (mkF m 35 #[.val (.int p0)] [(.int (4 : Int32)), (.int p0)])) _
              refine XS.icmpNo X0.here hx rfl (hb hby d1_35) rfl (teq hc5).2 ?_
              show Steps p.tables e below (s₁.setTop (mkF m 38 #[.val (.int p0)] [])) _
              refine X0.ldc2Long hx hown (mvT hZ (hw _ (List.mem_of_getElem? (i := 31) rfl))) (g := (mkF m 38 #[.val (.int p0)] [])) rfl (hb hby d1_38) _ ?_
              exact kt
            exact own_end X0 hlk (v := some (.long (9223372036854775807 : Int64))) (fun h => by rw [Bd.returns] at h; cases h) (fun fs hr => retJ X0 hx Bd.returns (hb hby d1_41) hr) (by rw [e0]; exact ⟨(by rw [f_rmB, if_neg hc1, if_neg hc2, if_neg hc3, if_neg hc4, if_pos hc5]), N0, rfl⟩) (by decide : 0 ≤ _) (by decide : 0 ≤ _)
          · refine own_thr (a := s₁.setTop (mkF m 44 #[.val (.int p0)] [(.int (5 : Int32)), (.int p0)])) (fun t kt => ?_) ?_
            · show Steps p.tables e below (s₁.setTop (mkF m 35 #[.val (.int p0)] [(.int (4 : Int32)), (.int p0)])) _
              refine XS.icmpYes X0.here hx rfl (pc0 := 35) (pc' := 42) rfl (hb hby d1_35) rfl (feq hc5).2 (by decide) (by decide) ?_
              show Steps p.tables e below (s₁.setTop (mkF m 42 #[.val (.int p0)] [])) _
              refine XS.iloadN X0.here hx rfl (hb hby d1_42) rfl ?_
              show Steps p.tables e below (s₁.setTop (mkF m 43 #[.val (.int p0)] [(.int p0)])) _
              refine XS.iconst X0.here hx rfl (hb hby d1_43) ?_
              exact kt
            by_cases hc6 : p0 = (5 : Int32)
            · refine own_thr (a := s₁.setTop (mkF m 50 #[.val (.int p0)] [(.long (255 : Int64))])) (fun t kt => ?_) ?_
              · show Steps p.tables e below (s₁.setTop (mkF m 44 #[.val (.int p0)] [(.int (5 : Int32)), (.int p0)])) _
                refine XS.icmpNo X0.here hx rfl (hb hby d1_44) rfl (teq hc6).2 ?_
                show Steps p.tables e below (s₁.setTop (mkF m 47 #[.val (.int p0)] [])) _
                refine X0.ldc2Long hx hown (mvT hZ (hw _ (List.mem_of_getElem? (i := 25) rfl))) (g := (mkF m 47 #[.val (.int p0)] [])) rfl (hb hby d1_47) _ ?_
                exact kt
              exact own_end X0 hlk (v := some (.long (255 : Int64))) (fun h => by rw [Bd.returns] at h; cases h) (fun fs hr => retJ X0 hx Bd.returns (hb hby d1_50) hr) (by rw [e0]; exact ⟨(by rw [f_rmB, if_neg hc1, if_neg hc2, if_neg hc3, if_neg hc4, if_neg hc5, if_pos hc6]), N0, rfl⟩) (by decide : 0 ≤ _) (by decide : 0 ≤ _)
            · refine own_thr (a := s₁.setTop (mkF m 54 #[.val (.int p0)] [(.int (6 : Int32)), (.int p0)])) (fun t kt => ?_) ?_
              · show Steps p.tables e below (s₁.setTop (mkF m 44 #[.val (.int p0)] [(.int (5 : Int32)), (.int p0)])) _
                refine XS.icmpYes X0.here hx rfl (pc0 := 44) (pc' := 51) rfl (hb hby d1_44) rfl (feq hc6).2 (by decide) (by decide) ?_
                show Steps p.tables e below (s₁.setTop (mkF m 51 #[.val (.int p0)] [])) _
                refine XS.iloadN X0.here hx rfl (hb hby d1_51) rfl ?_
                show Steps p.tables e below (s₁.setTop (mkF m 52 #[.val (.int p0)] [(.int p0)])) _
                refine XS.bipush X0.here hx rfl (hb hby d1_52) ?_
                exact kt
              by_cases hc7 : p0 = (6 : Int32)
              · refine own_thr (a := s₁.setTop (mkF m 60 #[.val (.int p0)] [(.long (4294967295 : Int64))])) (fun t kt => ?_) ?_
                · show Steps p.tables e below (s₁.setTop (mkF m 54 #[.val (.int p0)] [(.int (6 : Int32)), (.int p0)])) _
                  refine XS.icmpNo X0.here hx rfl (hb hby d1_54) rfl (teq hc7).2 ?_
                  show Steps p.tables e below (s₁.setTop (mkF m 57 #[.val (.int p0)] [])) _
                  refine X0.ldc2Long hx hown (mvT hZ (hw _ (List.mem_of_getElem? (i := 30) rfl))) (g := (mkF m 57 #[.val (.int p0)] [])) rfl (hb hby d1_57) _ ?_
                  exact kt
                exact own_end X0 hlk (v := some (.long (4294967295 : Int64))) (fun h => by rw [Bd.returns] at h; cases h) (fun fs hr => retJ X0 hx Bd.returns (hb hby d1_60) hr) (by rw [e0]; exact ⟨(by rw [f_rmB, if_neg hc1, if_neg hc2, if_neg hc3, if_neg hc4, if_neg hc5, if_neg hc6, if_pos hc7]), N0, rfl⟩) (by decide : 0 ≤ _) (by decide : 0 ≤ _)
              · refine own_thr (a := s₁.setTop (mkF m 64 #[.val (.int p0)] [(.long (128 : Int64))])) (fun t kt => ?_) ?_
                · show Steps p.tables e below (s₁.setTop (mkF m 54 #[.val (.int p0)] [(.int (6 : Int32)), (.int p0)])) _
                  refine XS.icmpYes X0.here hx rfl (pc0 := 54) (pc' := 61) rfl (hb hby d1_54) rfl (feq hc7).2 (by decide) (by decide) ?_
                  show Steps p.tables e below (s₁.setTop (mkF m 61 #[.val (.int p0)] [])) _
                  refine X0.ldc2Long hx hown (mvT hZ (hw _ (List.mem_of_getElem? (i := 29) rfl))) (g := (mkF m 61 #[.val (.int p0)] [])) rfl (hb hby d1_61) _ ?_
                  exact kt
                exact own_end X0 hlk (v := some (.long (128 : Int64))) (fun h => by rw [Bd.returns] at h; cases h) (fun fs hr => retJ X0 hx Bd.returns (hb hby d1_64) hr) (by rw [e0]; exact ⟨(by rw [f_rmB, if_neg hc1, if_neg hc2, if_neg hc3, if_neg hc4, if_neg hc5, if_neg hc6, if_neg hc7]), N0, rfl⟩) (by decide : 0 ≤ _) (by decide : 0 ≤ _)
theorem d5_0 : decode method_3_code 0 = .ok (.lload_n 0, 1) := by decide +kernel
theorem d5_1 : decode method_3_code 1 = .ok (.lconst 0, 1) := by decide +kernel
theorem d5_2 : decode method_3_code 2 = .ok (.lcmp, 1) := by decide +kernel
theorem d5_3 : decode method_3_code 3 = .ok (.ifCond .ge 6, 3) := by decide +kernel
theorem d5_6 : decode method_3_code 6 = .ok (.bipush 9, 2) := by decide +kernel
theorem d5_8 : decode method_3_code 8 = .ok (.ireturn, 1) := by decide +kernel
theorem d5_9 : decode method_3_code 9 = .ok (.lload_n 0, 1) := by decide +kernel
theorem d5_10 : decode method_3_code 10 = .ok (.ldc2_w 7, 3) := by decide +kernel
theorem d5_13 : decode method_3_code 13 = .ok (.lcmp, 1) := by decide +kernel
theorem d5_14 : decode method_3_code 14 = .ok (.ifCond .gt 5, 3) := by decide +kernel
theorem d5_19 : decode method_3_code 19 = .ok (.lload_n 0, 1) := by decide +kernel
theorem d5_20 : decode method_3_code 20 = .ok (.ldc2_w 9, 3) := by decide +kernel
theorem d5_23 : decode method_3_code 23 = .ok (.lcmp, 1) := by decide +kernel
theorem d5_24 : decode method_3_code 24 = .ok (.ifCond .gt 5, 3) := by decide +kernel
theorem d5_29 : decode method_3_code 29 = .ok (.lload_n 0, 1) := by decide +kernel
theorem d5_30 : decode method_3_code 30 = .ok (.ldc2_w 11, 3) := by decide +kernel
theorem d5_33 : decode method_3_code 33 = .ok (.lcmp, 1) := by decide +kernel
theorem d5_34 : decode method_3_code 34 = .ok (.ifCond .gt 5, 3) := by decide +kernel
theorem d5_39 : decode method_3_code 39 = .ok (.bipush 9, 2) := by decide +kernel
theorem d5_41 : decode method_3_code 41 = .ok (.ireturn, 1) := by decide +kernel
theorem d5_37 : decode method_3_code 37 = .ok (.iconst 4, 1) := by decide +kernel
theorem d5_38 : decode method_3_code 38 = .ok (.ireturn, 1) := by decide +kernel
theorem d5_27 : decode method_3_code 27 = .ok (.iconst 3, 1) := by decide +kernel
theorem d5_28 : decode method_3_code 28 = .ok (.ireturn, 1) := by decide +kernel
theorem d5_17 : decode method_3_code 17 = .ok (.iconst 1, 1) := by decide +kernel
theorem d5_18 : decode method_3_code 18 = .ok (.ireturn, 1) := by decide +kernel
theorem ef_rmX (m : MethodId) (q0 : Int64)  : entryFrame m #[(.long q0)] 2 = mkF m 0 #[.val (.long q0), .second] [] := by first |  (simp [entryFrame, mkF, argsToLocals, Value.category]; done) | rfl
def f_rmX (q0 : Int64) : Int32 := if q0 < (0 : Int64) then (9 : Int32) else if (250 : Int64) < q0 then (if (65535 : Int64) < q0 then (if (16777215 : Int64) < q0 then (9 : Int32) else (4 : Int32)) else (3 : Int32)) else (1 : Int32)
def Q_rmX (Z : State) (q0 : Int64) (h0 : Heap) (n0 : Nat) (v : Option Value) (h : Heap) (L : List Loc) : Prop := v = some (.int (f_rmX q0)) ∧ Fr n0 L ∧ h = h0
set_option maxRecDepth 65536 in
set_option maxHeartbeats 40000000 in
theorem rmX (l : Launch) (Z : State) (a0 : Array Value) (hw : ∀ d ∈ tables_1, d.before a0 Z = true) (ws : List Jvm.Cond) (q0 : Int64) (h0 : Heap) (n0 : Nat) (Z0 : n0 ≤ h0.size) :
    MetFree l (⟨"com/example/lexint/lexint/LengthEncodedIntEncodedLengthPinLaw", "expected", "(J)I"⟩ : MethodName) (head1 (Jvm.Cond.code (⟨"com/example/lexint/lexint/LengthEncodedIntEncodedLengthPinLaw", "expected", "(J)I"⟩ : MethodName) method_3_code 2 (some .int) :: ws) ({ frames := 0, cells := 0, slots := 0, locals := 0 } : Room)) (fun a U => a = #[(.long q0)] ∧ Z.Warmed39 U.vm ∧ U.heap = h0) (fun _ _ _ _ _ => True) (fun _ U o U' => ∃ v L, o = .returned v ∧ Q_rmX Z q0 h0 n0 v U'.heap L ∧ FrameEnd U o U' L ({ frames := 0, cells := 0, slots := 0, locals := 0 } : Room).cells ({ frames := 0, cells := 0, slots := 0, locals := 0 } : Room).slots) := by
  refine MetFree.of_bodySF (plainFor_of_name pn_com_example_lexint_lexint_LengthEncodedIntEncodedLengthPinLaw) hisR ?_
  intro p e s m args below meth c s₁ Bd hml0 hP hK
  obtain ⟨rfl, hZ, hh⟩ := hP
  have hx := Bd.exec
  have hby := Bd.bytes
  have hml : c.maxLocals = 2 := hml0
  have hown : s.vm.findClass "com/example/lexint/lexint/LengthEncodedIntEncodedLengthPinLaw" = some m.cls := findClass_of_methodNamed Bd.named
  have hnm := (name_of_methodNamed Bd.named Bd.method).1
  have hlk := Bd.notSynchronized
  have X0 : Stand p l e ({ frames := 0, cells := 0, slots := 0, locals := 0 } : Room) s m #[(.long q0)] below meth c s₁ [] 0 0 := Stand.of_body Bd
  have e0 : s₁.heap = h0 := by rw [← hh, Bd.state]; rfl
  have N0 := Fr.nil n0
  show own_G p.tables e below s (Q_rmX Z q0 h0 n0) ({ frames := 0, cells := 0, slots := 0, locals := 0 } : Room).cells ({ frames := 0, cells := 0, slots := 0, locals := 0 } : Room).slots _
  refine own_thr (a := s₁.setTop (mkF m 0 #[.val (.long q0), .second] [])) (fun t kt => castTop (ef_rmX m q0) kt) ?_
  refine own_thr (a := s₁.setTop (mkF m 3 #[.val (.long q0), .second] [(.int (lcmpW q0 (0 : Int64)))])) (fun t kt => ?_) ?_
  · show Steps p.tables e below (s₁.setTop (mkF m 0 #[.val (.long q0), .second] [])) _
    refine XS.lloadN X0.here hx rfl (hb hby d5_0) rfl ?_
    show Steps p.tables e below (s₁.setTop (mkF m 1 #[.val (.long q0), .second] [(.long q0)])) _
    refine XS.lconst X0.here hx rfl (hb hby d5_1) ?_
    show Steps p.tables e below (s₁.setTop (mkF m 2 #[.val (.long q0), .second] [(.long (0 : Int64)), (.long q0)])) _
    refine XS.lcmp X0.here hx rfl (hb hby d5_2) rfl ?_
    exact kt
  by_cases hc1 : q0 < (0 : Int64)
  · refine own_thr (a := s₁.setTop (mkF m 8 #[.val (.long q0), .second] [(.int (9 : Int32))])) (fun t kt => ?_) ?_
    · show Steps p.tables e below (s₁.setTop (mkF m 3 #[.val (.long q0), .second] [(.int (lcmpW q0 (0 : Int64)))])) _
      refine XS.ifNo X0.here hx rfl (hb hby d5_3) rfl ((if0 _ _).trans (tlt ((lw_lt q0 (0 : Int64)).mpr hc1)).2.1) ?_
      show Steps p.tables e below (s₁.setTop (mkF m 6 #[.val (.long q0), .second] [])) _
      refine XS.bipush X0.here hx rfl (hb hby d5_6) ?_
      exact kt
    exact own_end X0 hlk (v := some (.int (9 : Int32))) (fun h => by rw [Bd.returns] at h; cases h) (fun fs hr => retI X0 hx Bd.returns (hb hby d5_8) hr) (by rw [e0]; exact ⟨(by rw [f_rmX, if_pos hc1]), N0, rfl⟩) (by decide : 0 ≤ _) (by decide : 0 ≤ _)
  · refine own_thr (a := s₁.setTop (mkF m 14 #[.val (.long q0), .second] [(.int (lcmpW q0 (250 : Int64)))])) (fun t kt => ?_) ?_
    · show Steps p.tables e below (s₁.setTop (mkF m 3 #[.val (.long q0), .second] [(.int (lcmpW q0 (0 : Int64)))])) _
      refine XS.ifYes X0.here hx rfl (pc0 := 3) (pc' := 9) rfl (hb hby d5_3) rfl ((if0 _ _).trans (flt (fun q => hc1 ((lw_lt q0 (0 : Int64)).mp q))).2.1) (by decide) (by decide) ?_
      show Steps p.tables e below (s₁.setTop (mkF m 9 #[.val (.long q0), .second] [])) _
      refine XS.lloadN X0.here hx rfl (hb hby d5_9) rfl ?_
      show Steps p.tables e below (s₁.setTop (mkF m 10 #[.val (.long q0), .second] [(.long q0)])) _
      refine X0.ldc2Long hx hown (mvT hZ (hw _ (List.mem_of_getElem? (i := 24) rfl))) (g := (mkF m 10 #[.val (.long q0), .second] [(.long q0)])) rfl (hb hby d5_10) _ ?_
      show Steps p.tables e below (s₁.setTop (mkF m 13 #[.val (.long q0), .second] [(.long (250 : Int64)), (.long q0)])) _
      refine XS.lcmp X0.here hx rfl (hb hby d5_13) rfl ?_
      exact kt
    by_cases hc2 : (250 : Int64) < q0
    · refine own_thr (a := s₁.setTop (mkF m 24 #[.val (.long q0), .second] [(.int (lcmpW q0 (65535 : Int64)))])) (fun t kt => ?_) ?_
      · show Steps p.tables e below (s₁.setTop (mkF m 14 #[.val (.long q0), .second] [(.int (lcmpW q0 (250 : Int64)))])) _
        refine XS.ifYes X0.here hx rfl (pc0 := 14) (pc' := 19) rfl (hb hby d5_14) rfl ((if0 _ _).trans (tlt ((lw_gt q0 (250 : Int64)).mpr hc2)).2.2.1) (by decide) (by decide) ?_
        show Steps p.tables e below (s₁.setTop (mkF m 19 #[.val (.long q0), .second] [])) _
        refine XS.lloadN X0.here hx rfl (hb hby d5_19) rfl ?_
        show Steps p.tables e below (s₁.setTop (mkF m 20 #[.val (.long q0), .second] [(.long q0)])) _
        refine X0.ldc2Long hx hown (mvT hZ (hw _ (List.mem_of_getElem? (i := 26) rfl))) (g := (mkF m 20 #[.val (.long q0), .second] [(.long q0)])) rfl (hb hby d5_20) _ ?_
        show Steps p.tables e below (s₁.setTop (mkF m 23 #[.val (.long q0), .second] [(.long (65535 : Int64)), (.long q0)])) _
        refine XS.lcmp X0.here hx rfl (hb hby d5_23) rfl ?_
        exact kt
      by_cases hc3 : (65535 : Int64) < q0
      · refine own_thr (a := s₁.setTop (mkF m 34 #[.val (.long q0), .second] [(.int (lcmpW q0 (16777215 : Int64)))])) (fun t kt => ?_) ?_
        · show Steps p.tables e below (s₁.setTop (mkF m 24 #[.val (.long q0), .second] [(.int (lcmpW q0 (65535 : Int64)))])) _
          refine XS.ifYes X0.here hx rfl (pc0 := 24) (pc' := 29) rfl (hb hby d5_24) rfl ((if0 _ _).trans (tlt ((lw_gt q0 (65535 : Int64)).mpr hc3)).2.2.1) (by decide) (by decide) ?_
          show Steps p.tables e below (s₁.setTop (mkF m 29 #[.val (.long q0), .second] [])) _
          refine XS.lloadN X0.here hx rfl (hb hby d5_29) rfl ?_
          show Steps p.tables e below (s₁.setTop (mkF m 30 #[.val (.long q0), .second] [(.long q0)])) _
          refine X0.ldc2Long hx hown (mvT hZ (hw _ (List.mem_of_getElem? (i := 27) rfl))) (g := (mkF m 30 #[.val (.long q0), .second] [(.long q0)])) rfl (hb hby d5_30) _ ?_
          show Steps p.tables e below (s₁.setTop (mkF m 33 #[.val (.long q0), .second] [(.long (16777215 : Int64)), (.long q0)])) _
          refine XS.lcmp X0.here hx rfl (hb hby d5_33) rfl ?_
          exact kt
        by_cases hc4 : (16777215 : Int64) < q0
        · refine own_thr (a := s₁.setTop (mkF m 41 #[.val (.long q0), .second] [(.int (9 : Int32))])) (fun t kt => ?_) ?_
          · show Steps p.tables e below (s₁.setTop (mkF m 34 #[.val (.long q0), .second] [(.int (lcmpW q0 (16777215 : Int64)))])) _
            refine XS.ifYes X0.here hx rfl (pc0 := 34) (pc' := 39) rfl (hb hby d5_34) rfl ((if0 _ _).trans (tlt ((lw_gt q0 (16777215 : Int64)).mpr hc4)).2.2.1) (by decide) (by decide) ?_
            show Steps p.tables e below (s₁.setTop (mkF m 39 #[.val (.long q0), .second] [])) _
            refine XS.bipush X0.here hx rfl (hb hby d5_39) ?_
            exact kt
          exact own_end X0 hlk (v := some (.int (9 : Int32))) (fun h => by rw [Bd.returns] at h; cases h) (fun fs hr => retI X0 hx Bd.returns (hb hby d5_41) hr) (by rw [e0]; exact ⟨(by rw [f_rmX, if_neg hc1, if_pos hc2, if_pos hc3, if_pos hc4]), N0, rfl⟩) (by decide : 0 ≤ _) (by decide : 0 ≤ _)
        · refine own_thr (a := s₁.setTop (mkF m 38 #[.val (.long q0), .second] [(.int (4 : Int32))])) (fun t kt => ?_) ?_
          · show Steps p.tables e below (s₁.setTop (mkF m 34 #[.val (.long q0), .second] [(.int (lcmpW q0 (16777215 : Int64)))])) _
            refine XS.ifNo X0.here hx rfl (hb hby d5_34) rfl ((if0 _ _).trans (flt (fun q => hc4 ((lw_gt q0 (16777215 : Int64)).mp q))).2.2.1) ?_
            show Steps p.tables e below (s₁.setTop (mkF m 37 #[.val (.long q0), .second] [])) _
            refine XS.iconst X0.here hx rfl (hb hby d5_37) ?_
            exact kt
          exact own_end X0 hlk (v := some (.int (4 : Int32))) (fun h => by rw [Bd.returns] at h; cases h) (fun fs hr => retI X0 hx Bd.returns (hb hby d5_38) hr) (by rw [e0]; exact ⟨(by rw [f_rmX, if_neg hc1, if_pos hc2, if_pos hc3, if_neg hc4]), N0, rfl⟩) (by decide : 0 ≤ _) (by decide : 0 ≤ _)
      · refine own_thr (a := s₁.setTop (mkF m 28 #[.val (.long q0), .second] [(.int (3 : Int32))])) (fun t kt => ?_) ?_
        · show Steps p.tables e below (s₁.setTop (mkF m 24 #[.val (.long q0), .second] [(.int (lcmpW q0 (65535 : Int64)))])) _
          refine XS.ifNo X0.here hx rfl (hb hby d5_24) rfl ((if0 _ _).trans (flt (fun q => hc3 ((lw_gt q0 (65535 : Int64)).mp q))).2.2.1) ?_
          show Steps p.tables e below (s₁.setTop (mkF m 27 #[.val (.long q0), .second] [])) _
          refine XS.iconst X0.here hx rfl (hb hby d5_27) ?_
          exact kt
        exact own_end X0 hlk (v := some (.int (3 : Int32))) (fun h => by rw [Bd.returns] at h; cases h) (fun fs hr => retI X0 hx Bd.returns (hb hby d5_28) hr) (by rw [e0]; exact ⟨(by rw [f_rmX, if_neg hc1, if_pos hc2, if_neg hc3]), N0, rfl⟩) (by decide : 0 ≤ _) (by decide : 0 ≤ _)
    · refine own_thr (a := s₁.setTop (mkF m 18 #[.val (.long q0), .second] [(.int (1 : Int32))])) (fun t kt => ?_) ?_
      · show Steps p.tables e below (s₁.setTop (mkF m 14 #[.val (.long q0), .second] [(.int (lcmpW q0 (250 : Int64)))])) _
        refine XS.ifNo X0.here hx rfl (hb hby d5_14) rfl ((if0 _ _).trans (flt (fun q => hc2 ((lw_gt q0 (250 : Int64)).mp q))).2.2.1) ?_
        show Steps p.tables e below (s₁.setTop (mkF m 17 #[.val (.long q0), .second] [])) _
        refine XS.iconst X0.here hx rfl (hb hby d5_17) ?_
        exact kt
      exact own_end X0 hlk (v := some (.int (1 : Int32))) (fun h => by rw [Bd.returns] at h; cases h) (fun fs hr => retI X0 hx Bd.returns (hb hby d5_18) hr) (by rw [e0]; exact ⟨(by rw [f_rmX, if_neg hc1, if_neg hc2]), N0, rfl⟩) (by decide : 0 ≤ _) (by decide : 0 ≤ _)
theorem d4_0 : decode jdk_33_method_47_code 0 = .ok (.iload_n 0, 1) := by decide +kernel
theorem d4_1 : decode jdk_33_method_47_code 1 = .ok (.ifCond .gt 14, 3) := by decide +kernel
theorem d4_15 : decode jdk_33_method_47_code 15 = .ok (.bipush 31, 2) := by decide +kernel
theorem d4_17 : decode jdk_33_method_47_code 17 = .ok (.istore_n 1, 1) := by decide +kernel
theorem d4_18 : decode jdk_33_method_47_code 18 = .ok (.iload_n 0, 1) := by decide +kernel
theorem d4_19 : decode jdk_33_method_47_code 19 = .ok (.ldc_w 264, 3) := by decide +kernel
theorem d4_22 : decode jdk_33_method_47_code 22 = .ok (.if_icmp .lt 11, 3) := by decide +kernel
theorem d4_33 : decode jdk_33_method_47_code 33 = .ok (.iload_n 0, 1) := by decide +kernel
theorem d4_34 : decode jdk_33_method_47_code 34 = .ok (.sipush 256, 3) := by decide +kernel
theorem d4_37 : decode jdk_33_method_47_code 37 = .ok (.if_icmp .lt 11, 3) := by decide +kernel
theorem d4_48 : decode jdk_33_method_47_code 48 = .ok (.iload_n 0, 1) := by decide +kernel
theorem d4_49 : decode jdk_33_method_47_code 49 = .ok (.bipush 16, 2) := by decide +kernel
theorem d4_51 : decode jdk_33_method_47_code 51 = .ok (.if_icmp .lt 10, 3) := by decide +kernel
theorem d4_61 : decode jdk_33_method_47_code 61 = .ok (.iload_n 0, 1) := by decide +kernel
theorem d4_62 : decode jdk_33_method_47_code 62 = .ok (.iconst 4, 1) := by decide +kernel
theorem d4_63 : decode jdk_33_method_47_code 63 = .ok (.if_icmp .lt 10, 3) := by decide +kernel
theorem d4_73 : decode jdk_33_method_47_code 73 = .ok (.iload_n 1, 1) := by decide +kernel
theorem d4_74 : decode jdk_33_method_47_code 74 = .ok (.iload_n 0, 1) := by decide +kernel
theorem d4_75 : decode jdk_33_method_47_code 75 = .ok (.iconst 1, 1) := by decide +kernel
theorem d4_76 : decode jdk_33_method_47_code 76 = .ok (.iushr, 1) := by decide +kernel
theorem d4_77 : decode jdk_33_method_47_code 77 = .ok (.isub, 1) := by decide +kernel
theorem d4_78 : decode jdk_33_method_47_code 78 = .ok (.ireturn, 1) := by decide +kernel
theorem d4_66 : decode jdk_33_method_47_code 66 = .ok (.iinc 1 (-2), 3) := by decide +kernel
theorem d4_69 : decode jdk_33_method_47_code 69 = .ok (.iload_n 0, 1) := by decide +kernel
theorem d4_70 : decode jdk_33_method_47_code 70 = .ok (.iconst 2, 1) := by decide +kernel
theorem d4_71 : decode jdk_33_method_47_code 71 = .ok (.iushr, 1) := by decide +kernel
theorem d4_72 : decode jdk_33_method_47_code 72 = .ok (.istore_n 0, 1) := by decide +kernel
theorem d4_54 : decode jdk_33_method_47_code 54 = .ok (.iinc 1 (-4), 3) := by decide +kernel
theorem d4_57 : decode jdk_33_method_47_code 57 = .ok (.iload_n 0, 1) := by decide +kernel
theorem d4_58 : decode jdk_33_method_47_code 58 = .ok (.iconst 4, 1) := by decide +kernel
theorem d4_59 : decode jdk_33_method_47_code 59 = .ok (.iushr, 1) := by decide +kernel
theorem d4_60 : decode jdk_33_method_47_code 60 = .ok (.istore_n 0, 1) := by decide +kernel
theorem d4_40 : decode jdk_33_method_47_code 40 = .ok (.iinc 1 (-8), 3) := by decide +kernel
theorem d4_43 : decode jdk_33_method_47_code 43 = .ok (.iload_n 0, 1) := by decide +kernel
theorem d4_44 : decode jdk_33_method_47_code 44 = .ok (.bipush 8, 2) := by decide +kernel
theorem d4_46 : decode jdk_33_method_47_code 46 = .ok (.iushr, 1) := by decide +kernel
theorem d4_47 : decode jdk_33_method_47_code 47 = .ok (.istore_n 0, 1) := by decide +kernel
theorem d4_25 : decode jdk_33_method_47_code 25 = .ok (.iinc 1 (-16), 3) := by decide +kernel
theorem d4_28 : decode jdk_33_method_47_code 28 = .ok (.iload_n 0, 1) := by decide +kernel
theorem d4_29 : decode jdk_33_method_47_code 29 = .ok (.bipush 16, 2) := by decide +kernel
theorem d4_31 : decode jdk_33_method_47_code 31 = .ok (.iushr, 1) := by decide +kernel
theorem d4_32 : decode jdk_33_method_47_code 32 = .ok (.istore_n 0, 1) := by decide +kernel
theorem d4_4 : decode jdk_33_method_47_code 4 = .ok (.iload_n 0, 1) := by decide +kernel
theorem d4_5 : decode jdk_33_method_47_code 5 = .ok (.ifCond .ne 8, 3) := by decide +kernel
theorem d4_8 : decode jdk_33_method_47_code 8 = .ok (.bipush 32, 2) := by decide +kernel
theorem d4_10 : decode jdk_33_method_47_code 10 = .ok (.goto 4, 3) := by decide +kernel
theorem d4_14 : decode jdk_33_method_47_code 14 = .ok (.ireturn, 1) := by decide +kernel
theorem d4_13 : decode jdk_33_method_47_code 13 = .ok (.iconst 0, 1) := by decide +kernel
theorem pn_java_lang_Integer : plainName "java/lang/Integer" = true := by first | (simp [plainName, overriddenIn]; done) | decide +kernel
theorem ef_rmIZ (m : MethodId) (p0 : Int32)  : entryFrame m #[(.int p0)] 2 = mkF m 0 #[.val (.int p0), .unset] [] := by first |  (simp [entryFrame, mkF, argsToLocals, Value.category]; done) | rfl
def f_rmIZ (p0 : Int32) : Int32 := if (0 : Int32) < p0 then (if p0 < (65536 : Int32) then (if p0 < (256 : Int32) then (if p0 < (16 : Int32) then (if p0 < (4 : Int32) then ((31 : Int32) - ((p0.toUInt32 >>> ((1 : Int32) &&& 31).toUInt32).toInt32)) else ((29 : Int32) - ((((p0.toUInt32 >>> ((2 : Int32) &&& 31).toUInt32).toInt32).toUInt32 >>> ((1 : Int32) &&& 31).toUInt32).toInt32))) else if ((p0.toUInt32 >>> ((4 : Int32) &&& 31).toUInt32).toInt32) < (4 : Int32) then ((27 : Int32) - ((((p0.toUInt32 >>> ((4 : Int32) &&& 31).toUInt32).toInt32).toUInt32 >>> ((1 : Int32) &&& 31).toUInt32).toInt32)) else ((25 : Int32) - ((((((p0.toUInt32 >>> ((4 : Int32) &&& 31).toUInt32).toInt32).toUInt32 >>> ((2 : Int32) &&& 31).toUInt32).toInt32).toUInt32 >>> ((1 : Int32) &&& 31).toUInt32).toInt32))) else if ((p0.toUInt32 >>> ((8 : Int32) &&& 31).toUInt32).toInt32) < (16 : Int32) then (if ((p0.toUInt32 >>> ((8 : Int32) &&& 31).toUInt32).toInt32) < (4 : Int32) then ((23 : Int32) - ((((p0.toUInt32 >>> ((8 : Int32) &&& 31).toUInt32).toInt32).toUInt32 >>> ((1 : Int32) &&& 31).toUInt32).toInt32)) else ((21 : Int32) - ((((((p0.toUInt32 >>> ((8 : Int32) &&& 31).toUInt32).toInt32).toUInt32 >>> ((2 : Int32) &&& 31).toUInt32).toInt32).toUInt32 >>> ((1 : Int32) &&& 31).toUInt32).toInt32))) else if ((((p0.toUInt32 >>> ((8 : Int32) &&& 31).toUInt32).toInt32).toUInt32 >>> ((4 : Int32) &&& 31).toUInt32).toInt32) < (4 : Int32) then ((19 : Int32) - ((((((p0.toUInt32 >>> ((8 : Int32) &&& 31).toUInt32).toInt32).toUInt32 >>> ((4 : Int32) &&& 31).toUInt32).toInt32).toUInt32 >>> ((1 : Int32) &&& 31).toUInt32).toInt32)) else ((17 : Int32) - ((((((((p0.toUInt32 >>> ((8 : Int32) &&& 31).toUInt32).toInt32).toUInt32 >>> ((4 : Int32) &&& 31).toUInt32).toInt32).toUInt32 >>> ((2 : Int32) &&& 31).toUInt32).toInt32).toUInt32 >>> ((1 : Int32) &&& 31).toUInt32).toInt32))) else if ((p0.toUInt32 >>> ((16 : Int32) &&& 31).toUInt32).toInt32) < (256 : Int32) then (if ((p0.toUInt32 >>> ((16 : Int32) &&& 31).toUInt32).toInt32) < (16 : Int32) then (if ((p0.toUInt32 >>> ((16 : Int32) &&& 31).toUInt32).toInt32) < (4 : Int32) then ((15 : Int32) - ((((p0.toUInt32 >>> ((16 : Int32) &&& 31).toUInt32).toInt32).toUInt32 >>> ((1 : Int32) &&& 31).toUInt32).toInt32)) else ((13 : Int32) - ((((((p0.toUInt32 >>> ((16 : Int32) &&& 31).toUInt32).toInt32).toUInt32 >>> ((2 : Int32) &&& 31).toUInt32).toInt32).toUInt32 >>> ((1 : Int32) &&& 31).toUInt32).toInt32))) else if ((((p0.toUInt32 >>> ((16 : Int32) &&& 31).toUInt32).toInt32).toUInt32 >>> ((4 : Int32) &&& 31).toUInt32).toInt32) < (4 : Int32) then ((11 : Int32) - ((((((p0.toUInt32 >>> ((16 : Int32) &&& 31).toUInt32).toInt32).toUInt32 >>> ((4 : Int32) &&& 31).toUInt32).toInt32).toUInt32 >>> ((1 : Int32) &&& 31).toUInt32).toInt32)) else ((9 : Int32) - ((((((((p0.toUInt32 >>> ((16 : Int32) &&& 31).toUInt32).toInt32).toUInt32 >>> ((4 : Int32) &&& 31).toUInt32).toInt32).toUInt32 >>> ((2 : Int32) &&& 31).toUInt32).toInt32).toUInt32 >>> ((1 : Int32) &&& 31).toUInt32).toInt32))) else if ((((p0.toUInt32 >>> ((16 : Int32) &&& 31).toUInt32).toInt32).toUInt32 >>> ((8 : Int32) &&& 31).toUInt32).toInt32) < (16 : Int32) then (if ((((p0.toUInt32 >>> ((16 : Int32) &&& 31).toUInt32).toInt32).toUInt32 >>> ((8 : Int32) &&& 31).toUInt32).toInt32) < (4 : Int32) then ((7 : Int32) - ((((((p0.toUInt32 >>> ((16 : Int32) &&& 31).toUInt32).toInt32).toUInt32 >>> ((8 : Int32) &&& 31).toUInt32).toInt32).toUInt32 >>> ((1 : Int32) &&& 31).toUInt32).toInt32)) else ((5 : Int32) - ((((((((p0.toUInt32 >>> ((16 : Int32) &&& 31).toUInt32).toInt32).toUInt32 >>> ((8 : Int32) &&& 31).toUInt32).toInt32).toUInt32 >>> ((2 : Int32) &&& 31).toUInt32).toInt32).toUInt32 >>> ((1 : Int32) &&& 31).toUInt32).toInt32))) else if ((((((p0.toUInt32 >>> ((16 : Int32) &&& 31).toUInt32).toInt32).toUInt32 >>> ((8 : Int32) &&& 31).toUInt32).toInt32).toUInt32 >>> ((4 : Int32) &&& 31).toUInt32).toInt32) < (4 : Int32) then ((3 : Int32) - ((((((((p0.toUInt32 >>> ((16 : Int32) &&& 31).toUInt32).toInt32).toUInt32 >>> ((8 : Int32) &&& 31).toUInt32).toInt32).toUInt32 >>> ((4 : Int32) &&& 31).toUInt32).toInt32).toUInt32 >>> ((1 : Int32) &&& 31).toUInt32).toInt32)) else ((1 : Int32) - ((((((((((p0.toUInt32 >>> ((16 : Int32) &&& 31).toUInt32).toInt32).toUInt32 >>> ((8 : Int32) &&& 31).toUInt32).toInt32).toUInt32 >>> ((4 : Int32) &&& 31).toUInt32).toInt32).toUInt32 >>> ((2 : Int32) &&& 31).toUInt32).toInt32).toUInt32 >>> ((1 : Int32) &&& 31).toUInt32).toInt32))) else if p0 = (0 : Int32) then (32 : Int32) else (0 : Int32)
def Q_rmIZ (Z : State) (p0 : Int32) (h0 : Heap) (n0 : Nat) (v : Option Value) (h : Heap) (L : List Loc) : Prop := v = some (.int (f_rmIZ p0)) ∧ Fr n0 L ∧ h = h0
set_option maxRecDepth 65536 in
set_option maxHeartbeats 40000000 in
theorem rmIZ (l : Launch) (Z : State) (a0 : Array Value) (hw : ∀ d ∈ tables_1, d.before a0 Z = true) (ws : List Jvm.Cond) (p0 : Int32) (h0 : Heap) (n0 : Nat) (Z0 : n0 ≤ h0.size) :
    MetFree l (⟨"java/lang/Integer", "numberOfLeadingZeros", "(I)I"⟩ : MethodName) (head1 (Jvm.Cond.code (⟨"java/lang/Integer", "numberOfLeadingZeros", "(I)I"⟩ : MethodName) jdk_33_method_47_code 2 (some .int) :: ws) ({ frames := 0, cells := 0, slots := 0, locals := 0 } : Room)) (fun a U => a = #[(.int p0)] ∧ Z.Warmed39 U.vm ∧ U.heap = h0) (fun _ _ _ _ _ => True) (fun _ U o U' => ∃ v L, o = .returned v ∧ Q_rmIZ Z p0 h0 n0 v U'.heap L ∧ FrameEnd U o U' L ({ frames := 0, cells := 0, slots := 0, locals := 0 } : Room).cells ({ frames := 0, cells := 0, slots := 0, locals := 0 } : Room).slots) := by
  refine MetFree.of_bodySF (plainFor_of_name pn_java_lang_Integer) hisR ?_
  intro p e s m args below meth c s₁ Bd hml0 hP hK
  obtain ⟨rfl, hZ, hh⟩ := hP
  have hx := Bd.exec
  have hby := Bd.bytes
  have hml : c.maxLocals = 2 := hml0
  have hown : s.vm.findClass "java/lang/Integer" = some m.cls := findClass_of_methodNamed Bd.named
  have hnm := (name_of_methodNamed Bd.named Bd.method).1
  have hlk := Bd.notSynchronized
  have X0 : Stand p l e ({ frames := 0, cells := 0, slots := 0, locals := 0 } : Room) s m #[(.int p0)] below meth c s₁ [] 0 0 := Stand.of_body Bd
  have e0 : s₁.heap = h0 := by rw [← hh, Bd.state]; rfl
  have N0 := Fr.nil n0
  show own_G p.tables e below s (Q_rmIZ Z p0 h0 n0) ({ frames := 0, cells := 0, slots := 0, locals := 0 } : Room).cells ({ frames := 0, cells := 0, slots := 0, locals := 0 } : Room).slots _
  refine own_thr (a := s₁.setTop (mkF m 0 #[.val (.int p0), .unset] [])) (fun t kt => castTop (ef_rmIZ m p0) kt) ?_
  refine own_thr (a := s₁.setTop (mkF m 1 #[.val (.int p0), .unset] [(.int p0)])) (fun t kt => ?_) ?_
  · show Steps p.tables e below (s₁.setTop (mkF m 0 #[.val (.int p0), .unset] [])) _
    refine XS.iloadN X0.here hx rfl (hb hby d4_0) rfl ?_
    exact kt
  by_cases hc1 : (0 : Int32) < p0
  · refine own_thr (a := s₁.setTop (mkF m 22 #[.val (.int p0), .val (.int (31 : Int32))] [(.int (65536 : Int32)), (.int p0)])) (fun t kt => ?_) ?_
    · show Steps p.tables e below (s₁.setTop (mkF m 1 #[.val (.int p0), .unset] [(.int p0)])) _
      refine XS.ifYes X0.here hx rfl (pc0 := 1) (pc' := 15) rfl (hb hby d4_1) rfl ((if0 _ _).trans (tlt hc1).2.2.1) (by decide) (by decide) ?_
      show Steps p.tables e below (s₁.setTop (mkF m 15 #[.val (.int p0), .unset] [])) _
      refine XS.bipush X0.here hx rfl (hb hby d4_15) ?_
      show Steps p.tables e below (s₁.setTop (mkF m 17 #[.val (.int p0), .unset] [(.int (31 : Int32))])) _
      refine XS.istoreN X0.here hx rfl (hb hby d4_17) rfl (l' := #[.val (.int p0), .val (.int (31 : Int32))]) rfl ?_
      show Steps p.tables e below (s₁.setTop (mkF m 18 #[.val (.int p0), .val (.int (31 : Int32))] [])) _
      refine XS.iloadN X0.here hx rfl (hb hby d4_18) rfl ?_
      show Steps p.tables e below (s₁.setTop (mkF m 19 #[.val (.int p0), .val (.int (31 : Int32))] [(.int p0)])) _
      refine X0.ldcwInt hx hown (mvT hZ (hw _ (List.mem_of_getElem? (i := 23) rfl))) (g := (mkF m 19 #[.val (.int p0), .val (.int (31 : Int32))] [(.int p0)])) rfl (hb hby d4_19) _ ?_
      exact kt
    by_cases hc2 : p0 < (65536 : Int32)
    · refine own_thr (a := s₁.setTop (mkF m 37 #[.val (.int p0), .val (.int (31 : Int32))] [(.int (256 : Int32)), (.int p0)])) (fun t kt => ?_) ?_
      · show Steps p.tables e below (s₁.setTop (mkF m 22 #[.val (.int p0), .val (.int (31 : Int32))] [(.int (65536 : Int32)), (.int p0)])) _
        refine XS.icmpYes X0.here hx rfl (pc0 := 22) (pc' := 33) rfl (hb hby d4_22) rfl (tlt hc2).1 (by decide) (by decide) ?_
        show Steps p.tables e below (s₁.setTop (mkF m 33 #[.val (.int p0), .val (.int (31 : Int32))] [])) _
        refine XS.iloadN X0.here hx rfl (hb hby d4_33) rfl ?_
        show Steps p.tables e below (s₁.setTop (mkF m 34 #[.val (.int p0), .val (.int (31 : Int32))] [(.int p0)])) _
        refine XS.sipush X0.here hx rfl (hb hby d4_34) ?_
        exact kt
      by_cases hc3 : p0 < (256 : Int32)
      · refine own_thr (a := s₁.setTop (mkF m 51 #[.val (.int p0), .val (.int (31 : Int32))] [(.int (16 : Int32)), (.int p0)])) (fun t kt => ?_) ?_
        · show Steps p.tables e below (s₁.setTop (mkF m 37 #[.val (.int p0), .val (.int (31 : Int32))] [(.int (256 : Int32)), (.int p0)])) _
          refine XS.icmpYes X0.here hx rfl (pc0 := 37) (pc' := 48) rfl (hb hby d4_37) rfl (tlt hc3).1 (by decide) (by decide) ?_
          show Steps p.tables e below (s₁.setTop (mkF m 48 #[.val (.int p0), .val (.int (31 : Int32))] [])) _
          refine XS.iloadN X0.here hx rfl (hb hby d4_48) rfl ?_
          show Steps p.tables e below (s₁.setTop (mkF m 49 #[.val (.int p0), .val (.int (31 : Int32))] [(.int p0)])) _
          refine XS.bipush X0.here hx rfl (hb hby d4_49) ?_
          exact kt
        by_cases hc4 : p0 < (16 : Int32)
        · refine own_thr (a := s₁.setTop (mkF m 63 #[.val (.int p0), .val (.int (31 : Int32))] [(.int (4 : Int32)), (.int p0)])) (fun t kt => ?_) ?_
          · show Steps p.tables e below (s₁.setTop (mkF m 51 #[.val (.int p0), .val (.int (31 : Int32))] [(.int (16 : Int32)), (.int p0)])) _
            refine XS.icmpYes X0.here hx rfl (pc0 := 51) (pc' := 61) rfl (hb hby d4_51) rfl (tlt hc4).1 (by decide) (by decide) ?_
            show Steps p.tables e below (s₁.setTop (mkF m 61 #[.val (.int p0), .val (.int (31 : Int32))] [])) _
            refine XS.iloadN X0.here hx rfl (hb hby d4_61) rfl ?_
            show Steps p.tables e below (s₁.setTop (mkF m 62 #[.val (.int p0), .val (.int (31 : Int32))] [(.int p0)])) _
            refine XS.iconst X0.here hx rfl (hb hby d4_62) ?_
            exact kt
          by_cases hc5 : p0 < (4 : Int32)
          · refine own_thr (a := s₁.setTop (mkF m 78 #[.val (.int p0), .val (.int (31 : Int32))] [(.int ((31 : Int32) - ((p0.toUInt32 >>> ((1 : Int32) &&& 31).toUInt32).toInt32)))])) (fun t kt => ?_) ?_
            · show Steps p.tables e below (s₁.setTop (mkF m 63 #[.val (.int p0), .val (.int (31 : Int32))] [(.int (4 : Int32)), (.int p0)])) _
              refine XS.icmpYes X0.here hx rfl (pc0 := 63) (pc' := 73) rfl (hb hby d4_63) rfl (tlt hc5).1 (by decide) (by decide) ?_
              show Steps p.tables e below (s₁.setTop (mkF m 73 #[.val (.int p0), .val (.int (31 : Int32))] [])) _
              refine XS.iloadN X0.here hx rfl (hb hby d4_73) rfl ?_
              show Steps p.tables e below (s₁.setTop (mkF m 74 #[.val (.int p0), .val (.int (31 : Int32))] [(.int (31 : Int32))])) _
              refine XS.iloadN X0.here hx rfl (hb hby d4_74) rfl ?_
              show Steps p.tables e below (s₁.setTop (mkF m 75 #[.val (.int p0), .val (.int (31 : Int32))] [(.int p0), (.int (31 : Int32))])) _
              refine XS.iconst X0.here hx rfl (hb hby d4_75) ?_
              show Steps p.tables e below (s₁.setTop (mkF m 76 #[.val (.int p0), .val (.int (31 : Int32))] [(.int (1 : Int32)), (.int p0), (.int (31 : Int32))])) _
              refine XS.iushr X0.here hx rfl (hb hby d4_76) rfl ?_
              show Steps p.tables e below (s₁.setTop (mkF m 77 #[.val (.int p0), .val (.int (31 : Int32))] [(.int ((p0.toUInt32 >>> ((1 : Int32) &&& 31).toUInt32).toInt32)), (.int (31 : Int32))])) _
              refine XS.isub X0.here hx rfl (hb hby d4_77) rfl ?_
              exact kt
            exact own_end X0 hlk (v := some (.int ((31 : Int32) - ((p0.toUInt32 >>> ((1 : Int32) &&& 31).toUInt32).toInt32)))) (fun h => by rw [Bd.returns] at h; cases h) (fun fs hr => retI X0 hx Bd.returns (hb hby d4_78) hr) (by rw [e0]; exact ⟨(by rw [f_rmIZ, if_pos hc1, if_pos hc2, if_pos hc3, if_pos hc4, if_pos hc5]), N0, rfl⟩) (by decide : 0 ≤ _) (by decide : 0 ≤ _)
          · refine own_thr (a := s₁.setTop (mkF m 78 #[.val (.int ((p0.toUInt32 >>> ((2 : Int32) &&& 31).toUInt32).toInt32)), .val (.int (29 : Int32))] [(.int ((29 : Int32) - ((((p0.toUInt32 >>> ((2 : Int32) &&& 31).toUInt32).toInt32).toUInt32 >>> ((1 : Int32) &&& 31).toUInt32).toInt32)))])) (fun t kt => ?_) ?_
            · show Steps p.tables e below (s₁.setTop (mkF m 63 #[.val (.int p0), .val (.int (31 : Int32))] [(.int (4 : Int32)), (.int p0)])) _
              refine XS.icmpNo X0.here hx rfl (hb hby d4_63) rfl (flt hc5).1 ?_
              show Steps p.tables e below (s₁.setTop (mkF m 66 #[.val (.int p0), .val (.int (31 : Int32))] [])) _
              refine XS.iinc X0.here hx rfl (hb hby d4_66) rfl (l' := #[.val (.int p0), .val (.int (29 : Int32))]) rfl ?_
              show Steps p.tables e below (s₁.setTop (mkF m 69 #[.val (.int p0), .val (.int (29 : Int32))] [])) _
              refine XS.iloadN X0.here hx rfl (hb hby d4_69) rfl ?_
              show Steps p.tables e below (s₁.setTop (mkF m 70 #[.val (.int p0), .val (.int (29 : Int32))] [(.int p0)])) _
              refine XS.iconst X0.here hx rfl (hb hby d4_70) ?_
              show Steps p.tables e below (s₁.setTop (mkF m 71 #[.val (.int p0), .val (.int (29 : Int32))] [(.int (2 : Int32)), (.int p0)])) _
              refine XS.iushr X0.here hx rfl (hb hby d4_71) rfl ?_
              show Steps p.tables e below (s₁.setTop (mkF m 72 #[.val (.int p0), .val (.int (29 : Int32))] [(.int ((p0.toUInt32 >>> ((2 : Int32) &&& 31).toUInt32).toInt32))])) _
              refine XS.istoreN X0.here hx rfl (hb hby d4_72) rfl (l' := #[.val (.int ((p0.toUInt32 >>> ((2 : Int32) &&& 31).toUInt32).toInt32)), .val (.int (29 : Int32))]) rfl ?_
              show Steps p.tables e below (s₁.setTop (mkF m 73 #[.val (.int ((p0.toUInt32 >>> ((2 : Int32) &&& 31).toUInt32).toInt32)), .val (.int (29 : Int32))] [])) _
              refine XS.iloadN X0.here hx rfl (hb hby d4_73) rfl ?_
              show Steps p.tables e below (s₁.setTop (mkF m 74 #[.val (.int ((p0.toUInt32 >>> ((2 : Int32) &&& 31).toUInt32).toInt32)), .val (.int (29 : Int32))] [(.int (29 : Int32))])) _
              refine XS.iloadN X0.here hx rfl (hb hby d4_74) rfl ?_
              show Steps p.tables e below (s₁.setTop (mkF m 75 #[.val (.int ((p0.toUInt32 >>> ((2 : Int32) &&& 31).toUInt32).toInt32)), .val (.int (29 : Int32))] [(.int ((p0.toUInt32 >>> ((2 : Int32) &&& 31).toUInt32).toInt32)), (.int (29 : Int32))])) _
              refine XS.iconst X0.here hx rfl (hb hby d4_75) ?_
              show Steps p.tables e below (s₁.setTop (mkF m 76 #[.val (.int ((p0.toUInt32 >>> ((2 : Int32) &&& 31).toUInt32).toInt32)), .val (.int (29 : Int32))] [(.int (1 : Int32)), (.int ((p0.toUInt32 >>> ((2 : Int32) &&& 31).toUInt32).toInt32)), (.int (29 : Int32))])) _
              refine XS.iushr X0.here hx rfl (hb hby d4_76) rfl ?_
              show Steps p.tables e below (s₁.setTop (mkF m 77 #[.val (.int ((p0.toUInt32 >>> ((2 : Int32) &&& 31).toUInt32).toInt32)), .val (.int (29 : Int32))] [(.int ((((p0.toUInt32 >>> ((2 : Int32) &&& 31).toUInt32).toInt32).toUInt32 >>> ((1 : Int32) &&& 31).toUInt32).toInt32)), (.int (29 : Int32))])) _
              refine XS.isub X0.here hx rfl (hb hby d4_77) rfl ?_
              exact kt
            exact own_end X0 hlk (v := some (.int ((29 : Int32) - ((((p0.toUInt32 >>> ((2 : Int32) &&& 31).toUInt32).toInt32).toUInt32 >>> ((1 : Int32) &&& 31).toUInt32).toInt32)))) (fun h => by rw [Bd.returns] at h; cases h) (fun fs hr => retI X0 hx Bd.returns (hb hby d4_78) hr) (by rw [e0]; exact ⟨(by rw [f_rmIZ, if_pos hc1, if_pos hc2, if_pos hc3, if_pos hc4, if_neg hc5]), N0, rfl⟩) (by decide : 0 ≤ _) (by decide : 0 ≤ _)
        · refine own_thr (a := s₁.setTop (mkF m 63 #[.val (.int ((p0.toUInt32 >>> ((4 : Int32) &&& 31).toUInt32).toInt32)), .val (.int (27 : Int32))] [(.int (4 : Int32)), (.int ((p0.toUInt32 >>> ((4 : Int32) &&& 31).toUInt32).toInt32))])) (fun t kt => ?_) ?_
          · show Steps p.tables e below (s₁.setTop (mkF m 51 #[.val (.int p0), .val (.int (31 : Int32))] [(.int (16 : Int32)), (.int p0)])) _
            refine XS.icmpNo X0.here hx rfl (hb hby d4_51) rfl (flt hc4).1 ?_
            show Steps p.tables e below (s₁.setTop (mkF m 54 #[.val (.int p0), .val (.int (31 : Int32))] [])) _
            refine XS.iinc X0.here hx rfl (hb hby d4_54) rfl (l' := #[.val (.int p0), .val (.int (27 : Int32))]) rfl ?_
            show Steps p.tables e below (s₁.setTop (mkF m 57 #[.val (.int p0), .val (.int (27 : Int32))] [])) _
            refine XS.iloadN X0.here hx rfl (hb hby d4_57) rfl ?_
            show Steps p.tables e below (s₁.setTop (mkF m 58 #[.val (.int p0), .val (.int (27 : Int32))] [(.int p0)])) _
            refine XS.iconst X0.here hx rfl (hb hby d4_58) ?_
            show Steps p.tables e below (s₁.setTop (mkF m 59 #[.val (.int p0), .val (.int (27 : Int32))] [(.int (4 : Int32)), (.int p0)])) _
            refine XS.iushr X0.here hx rfl (hb hby d4_59) rfl ?_
            show Steps p.tables e below (s₁.setTop (mkF m 60 #[.val (.int p0), .val (.int (27 : Int32))] [(.int ((p0.toUInt32 >>> ((4 : Int32) &&& 31).toUInt32).toInt32))])) _
            refine XS.istoreN X0.here hx rfl (hb hby d4_60) rfl (l' := #[.val (.int ((p0.toUInt32 >>> ((4 : Int32) &&& 31).toUInt32).toInt32)), .val (.int (27 : Int32))]) rfl ?_
            show Steps p.tables e below (s₁.setTop (mkF m 61 #[.val (.int ((p0.toUInt32 >>> ((4 : Int32) &&& 31).toUInt32).toInt32)), .val (.int (27 : Int32))] [])) _
            refine XS.iloadN X0.here hx rfl (hb hby d4_61) rfl ?_
            show Steps p.tables e below (s₁.setTop (mkF m 62 #[.val (.int ((p0.toUInt32 >>> ((4 : Int32) &&& 31).toUInt32).toInt32)), .val (.int (27 : Int32))] [(.int ((p0.toUInt32 >>> ((4 : Int32) &&& 31).toUInt32).toInt32))])) _
            refine XS.iconst X0.here hx rfl (hb hby d4_62) ?_
            exact kt
          by_cases hc6 : ((p0.toUInt32 >>> ((4 : Int32) &&& 31).toUInt32).toInt32) < (4 : Int32)
          · refine own_thr (a := s₁.setTop (mkF m 78 #[.val (.int ((p0.toUInt32 >>> ((4 : Int32) &&& 31).toUInt32).toInt32)), .val (.int (27 : Int32))] [(.int ((27 : Int32) - ((((p0.toUInt32 >>> ((4 : Int32) &&& 31).toUInt32).toInt32).toUInt32 >>> ((1 : Int32) &&& 31).toUInt32).toInt32)))])) (fun t kt => ?_) ?_
            · show Steps p.tables e below (s₁.setTop (mkF m 63 #[.val (.int ((p0.toUInt32 >>> ((4 : Int32) &&& 31).toUInt32).toInt32)), .val (.int (27 : Int32))] [(.int (4 : Int32)), (.int ((p0.toUInt32 >>> ((4 : Int32) &&& 31).toUInt32).toInt32))])) _
              refine XS.icmpYes X0.here hx rfl (pc0 := 63) (pc' := 73) rfl (hb hby d4_63) rfl (tlt hc6).1 (by decide) (by decide) ?_
              show Steps p.tables e below (s₁.setTop (mkF m 73 #[.val (.int ((p0.toUInt32 >>> ((4 : Int32) &&& 31).toUInt32).toInt32)), .val (.int (27 : Int32))] [])) _
              refine XS.iloadN X0.here hx rfl (hb hby d4_73) rfl ?_
              show Steps p.tables e below (s₁.setTop (mkF m 74 #[.val (.int ((p0.toUInt32 >>> ((4 : Int32) &&& 31).toUInt32).toInt32)), .val (.int (27 : Int32))] [(.int (27 : Int32))])) _
              refine XS.iloadN X0.here hx rfl (hb hby d4_74) rfl ?_
              show Steps p.tables e below (s₁.setTop (mkF m 75 #[.val (.int ((p0.toUInt32 >>> ((4 : Int32) &&& 31).toUInt32).toInt32)), .val (.int (27 : Int32))] [(.int ((p0.toUInt32 >>> ((4 : Int32) &&& 31).toUInt32).toInt32)), (.int (27 : Int32))])) _
              refine XS.iconst X0.here hx rfl (hb hby d4_75) ?_
              show Steps p.tables e below (s₁.setTop (mkF m 76 #[.val (.int ((p0.toUInt32 >>> ((4 : Int32) &&& 31).toUInt32).toInt32)), .val (.int (27 : Int32))] [(.int (1 : Int32)), (.int ((p0.toUInt32 >>> ((4 : Int32) &&& 31).toUInt32).toInt32)), (.int (27 : Int32))])) _
              refine XS.iushr X0.here hx rfl (hb hby d4_76) rfl ?_
              show Steps p.tables e below (s₁.setTop (mkF m 77 #[.val (.int ((p0.toUInt32 >>> ((4 : Int32) &&& 31).toUInt32).toInt32)), .val (.int (27 : Int32))] [(.int ((((p0.toUInt32 >>> ((4 : Int32) &&& 31).toUInt32).toInt32).toUInt32 >>> ((1 : Int32) &&& 31).toUInt32).toInt32)), (.int (27 : Int32))])) _
              refine XS.isub X0.here hx rfl (hb hby d4_77) rfl ?_
              exact kt
            exact own_end X0 hlk (v := some (.int ((27 : Int32) - ((((p0.toUInt32 >>> ((4 : Int32) &&& 31).toUInt32).toInt32).toUInt32 >>> ((1 : Int32) &&& 31).toUInt32).toInt32)))) (fun h => by rw [Bd.returns] at h; cases h) (fun fs hr => retI X0 hx Bd.returns (hb hby d4_78) hr) (by rw [e0]; exact ⟨(by rw [f_rmIZ, if_pos hc1, if_pos hc2, if_pos hc3, if_neg hc4, if_pos hc6]), N0, rfl⟩) (by decide : 0 ≤ _) (by decide : 0 ≤ _)
          · refine own_thr (a := s₁.setTop (mkF m 78 #[.val (.int ((((p0.toUInt32 >>> ((4 : Int32) &&& 31).toUInt32).toInt32).toUInt32 >>> ((2 : Int32) &&& 31).toUInt32).toInt32)), .val (.int (25 : Int32))] [(.int ((25 : Int32) - ((((((p0.toUInt32 >>> ((4 : Int32) &&& 31).toUInt32).toInt32).toUInt32 >>> ((2 : Int32) &&& 31).toUInt32).toInt32).toUInt32 >>> ((1 : Int32) &&& 31).toUInt32).toInt32)))])) (fun t kt => ?_) ?_
            · show Steps p.tables e below (s₁.setTop (mkF m 63 #[.val (.int ((p0.toUInt32 >>> ((4 : Int32) &&& 31).toUInt32).toInt32)), .val (.int (27 : Int32))] [(.int (4 : Int32)), (.int ((p0.toUInt32 >>> ((4 : Int32) &&& 31).toUInt32).toInt32))])) _
              refine XS.icmpNo X0.here hx rfl (hb hby d4_63) rfl (flt hc6).1 ?_
              show Steps p.tables e below (s₁.setTop (mkF m 66 #[.val (.int ((p0.toUInt32 >>> ((4 : Int32) &&& 31).toUInt32).toInt32)), .val (.int (27 : Int32))] [])) _
              refine XS.iinc X0.here hx rfl (hb hby d4_66) rfl (l' := #[.val (.int ((p0.toUInt32 >>> ((4 : Int32) &&& 31).toUInt32).toInt32)), .val (.int (25 : Int32))]) rfl ?_
              show Steps p.tables e below (s₁.setTop (mkF m 69 #[.val (.int ((p0.toUInt32 >>> ((4 : Int32) &&& 31).toUInt32).toInt32)), .val (.int (25 : Int32))] [])) _
              refine XS.iloadN X0.here hx rfl (hb hby d4_69) rfl ?_
              show Steps p.tables e below (s₁.setTop (mkF m 70 #[.val (.int ((p0.toUInt32 >>> ((4 : Int32) &&& 31).toUInt32).toInt32)), .val (.int (25 : Int32))] [(.int ((p0.toUInt32 >>> ((4 : Int32) &&& 31).toUInt32).toInt32))])) _
              refine XS.iconst X0.here hx rfl (hb hby d4_70) ?_
              show Steps p.tables e below (s₁.setTop (mkF m 71 #[.val (.int ((p0.toUInt32 >>> ((4 : Int32) &&& 31).toUInt32).toInt32)), .val (.int (25 : Int32))] [(.int (2 : Int32)), (.int ((p0.toUInt32 >>> ((4 : Int32) &&& 31).toUInt32).toInt32))])) _
              refine XS.iushr X0.here hx rfl (hb hby d4_71) rfl ?_
              show Steps p.tables e below (s₁.setTop (mkF m 72 #[.val (.int ((p0.toUInt32 >>> ((4 : Int32) &&& 31).toUInt32).toInt32)), .val (.int (25 : Int32))] [(.int ((((p0.toUInt32 >>> ((4 : Int32) &&& 31).toUInt32).toInt32).toUInt32 >>> ((2 : Int32) &&& 31).toUInt32).toInt32))])) _
              refine XS.istoreN X0.here hx rfl (hb hby d4_72) rfl (l' := #[.val (.int ((((p0.toUInt32 >>> ((4 : Int32) &&& 31).toUInt32).toInt32).toUInt32 >>> ((2 : Int32) &&& 31).toUInt32).toInt32)), .val (.int (25 : Int32))]) rfl ?_
              show Steps p.tables e below (s₁.setTop (mkF m 73 #[.val (.int ((((p0.toUInt32 >>> ((4 : Int32) &&& 31).toUInt32).toInt32).toUInt32 >>> ((2 : Int32) &&& 31).toUInt32).toInt32)), .val (.int (25 : Int32))] [])) _
              refine XS.iloadN X0.here hx rfl (hb hby d4_73) rfl ?_
              show Steps p.tables e below (s₁.setTop (mkF m 74 #[.val (.int ((((p0.toUInt32 >>> ((4 : Int32) &&& 31).toUInt32).toInt32).toUInt32 >>> ((2 : Int32) &&& 31).toUInt32).toInt32)), .val (.int (25 : Int32))] [(.int (25 : Int32))])) _
              refine XS.iloadN X0.here hx rfl (hb hby d4_74) rfl ?_
              show Steps p.tables e below (s₁.setTop (mkF m 75 #[.val (.int ((((p0.toUInt32 >>> ((4 : Int32) &&& 31).toUInt32).toInt32).toUInt32 >>> ((2 : Int32) &&& 31).toUInt32).toInt32)), .val (.int (25 : Int32))] [(.int ((((p0.toUInt32 >>> ((4 : Int32) &&& 31).toUInt32).toInt32).toUInt32 >>> ((2 : Int32) &&& 31).toUInt32).toInt32)), (.int (25 : Int32))])) _
              refine XS.iconst X0.here hx rfl (hb hby d4_75) ?_
              show Steps p.tables e below (s₁.setTop (mkF m 76 #[.val (.int ((((p0.toUInt32 >>> ((4 : Int32) &&& 31).toUInt32).toInt32).toUInt32 >>> ((2 : Int32) &&& 31).toUInt32).toInt32)), .val (.int (25 : Int32))] [(.int (1 : Int32)), (.int ((((p0.toUInt32 >>> ((4 : Int32) &&& 31).toUInt32).toInt32).toUInt32 >>> ((2 : Int32) &&& 31).toUInt32).toInt32)), (.int (25 : Int32))])) _
              refine XS.iushr X0.here hx rfl (hb hby d4_76) rfl ?_
              show Steps p.tables e below (s₁.setTop (mkF m 77 #[.val (.int ((((p0.toUInt32 >>> ((4 : Int32) &&& 31).toUInt32).toInt32).toUInt32 >>> ((2 : Int32) &&& 31).toUInt32).toInt32)), .val (.int (25 : Int32))] [(.int ((((((p0.toUInt32 >>> ((4 : Int32) &&& 31).toUInt32).toInt32).toUInt32 >>> ((2 : Int32) &&& 31).toUInt32).toInt32).toUInt32 >>> ((1 : Int32) &&& 31).toUInt32).toInt32)), (.int (25 : Int32))])) _
              refine XS.isub X0.here hx rfl (hb hby d4_77) rfl ?_
              exact kt
            exact own_end X0 hlk (v := some (.int ((25 : Int32) - ((((((p0.toUInt32 >>> ((4 : Int32) &&& 31).toUInt32).toInt32).toUInt32 >>> ((2 : Int32) &&& 31).toUInt32).toInt32).toUInt32 >>> ((1 : Int32) &&& 31).toUInt32).toInt32)))) (fun h => by rw [Bd.returns] at h; cases h) (fun fs hr => retI X0 hx Bd.returns (hb hby d4_78) hr) (by rw [e0]; exact ⟨(by rw [f_rmIZ, if_pos hc1, if_pos hc2, if_pos hc3, if_neg hc4, if_neg hc6]), N0, rfl⟩) (by decide : 0 ≤ _) (by decide : 0 ≤ _)
      · refine own_thr (a := s₁.setTop (mkF m 51 #[.val (.int ((p0.toUInt32 >>> ((8 : Int32) &&& 31).toUInt32).toInt32)), .val (.int (23 : Int32))] [(.int (16 : Int32)), (.int ((p0.toUInt32 >>> ((8 : Int32) &&& 31).toUInt32).toInt32))])) (fun t kt => ?_) ?_
        · show Steps p.tables e below (s₁.setTop (mkF m 37 #[.val (.int p0), .val (.int (31 : Int32))] [(.int (256 : Int32)), (.int p0)])) _
          refine XS.icmpNo X0.here hx rfl (hb hby d4_37) rfl (flt hc3).1 ?_
          show Steps p.tables e below (s₁.setTop (mkF m 40 #[.val (.int p0), .val (.int (31 : Int32))] [])) _
          refine XS.iinc X0.here hx rfl (hb hby d4_40) rfl (l' := #[.val (.int p0), .val (.int (23 : Int32))]) rfl ?_
          show Steps p.tables e below (s₁.setTop (mkF m 43 #[.val (.int p0), .val (.int (23 : Int32))] [])) _
          refine XS.iloadN X0.here hx rfl (hb hby d4_43) rfl ?_
          show Steps p.tables e below (s₁.setTop (mkF m 44 #[.val (.int p0), .val (.int (23 : Int32))] [(.int p0)])) _
          refine XS.bipush X0.here hx rfl (hb hby d4_44) ?_
          show Steps p.tables e below (s₁.setTop (mkF m 46 #[.val (.int p0), .val (.int (23 : Int32))] [(.int (8 : Int32)), (.int p0)])) _
          refine XS.iushr X0.here hx rfl (hb hby d4_46) rfl ?_
          show Steps p.tables e below (s₁.setTop (mkF m 47 #[.val (.int p0), .val (.int (23 : Int32))] [(.int ((p0.toUInt32 >>> ((8 : Int32) &&& 31).toUInt32).toInt32))])) _
          refine XS.istoreN X0.here hx rfl (hb hby d4_47) rfl (l' := #[.val (.int ((p0.toUInt32 >>> ((8 : Int32) &&& 31).toUInt32).toInt32)), .val (.int (23 : Int32))]) rfl ?_
          show Steps p.tables e below (s₁.setTop (mkF m 48 #[.val (.int ((p0.toUInt32 >>> ((8 : Int32) &&& 31).toUInt32).toInt32)), .val (.int (23 : Int32))] [])) _
          refine XS.iloadN X0.here hx rfl (hb hby d4_48) rfl ?_
          show Steps p.tables e below (s₁.setTop (mkF m 49 #[.val (.int ((p0.toUInt32 >>> ((8 : Int32) &&& 31).toUInt32).toInt32)), .val (.int (23 : Int32))] [(.int ((p0.toUInt32 >>> ((8 : Int32) &&& 31).toUInt32).toInt32))])) _
          refine XS.bipush X0.here hx rfl (hb hby d4_49) ?_
          exact kt
        by_cases hc7 : ((p0.toUInt32 >>> ((8 : Int32) &&& 31).toUInt32).toInt32) < (16 : Int32)
        · refine own_thr (a := s₁.setTop (mkF m 63 #[.val (.int ((p0.toUInt32 >>> ((8 : Int32) &&& 31).toUInt32).toInt32)), .val (.int (23 : Int32))] [(.int (4 : Int32)), (.int ((p0.toUInt32 >>> ((8 : Int32) &&& 31).toUInt32).toInt32))])) (fun t kt => ?_) ?_
          · show Steps p.tables e below (s₁.setTop (mkF m 51 #[.val (.int ((p0.toUInt32 >>> ((8 : Int32) &&& 31).toUInt32).toInt32)), .val (.int (23 : Int32))] [(.int (16 : Int32)), (.int ((p0.toUInt32 >>> ((8 : Int32) &&& 31).toUInt32).toInt32))])) _
            refine XS.icmpYes X0.here hx rfl (pc0 := 51) (pc' := 61) rfl (hb hby d4_51) rfl (tlt hc7).1 (by decide) (by decide) ?_
            show Steps p.tables e below (s₁.setTop (mkF m 61 #[.val (.int ((p0.toUInt32 >>> ((8 : Int32) &&& 31).toUInt32).toInt32)), .val (.int (23 : Int32))] [])) _
            refine XS.iloadN X0.here hx rfl (hb hby d4_61) rfl ?_
            show Steps p.tables e below (s₁.setTop (mkF m 62 #[.val (.int ((p0.toUInt32 >>> ((8 : Int32) &&& 31).toUInt32).toInt32)), .val (.int (23 : Int32))] [(.int ((p0.toUInt32 >>> ((8 : Int32) &&& 31).toUInt32).toInt32))])) _
            refine XS.iconst X0.here hx rfl (hb hby d4_62) ?_
            exact kt
          by_cases hc8 : ((p0.toUInt32 >>> ((8 : Int32) &&& 31).toUInt32).toInt32) < (4 : Int32)
          · refine own_thr (a := s₁.setTop (mkF m 78 #[.val (.int ((p0.toUInt32 >>> ((8 : Int32) &&& 31).toUInt32).toInt32)), .val (.int (23 : Int32))] [(.int ((23 : Int32) - ((((p0.toUInt32 >>> ((8 : Int32) &&& 31).toUInt32).toInt32).toUInt32 >>> ((1 : Int32) &&& 31).toUInt32).toInt32)))])) (fun t kt => ?_) ?_
            · show Steps p.tables e below (s₁.setTop (mkF m 63 #[.val (.int ((p0.toUInt32 >>> ((8 : Int32) &&& 31).toUInt32).toInt32)), .val (.int (23 : Int32))] [(.int (4 : Int32)), (.int ((p0.toUInt32 >>> ((8 : Int32) &&& 31).toUInt32).toInt32))])) _
              refine XS.icmpYes X0.here hx rfl (pc0 := 63) (pc' := 73) rfl (hb hby d4_63) rfl (tlt hc8).1 (by decide) (by decide) ?_
              show Steps p.tables e below (s₁.setTop (mkF m 73 #[.val (.int ((p0.toUInt32 >>> ((8 : Int32) &&& 31).toUInt32).toInt32)), .val (.int (23 : Int32))] [])) _
              refine XS.iloadN X0.here hx rfl (hb hby d4_73) rfl ?_
              show Steps p.tables e below (s₁.setTop (mkF m 74 #[.val (.int ((p0.toUInt32 >>> ((8 : Int32) &&& 31).toUInt32).toInt32)), .val (.int (23 : Int32))] [(.int (23 : Int32))])) _
              refine XS.iloadN X0.here hx rfl (hb hby d4_74) rfl ?_
              show Steps p.tables e below (s₁.setTop (mkF m 75 #[.val (.int ((p0.toUInt32 >>> ((8 : Int32) &&& 31).toUInt32).toInt32)), .val (.int (23 : Int32))] [(.int ((p0.toUInt32 >>> ((8 : Int32) &&& 31).toUInt32).toInt32)), (.int (23 : Int32))])) _
              refine XS.iconst X0.here hx rfl (hb hby d4_75) ?_
              show Steps p.tables e below (s₁.setTop (mkF m 76 #[.val (.int ((p0.toUInt32 >>> ((8 : Int32) &&& 31).toUInt32).toInt32)), .val (.int (23 : Int32))] [(.int (1 : Int32)), (.int ((p0.toUInt32 >>> ((8 : Int32) &&& 31).toUInt32).toInt32)), (.int (23 : Int32))])) _
              refine XS.iushr X0.here hx rfl (hb hby d4_76) rfl ?_
              show Steps p.tables e below (s₁.setTop (mkF m 77 #[.val (.int ((p0.toUInt32 >>> ((8 : Int32) &&& 31).toUInt32).toInt32)), .val (.int (23 : Int32))] [(.int ((((p0.toUInt32 >>> ((8 : Int32) &&& 31).toUInt32).toInt32).toUInt32 >>> ((1 : Int32) &&& 31).toUInt32).toInt32)), (.int (23 : Int32))])) _
              refine XS.isub X0.here hx rfl (hb hby d4_77) rfl ?_
              exact kt
            exact own_end X0 hlk (v := some (.int ((23 : Int32) - ((((p0.toUInt32 >>> ((8 : Int32) &&& 31).toUInt32).toInt32).toUInt32 >>> ((1 : Int32) &&& 31).toUInt32).toInt32)))) (fun h => by rw [Bd.returns] at h; cases h) (fun fs hr => retI X0 hx Bd.returns (hb hby d4_78) hr) (by rw [e0]; exact ⟨(by rw [f_rmIZ, if_pos hc1, if_pos hc2, if_neg hc3, if_pos hc7, if_pos hc8]), N0, rfl⟩) (by decide : 0 ≤ _) (by decide : 0 ≤ _)
          · refine own_thr (a := s₁.setTop (mkF m 78 #[.val (.int ((((p0.toUInt32 >>> ((8 : Int32) &&& 31).toUInt32).toInt32).toUInt32 >>> ((2 : Int32) &&& 31).toUInt32).toInt32)), .val (.int (21 : Int32))] [(.int ((21 : Int32) - ((((((p0.toUInt32 >>> ((8 : Int32) &&& 31).toUInt32).toInt32).toUInt32 >>> ((2 : Int32) &&& 31).toUInt32).toInt32).toUInt32 >>> ((1 : Int32) &&& 31).toUInt32).toInt32)))])) (fun t kt => ?_) ?_
            · show Steps p.tables e below (s₁.setTop (mkF m 63 #[.val (.int ((p0.toUInt32 >>> ((8 : Int32) &&& 31).toUInt32).toInt32)), .val (.int (23 : Int32))] [(.int (4 : Int32)), (.int ((p0.toUInt32 >>> ((8 : Int32) &&& 31).toUInt32).toInt32))])) _
              refine XS.icmpNo X0.here hx rfl (hb hby d4_63) rfl (flt hc8).1 ?_
              show Steps p.tables e below (s₁.setTop (mkF m 66 #[.val (.int ((p0.toUInt32 >>> ((8 : Int32) &&& 31).toUInt32).toInt32)), .val (.int (23 : Int32))] [])) _
              refine XS.iinc X0.here hx rfl (hb hby d4_66) rfl (l' := #[.val (.int ((p0.toUInt32 >>> ((8 : Int32) &&& 31).toUInt32).toInt32)), .val (.int (21 : Int32))]) rfl ?_
              show Steps p.tables e below (s₁.setTop (mkF m 69 #[.val (.int ((p0.toUInt32 >>> ((8 : Int32) &&& 31).toUInt32).toInt32)), .val (.int (21 : Int32))] [])) _
              refine XS.iloadN X0.here hx rfl (hb hby d4_69) rfl ?_
              show Steps p.tables e below (s₁.setTop (mkF m 70 #[.val (.int ((p0.toUInt32 >>> ((8 : Int32) &&& 31).toUInt32).toInt32)), .val (.int (21 : Int32))] [(.int ((p0.toUInt32 >>> ((8 : Int32) &&& 31).toUInt32).toInt32))])) _
              refine XS.iconst X0.here hx rfl (hb hby d4_70) ?_
              show Steps p.tables e below (s₁.setTop (mkF m 71 #[.val (.int ((p0.toUInt32 >>> ((8 : Int32) &&& 31).toUInt32).toInt32)), .val (.int (21 : Int32))] [(.int (2 : Int32)), (.int ((p0.toUInt32 >>> ((8 : Int32) &&& 31).toUInt32).toInt32))])) _
              refine XS.iushr X0.here hx rfl (hb hby d4_71) rfl ?_
              show Steps p.tables e below (s₁.setTop (mkF m 72 #[.val (.int ((p0.toUInt32 >>> ((8 : Int32) &&& 31).toUInt32).toInt32)), .val (.int (21 : Int32))] [(.int ((((p0.toUInt32 >>> ((8 : Int32) &&& 31).toUInt32).toInt32).toUInt32 >>> ((2 : Int32) &&& 31).toUInt32).toInt32))])) _
              refine XS.istoreN X0.here hx rfl (hb hby d4_72) rfl (l' := #[.val (.int ((((p0.toUInt32 >>> ((8 : Int32) &&& 31).toUInt32).toInt32).toUInt32 >>> ((2 : Int32) &&& 31).toUInt32).toInt32)), .val (.int (21 : Int32))]) rfl ?_
              show Steps p.tables e below (s₁.setTop (mkF m 73 #[.val (.int ((((p0.toUInt32 >>> ((8 : Int32) &&& 31).toUInt32).toInt32).toUInt32 >>> ((2 : Int32) &&& 31).toUInt32).toInt32)), .val (.int (21 : Int32))] [])) _
              refine XS.iloadN X0.here hx rfl (hb hby d4_73) rfl ?_
              show Steps p.tables e below (s₁.setTop (mkF m 74 #[.val (.int ((((p0.toUInt32 >>> ((8 : Int32) &&& 31).toUInt32).toInt32).toUInt32 >>> ((2 : Int32) &&& 31).toUInt32).toInt32)), .val (.int (21 : Int32))] [(.int (21 : Int32))])) _
              refine XS.iloadN X0.here hx rfl (hb hby d4_74) rfl ?_
              show Steps p.tables e below (s₁.setTop (mkF m 75 #[.val (.int ((((p0.toUInt32 >>> ((8 : Int32) &&& 31).toUInt32).toInt32).toUInt32 >>> ((2 : Int32) &&& 31).toUInt32).toInt32)), .val (.int (21 : Int32))] [(.int ((((p0.toUInt32 >>> ((8 : Int32) &&& 31).toUInt32).toInt32).toUInt32 >>> ((2 : Int32) &&& 31).toUInt32).toInt32)), (.int (21 : Int32))])) _
              refine XS.iconst X0.here hx rfl (hb hby d4_75) ?_
              show Steps p.tables e below (s₁.setTop (mkF m 76 #[.val (.int ((((p0.toUInt32 >>> ((8 : Int32) &&& 31).toUInt32).toInt32).toUInt32 >>> ((2 : Int32) &&& 31).toUInt32).toInt32)), .val (.int (21 : Int32))] [(.int (1 : Int32)), (.int ((((p0.toUInt32 >>> ((8 : Int32) &&& 31).toUInt32).toInt32).toUInt32 >>> ((2 : Int32) &&& 31).toUInt32).toInt32)), (.int (21 : Int32))])) _
              refine XS.iushr X0.here hx rfl (hb hby d4_76) rfl ?_
              show Steps p.tables e below (s₁.setTop (mkF m 77 #[.val (.int ((((p0.toUInt32 >>> ((8 : Int32) &&& 31).toUInt32).toInt32).toUInt32 >>> ((2 : Int32) &&& 31).toUInt32).toInt32)), .val (.int (21 : Int32))] [(.int ((((((p0.toUInt32 >>> ((8 : Int32) &&& 31).toUInt32).toInt32).toUInt32 >>> ((2 : Int32) &&& 31).toUInt32).toInt32).toUInt32 >>> ((1 : Int32) &&& 31).toUInt32).toInt32)), (.int (21 : Int32))])) _
              refine XS.isub X0.here hx rfl (hb hby d4_77) rfl ?_
              exact kt
            exact own_end X0 hlk (v := some (.int ((21 : Int32) - ((((((p0.toUInt32 >>> ((8 : Int32) &&& 31).toUInt32).toInt32).toUInt32 >>> ((2 : Int32) &&& 31).toUInt32).toInt32).toUInt32 >>> ((1 : Int32) &&& 31).toUInt32).toInt32)))) (fun h => by rw [Bd.returns] at h; cases h) (fun fs hr => retI X0 hx Bd.returns (hb hby d4_78) hr) (by rw [e0]; exact ⟨(by rw [f_rmIZ, if_pos hc1, if_pos hc2, if_neg hc3, if_pos hc7, if_neg hc8]), N0, rfl⟩) (by decide : 0 ≤ _) (by decide : 0 ≤ _)
        · refine own_thr (a := s₁.setTop (mkF m 63 #[.val (.int ((((p0.toUInt32 >>> ((8 : Int32) &&& 31).toUInt32).toInt32).toUInt32 >>> ((4 : Int32) &&& 31).toUInt32).toInt32)), .val (.int (19 : Int32))] [(.int (4 : Int32)), (.int ((((p0.toUInt32 >>> ((8 : Int32) &&& 31).toUInt32).toInt32).toUInt32 >>> ((4 : Int32) &&& 31).toUInt32).toInt32))])) (fun t kt => ?_) ?_
          · show Steps p.tables e below (s₁.setTop (mkF m 51 #[.val (.int ((p0.toUInt32 >>> ((8 : Int32) &&& 31).toUInt32).toInt32)), .val (.int (23 : Int32))] [(.int (16 : Int32)), (.int ((p0.toUInt32 >>> ((8 : Int32) &&& 31).toUInt32).toInt32))])) _
            refine XS.icmpNo X0.here hx rfl (hb hby d4_51) rfl (flt hc7).1 ?_
            show Steps p.tables e below (s₁.setTop (mkF m 54 #[.val (.int ((p0.toUInt32 >>> ((8 : Int32) &&& 31).toUInt32).toInt32)), .val (.int (23 : Int32))] [])) _
            refine XS.iinc X0.here hx rfl (hb hby d4_54) rfl (l' := #[.val (.int ((p0.toUInt32 >>> ((8 : Int32) &&& 31).toUInt32).toInt32)), .val (.int (19 : Int32))]) rfl ?_
            show Steps p.tables e below (s₁.setTop (mkF m 57 #[.val (.int ((p0.toUInt32 >>> ((8 : Int32) &&& 31).toUInt32).toInt32)), .val (.int (19 : Int32))] [])) _
            refine XS.iloadN X0.here hx rfl (hb hby d4_57) rfl ?_
            show Steps p.tables e below (s₁.setTop (mkF m 58 #[.val (.int ((p0.toUInt32 >>> ((8 : Int32) &&& 31).toUInt32).toInt32)), .val (.int (19 : Int32))] [(.int ((p0.toUInt32 >>> ((8 : Int32) &&& 31).toUInt32).toInt32))])) _
            refine XS.iconst X0.here hx rfl (hb hby d4_58) ?_
            show Steps p.tables e below (s₁.setTop (mkF m 59 #[.val (.int ((p0.toUInt32 >>> ((8 : Int32) &&& 31).toUInt32).toInt32)), .val (.int (19 : Int32))] [(.int (4 : Int32)), (.int ((p0.toUInt32 >>> ((8 : Int32) &&& 31).toUInt32).toInt32))])) _
            refine XS.iushr X0.here hx rfl (hb hby d4_59) rfl ?_
            show Steps p.tables e below (s₁.setTop (mkF m 60 #[.val (.int ((p0.toUInt32 >>> ((8 : Int32) &&& 31).toUInt32).toInt32)), .val (.int (19 : Int32))] [(.int ((((p0.toUInt32 >>> ((8 : Int32) &&& 31).toUInt32).toInt32).toUInt32 >>> ((4 : Int32) &&& 31).toUInt32).toInt32))])) _
            refine XS.istoreN X0.here hx rfl (hb hby d4_60) rfl (l' := #[.val (.int ((((p0.toUInt32 >>> ((8 : Int32) &&& 31).toUInt32).toInt32).toUInt32 >>> ((4 : Int32) &&& 31).toUInt32).toInt32)), .val (.int (19 : Int32))]) rfl ?_
            show Steps p.tables e below (s₁.setTop (mkF m 61 #[.val (.int ((((p0.toUInt32 >>> ((8 : Int32) &&& 31).toUInt32).toInt32).toUInt32 >>> ((4 : Int32) &&& 31).toUInt32).toInt32)), .val (.int (19 : Int32))] [])) _
            refine XS.iloadN X0.here hx rfl (hb hby d4_61) rfl ?_
            show Steps p.tables e below (s₁.setTop (mkF m 62 #[.val (.int ((((p0.toUInt32 >>> ((8 : Int32) &&& 31).toUInt32).toInt32).toUInt32 >>> ((4 : Int32) &&& 31).toUInt32).toInt32)), .val (.int (19 : Int32))] [(.int ((((p0.toUInt32 >>> ((8 : Int32) &&& 31).toUInt32).toInt32).toUInt32 >>> ((4 : Int32) &&& 31).toUInt32).toInt32))])) _
            refine XS.iconst X0.here hx rfl (hb hby d4_62) ?_
            exact kt
          by_cases hc9 : ((((p0.toUInt32 >>> ((8 : Int32) &&& 31).toUInt32).toInt32).toUInt32 >>> ((4 : Int32) &&& 31).toUInt32).toInt32) < (4 : Int32)
          · refine own_thr (a := s₁.setTop (mkF m 78 #[.val (.int ((((p0.toUInt32 >>> ((8 : Int32) &&& 31).toUInt32).toInt32).toUInt32 >>> ((4 : Int32) &&& 31).toUInt32).toInt32)), .val (.int (19 : Int32))] [(.int ((19 : Int32) - ((((((p0.toUInt32 >>> ((8 : Int32) &&& 31).toUInt32).toInt32).toUInt32 >>> ((4 : Int32) &&& 31).toUInt32).toInt32).toUInt32 >>> ((1 : Int32) &&& 31).toUInt32).toInt32)))])) (fun t kt => ?_) ?_
            · show Steps p.tables e below (s₁.setTop (mkF m 63 #[.val (.int ((((p0.toUInt32 >>> ((8 : Int32) &&& 31).toUInt32).toInt32).toUInt32 >>> ((4 : Int32) &&& 31).toUInt32).toInt32)), .val (.int (19 : Int32))] [(.int (4 : Int32)), (.int ((((p0.toUInt32 >>> ((8 : Int32) &&& 31).toUInt32).toInt32).toUInt32 >>> ((4 : Int32) &&& 31).toUInt32).toInt32))])) _
              refine XS.icmpYes X0.here hx rfl (pc0 := 63) (pc' := 73) rfl (hb hby d4_63) rfl (tlt hc9).1 (by decide) (by decide) ?_
              show Steps p.tables e below (s₁.setTop (mkF m 73 #[.val (.int ((((p0.toUInt32 >>> ((8 : Int32) &&& 31).toUInt32).toInt32).toUInt32 >>> ((4 : Int32) &&& 31).toUInt32).toInt32)), .val (.int (19 : Int32))] [])) _
              refine XS.iloadN X0.here hx rfl (hb hby d4_73) rfl ?_
              show Steps p.tables e below (s₁.setTop (mkF m 74 #[.val (.int ((((p0.toUInt32 >>> ((8 : Int32) &&& 31).toUInt32).toInt32).toUInt32 >>> ((4 : Int32) &&& 31).toUInt32).toInt32)), .val (.int (19 : Int32))] [(.int (19 : Int32))])) _
              refine XS.iloadN X0.here hx rfl (hb hby d4_74) rfl ?_
              show Steps p.tables e below (s₁.setTop (mkF m 75 #[.val (.int ((((p0.toUInt32 >>> ((8 : Int32) &&& 31).toUInt32).toInt32).toUInt32 >>> ((4 : Int32) &&& 31).toUInt32).toInt32)), .val (.int (19 : Int32))] [(.int ((((p0.toUInt32 >>> ((8 : Int32) &&& 31).toUInt32).toInt32).toUInt32 >>> ((4 : Int32) &&& 31).toUInt32).toInt32)), (.int (19 : Int32))])) _
              refine XS.iconst X0.here hx rfl (hb hby d4_75) ?_
              show Steps p.tables e below (s₁.setTop (mkF m 76 #[.val (.int ((((p0.toUInt32 >>> ((8 : Int32) &&& 31).toUInt32).toInt32).toUInt32 >>> ((4 : Int32) &&& 31).toUInt32).toInt32)), .val (.int (19 : Int32))] [(.int (1 : Int32)), (.int ((((p0.toUInt32 >>> ((8 : Int32) &&& 31).toUInt32).toInt32).toUInt32 >>> ((4 : Int32) &&& 31).toUInt32).toInt32)), (.int (19 : Int32))])) _
              refine XS.iushr X0.here hx rfl (hb hby d4_76) rfl ?_
              show Steps p.tables e below (s₁.setTop (mkF m 77 #[.val (.int ((((p0.toUInt32 >>> ((8 : Int32) &&& 31).toUInt32).toInt32).toUInt32 >>> ((4 : Int32) &&& 31).toUInt32).toInt32)), .val (.int (19 : Int32))] [(.int ((((((p0.toUInt32 >>> ((8 : Int32) &&& 31).toUInt32).toInt32).toUInt32 >>> ((4 : Int32) &&& 31).toUInt32).toInt32).toUInt32 >>> ((1 : Int32) &&& 31).toUInt32).toInt32)), (.int (19 : Int32))])) _
              refine XS.isub X0.here hx rfl (hb hby d4_77) rfl ?_
              exact kt
            exact own_end X0 hlk (v := some (.int ((19 : Int32) - ((((((p0.toUInt32 >>> ((8 : Int32) &&& 31).toUInt32).toInt32).toUInt32 >>> ((4 : Int32) &&& 31).toUInt32).toInt32).toUInt32 >>> ((1 : Int32) &&& 31).toUInt32).toInt32)))) (fun h => by rw [Bd.returns] at h; cases h) (fun fs hr => retI X0 hx Bd.returns (hb hby d4_78) hr) (by rw [e0]; exact ⟨(by rw [f_rmIZ, if_pos hc1, if_pos hc2, if_neg hc3, if_neg hc7, if_pos hc9]), N0, rfl⟩) (by decide : 0 ≤ _) (by decide : 0 ≤ _)
          · refine own_thr (a := s₁.setTop (mkF m 78 #[.val (.int ((((((p0.toUInt32 >>> ((8 : Int32) &&& 31).toUInt32).toInt32).toUInt32 >>> ((4 : Int32) &&& 31).toUInt32).toInt32).toUInt32 >>> ((2 : Int32) &&& 31).toUInt32).toInt32)), .val (.int (17 : Int32))] [(.int ((17 : Int32) - ((((((((p0.toUInt32 >>> ((8 : Int32) &&& 31).toUInt32).toInt32).toUInt32 >>> ((4 : Int32) &&& 31).toUInt32).toInt32).toUInt32 >>> ((2 : Int32) &&& 31).toUInt32).toInt32).toUInt32 >>> ((1 : Int32) &&& 31).toUInt32).toInt32)))])) (fun t kt => ?_) ?_
            · show Steps p.tables e below (s₁.setTop (mkF m 63 #[.val (.int ((((p0.toUInt32 >>> ((8 : Int32) &&& 31).toUInt32).toInt32).toUInt32 >>> ((4 : Int32) &&& 31).toUInt32).toInt32)), .val (.int (19 : Int32))] [(.int (4 : Int32)), (.int ((((p0.toUInt32 >>> ((8 : Int32) &&& 31).toUInt32).toInt32).toUInt32 >>> ((4 : Int32) &&& 31).toUInt32).toInt32))])) _
              refine XS.icmpNo X0.here hx rfl (hb hby d4_63) rfl (flt hc9).1 ?_
              show Steps p.tables e below (s₁.setTop (mkF m 66 #[.val (.int ((((p0.toUInt32 >>> ((8 : Int32) &&& 31).toUInt32).toInt32).toUInt32 >>> ((4 : Int32) &&& 31).toUInt32).toInt32)), .val (.int (19 : Int32))] [])) _
              refine XS.iinc X0.here hx rfl (hb hby d4_66) rfl (l' := #[.val (.int ((((p0.toUInt32 >>> ((8 : Int32) &&& 31).toUInt32).toInt32).toUInt32 >>> ((4 : Int32) &&& 31).toUInt32).toInt32)), .val (.int (17 : Int32))]) rfl ?_
              show Steps p.tables e below (s₁.setTop (mkF m 69 #[.val (.int ((((p0.toUInt32 >>> ((8 : Int32) &&& 31).toUInt32).toInt32).toUInt32 >>> ((4 : Int32) &&& 31).toUInt32).toInt32)), .val (.int (17 : Int32))] [])) _
              refine XS.iloadN X0.here hx rfl (hb hby d4_69) rfl ?_
              show Steps p.tables e below (s₁.setTop (mkF m 70 #[.val (.int ((((p0.toUInt32 >>> ((8 : Int32) &&& 31).toUInt32).toInt32).toUInt32 >>> ((4 : Int32) &&& 31).toUInt32).toInt32)), .val (.int (17 : Int32))] [(.int ((((p0.toUInt32 >>> ((8 : Int32) &&& 31).toUInt32).toInt32).toUInt32 >>> ((4 : Int32) &&& 31).toUInt32).toInt32))])) _
              refine XS.iconst X0.here hx rfl (hb hby d4_70) ?_
              show Steps p.tables e below (s₁.setTop (mkF m 71 #[.val (.int ((((p0.toUInt32 >>> ((8 : Int32) &&& 31).toUInt32).toInt32).toUInt32 >>> ((4 : Int32) &&& 31).toUInt32).toInt32)), .val (.int (17 : Int32))] [(.int (2 : Int32)), (.int ((((p0.toUInt32 >>> ((8 : Int32) &&& 31).toUInt32).toInt32).toUInt32 >>> ((4 : Int32) &&& 31).toUInt32).toInt32))])) _
              refine XS.iushr X0.here hx rfl (hb hby d4_71) rfl ?_
              show Steps p.tables e below (s₁.setTop (mkF m 72 #[.val (.int ((((p0.toUInt32 >>> ((8 : Int32) &&& 31).toUInt32).toInt32).toUInt32 >>> ((4 : Int32) &&& 31).toUInt32).toInt32)), .val (.int (17 : Int32))] [(.int ((((((p0.toUInt32 >>> ((8 : Int32) &&& 31).toUInt32).toInt32).toUInt32 >>> ((4 : Int32) &&& 31).toUInt32).toInt32).toUInt32 >>> ((2 : Int32) &&& 31).toUInt32).toInt32))])) _
              refine XS.istoreN X0.here hx rfl (hb hby d4_72) rfl (l' := #[.val (.int ((((((p0.toUInt32 >>> ((8 : Int32) &&& 31).toUInt32).toInt32).toUInt32 >>> ((4 : Int32) &&& 31).toUInt32).toInt32).toUInt32 >>> ((2 : Int32) &&& 31).toUInt32).toInt32)), .val (.int (17 : Int32))]) rfl ?_
              show Steps p.tables e below (s₁.setTop (mkF m 73 #[.val (.int ((((((p0.toUInt32 >>> ((8 : Int32) &&& 31).toUInt32).toInt32).toUInt32 >>> ((4 : Int32) &&& 31).toUInt32).toInt32).toUInt32 >>> ((2 : Int32) &&& 31).toUInt32).toInt32)), .val (.int (17 : Int32))] [])) _
              refine XS.iloadN X0.here hx rfl (hb hby d4_73) rfl ?_
              show Steps p.tables e below (s₁.setTop (mkF m 74 #[.val (.int ((((((p0.toUInt32 >>> ((8 : Int32) &&& 31).toUInt32).toInt32).toUInt32 >>> ((4 : Int32) &&& 31).toUInt32).toInt32).toUInt32 >>> ((2 : Int32) &&& 31).toUInt32).toInt32)), .val (.int (17 : Int32))] [(.int (17 : Int32))])) _
              refine XS.iloadN X0.here hx rfl (hb hby d4_74) rfl ?_
              show Steps p.tables e below (s₁.setTop (mkF m 75 #[.val (.int ((((((p0.toUInt32 >>> ((8 : Int32) &&& 31).toUInt32).toInt32).toUInt32 >>> ((4 : Int32) &&& 31).toUInt32).toInt32).toUInt32 >>> ((2 : Int32) &&& 31).toUInt32).toInt32)), .val (.int (17 : Int32))] [(.int ((((((p0.toUInt32 >>> ((8 : Int32) &&& 31).toUInt32).toInt32).toUInt32 >>> ((4 : Int32) &&& 31).toUInt32).toInt32).toUInt32 >>> ((2 : Int32) &&& 31).toUInt32).toInt32)), (.int (17 : Int32))])) _
              refine XS.iconst X0.here hx rfl (hb hby d4_75) ?_
              show Steps p.tables e below (s₁.setTop (mkF m 76 #[.val (.int ((((((p0.toUInt32 >>> ((8 : Int32) &&& 31).toUInt32).toInt32).toUInt32 >>> ((4 : Int32) &&& 31).toUInt32).toInt32).toUInt32 >>> ((2 : Int32) &&& 31).toUInt32).toInt32)), .val (.int (17 : Int32))] [(.int (1 : Int32)), (.int ((((((p0.toUInt32 >>> ((8 : Int32) &&& 31).toUInt32).toInt32).toUInt32 >>> ((4 : Int32) &&& 31).toUInt32).toInt32).toUInt32 >>> ((2 : Int32) &&& 31).toUInt32).toInt32)), (.int (17 : Int32))])) _
              refine XS.iushr X0.here hx rfl (hb hby d4_76) rfl ?_
              show Steps p.tables e below (s₁.setTop (mkF m 77 #[.val (.int ((((((p0.toUInt32 >>> ((8 : Int32) &&& 31).toUInt32).toInt32).toUInt32 >>> ((4 : Int32) &&& 31).toUInt32).toInt32).toUInt32 >>> ((2 : Int32) &&& 31).toUInt32).toInt32)), .val (.int (17 : Int32))] [(.int ((((((((p0.toUInt32 >>> ((8 : Int32) &&& 31).toUInt32).toInt32).toUInt32 >>> ((4 : Int32) &&& 31).toUInt32).toInt32).toUInt32 >>> ((2 : Int32) &&& 31).toUInt32).toInt32).toUInt32 >>> ((1 : Int32) &&& 31).toUInt32).toInt32)), (.int (17 : Int32))])) _
              refine XS.isub X0.here hx rfl (hb hby d4_77) rfl ?_
              exact kt
            exact own_end X0 hlk (v := some (.int ((17 : Int32) - ((((((((p0.toUInt32 >>> ((8 : Int32) &&& 31).toUInt32).toInt32).toUInt32 >>> ((4 : Int32) &&& 31).toUInt32).toInt32).toUInt32 >>> ((2 : Int32) &&& 31).toUInt32).toInt32).toUInt32 >>> ((1 : Int32) &&& 31).toUInt32).toInt32)))) (fun h => by rw [Bd.returns] at h; cases h) (fun fs hr => retI X0 hx Bd.returns (hb hby d4_78) hr) (by rw [e0]; exact ⟨(by rw [f_rmIZ, if_pos hc1, if_pos hc2, if_neg hc3, if_neg hc7, if_neg hc9]), N0, rfl⟩) (by decide : 0 ≤ _) (by decide : 0 ≤ _)
    · refine own_thr (a := s₁.setTop (mkF m 37 #[.val (.int ((p0.toUInt32 >>> ((16 : Int32) &&& 31).toUInt32).toInt32)), .val (.int (15 : Int32))] [(.int (256 : Int32)), (.int ((p0.toUInt32 >>> ((16 : Int32) &&& 31).toUInt32).toInt32))])) (fun t kt => ?_) ?_
      · show Steps p.tables e below (s₁.setTop (mkF m 22 #[.val (.int p0), .val (.int (31 : Int32))] [(.int (65536 : Int32)), (.int p0)])) _
        refine XS.icmpNo X0.here hx rfl (hb hby d4_22) rfl (flt hc2).1 ?_
        show Steps p.tables e below (s₁.setTop (mkF m 25 #[.val (.int p0), .val (.int (31 : Int32))] [])) _
        refine XS.iinc X0.here hx rfl (hb hby d4_25) rfl (l' := #[.val (.int p0), .val (.int (15 : Int32))]) rfl ?_
        show Steps p.tables e below (s₁.setTop (mkF m 28 #[.val (.int p0), .val (.int (15 : Int32))] [])) _
        refine XS.iloadN X0.here hx rfl (hb hby d4_28) rfl ?_
        show Steps p.tables e below (s₁.setTop (mkF m 29 #[.val (.int p0), .val (.int (15 : Int32))] [(.int p0)])) _
        refine XS.bipush X0.here hx rfl (hb hby d4_29) ?_
        show Steps p.tables e below (s₁.setTop (mkF m 31 #[.val (.int p0), .val (.int (15 : Int32))] [(.int (16 : Int32)), (.int p0)])) _
        refine XS.iushr X0.here hx rfl (hb hby d4_31) rfl ?_
        show Steps p.tables e below (s₁.setTop (mkF m 32 #[.val (.int p0), .val (.int (15 : Int32))] [(.int ((p0.toUInt32 >>> ((16 : Int32) &&& 31).toUInt32).toInt32))])) _
        refine XS.istoreN X0.here hx rfl (hb hby d4_32) rfl (l' := #[.val (.int ((p0.toUInt32 >>> ((16 : Int32) &&& 31).toUInt32).toInt32)), .val (.int (15 : Int32))]) rfl ?_
        show Steps p.tables e below (s₁.setTop (mkF m 33 #[.val (.int ((p0.toUInt32 >>> ((16 : Int32) &&& 31).toUInt32).toInt32)), .val (.int (15 : Int32))] [])) _
        refine XS.iloadN X0.here hx rfl (hb hby d4_33) rfl ?_
        show Steps p.tables e below (s₁.setTop (mkF m 34 #[.val (.int ((p0.toUInt32 >>> ((16 : Int32) &&& 31).toUInt32).toInt32)), .val (.int (15 : Int32))] [(.int ((p0.toUInt32 >>> ((16 : Int32) &&& 31).toUInt32).toInt32))])) _
        refine XS.sipush X0.here hx rfl (hb hby d4_34) ?_
        exact kt
      by_cases hc10 : ((p0.toUInt32 >>> ((16 : Int32) &&& 31).toUInt32).toInt32) < (256 : Int32)
      · refine own_thr (a := s₁.setTop (mkF m 51 #[.val (.int ((p0.toUInt32 >>> ((16 : Int32) &&& 31).toUInt32).toInt32)), .val (.int (15 : Int32))] [(.int (16 : Int32)), (.int ((p0.toUInt32 >>> ((16 : Int32) &&& 31).toUInt32).toInt32))])) (fun t kt => ?_) ?_
        · show Steps p.tables e below (s₁.setTop (mkF m 37 #[.val (.int ((p0.toUInt32 >>> ((16 : Int32) &&& 31).toUInt32).toInt32)), .val (.int (15 : Int32))] [(.int (256 : Int32)), (.int ((p0.toUInt32 >>> ((16 : Int32) &&& 31).toUInt32).toInt32))])) _
          refine XS.icmpYes X0.here hx rfl (pc0 := 37) (pc' := 48) rfl (hb hby d4_37) rfl (tlt hc10).1 (by decide) (by decide) ?_
          show Steps p.tables e below (s₁.setTop (mkF m 48 #[.val (.int ((p0.toUInt32 >>> ((16 : Int32) &&& 31).toUInt32).toInt32)), .val (.int (15 : Int32))] [])) _
          refine XS.iloadN X0.here hx rfl (hb hby d4_48) rfl ?_
          show Steps p.tables e below (s₁.setTop (mkF m 49 #[.val (.int ((p0.toUInt32 >>> ((16 : Int32) &&& 31).toUInt32).toInt32)), .val (.int (15 : Int32))] [(.int ((p0.toUInt32 >>> ((16 : Int32) &&& 31).toUInt32).toInt32))])) _
          refine XS.bipush X0.here hx rfl (hb hby d4_49) ?_
          exact kt
        by_cases hc11 : ((p0.toUInt32 >>> ((16 : Int32) &&& 31).toUInt32).toInt32) < (16 : Int32)
        · refine own_thr (a := s₁.setTop (mkF m 63 #[.val (.int ((p0.toUInt32 >>> ((16 : Int32) &&& 31).toUInt32).toInt32)), .val (.int (15 : Int32))] [(.int (4 : Int32)), (.int ((p0.toUInt32 >>> ((16 : Int32) &&& 31).toUInt32).toInt32))])) (fun t kt => ?_) ?_
          · show Steps p.tables e below (s₁.setTop (mkF m 51 #[.val (.int ((p0.toUInt32 >>> ((16 : Int32) &&& 31).toUInt32).toInt32)), .val (.int (15 : Int32))] [(.int (16 : Int32)), (.int ((p0.toUInt32 >>> ((16 : Int32) &&& 31).toUInt32).toInt32))])) _
            refine XS.icmpYes X0.here hx rfl (pc0 := 51) (pc' := 61) rfl (hb hby d4_51) rfl (tlt hc11).1 (by decide) (by decide) ?_
            show Steps p.tables e below (s₁.setTop (mkF m 61 #[.val (.int ((p0.toUInt32 >>> ((16 : Int32) &&& 31).toUInt32).toInt32)), .val (.int (15 : Int32))] [])) _
            refine XS.iloadN X0.here hx rfl (hb hby d4_61) rfl ?_
            show Steps p.tables e below (s₁.setTop (mkF m 62 #[.val (.int ((p0.toUInt32 >>> ((16 : Int32) &&& 31).toUInt32).toInt32)), .val (.int (15 : Int32))] [(.int ((p0.toUInt32 >>> ((16 : Int32) &&& 31).toUInt32).toInt32))])) _
            refine XS.iconst X0.here hx rfl (hb hby d4_62) ?_
            exact kt
          by_cases hc12 : ((p0.toUInt32 >>> ((16 : Int32) &&& 31).toUInt32).toInt32) < (4 : Int32)
          · refine own_thr (a := s₁.setTop (mkF m 78 #[.val (.int ((p0.toUInt32 >>> ((16 : Int32) &&& 31).toUInt32).toInt32)), .val (.int (15 : Int32))] [(.int ((15 : Int32) - ((((p0.toUInt32 >>> ((16 : Int32) &&& 31).toUInt32).toInt32).toUInt32 >>> ((1 : Int32) &&& 31).toUInt32).toInt32)))])) (fun t kt => ?_) ?_
            · show Steps p.tables e below (s₁.setTop (mkF m 63 #[.val (.int ((p0.toUInt32 >>> ((16 : Int32) &&& 31).toUInt32).toInt32)), .val (.int (15 : Int32))] [(.int (4 : Int32)), (.int ((p0.toUInt32 >>> ((16 : Int32) &&& 31).toUInt32).toInt32))])) _
              refine XS.icmpYes X0.here hx rfl (pc0 := 63) (pc' := 73) rfl (hb hby d4_63) rfl (tlt hc12).1 (by decide) (by decide) ?_
              show Steps p.tables e below (s₁.setTop (mkF m 73 #[.val (.int ((p0.toUInt32 >>> ((16 : Int32) &&& 31).toUInt32).toInt32)), .val (.int (15 : Int32))] [])) _
              refine XS.iloadN X0.here hx rfl (hb hby d4_73) rfl ?_
              show Steps p.tables e below (s₁.setTop (mkF m 74 #[.val (.int ((p0.toUInt32 >>> ((16 : Int32) &&& 31).toUInt32).toInt32)), .val (.int (15 : Int32))] [(.int (15 : Int32))])) _
              refine XS.iloadN X0.here hx rfl (hb hby d4_74) rfl ?_
              show Steps p.tables e below (s₁.setTop (mkF m 75 #[.val (.int ((p0.toUInt32 >>> ((16 : Int32) &&& 31).toUInt32).toInt32)), .val (.int (15 : Int32))] [(.int ((p0.toUInt32 >>> ((16 : Int32) &&& 31).toUInt32).toInt32)), (.int (15 : Int32))])) _
              refine XS.iconst X0.here hx rfl (hb hby d4_75) ?_
              show Steps p.tables e below (s₁.setTop (mkF m 76 #[.val (.int ((p0.toUInt32 >>> ((16 : Int32) &&& 31).toUInt32).toInt32)), .val (.int (15 : Int32))] [(.int (1 : Int32)), (.int ((p0.toUInt32 >>> ((16 : Int32) &&& 31).toUInt32).toInt32)), (.int (15 : Int32))])) _
              refine XS.iushr X0.here hx rfl (hb hby d4_76) rfl ?_
              show Steps p.tables e below (s₁.setTop (mkF m 77 #[.val (.int ((p0.toUInt32 >>> ((16 : Int32) &&& 31).toUInt32).toInt32)), .val (.int (15 : Int32))] [(.int ((((p0.toUInt32 >>> ((16 : Int32) &&& 31).toUInt32).toInt32).toUInt32 >>> ((1 : Int32) &&& 31).toUInt32).toInt32)), (.int (15 : Int32))])) _
              refine XS.isub X0.here hx rfl (hb hby d4_77) rfl ?_
              exact kt
            exact own_end X0 hlk (v := some (.int ((15 : Int32) - ((((p0.toUInt32 >>> ((16 : Int32) &&& 31).toUInt32).toInt32).toUInt32 >>> ((1 : Int32) &&& 31).toUInt32).toInt32)))) (fun h => by rw [Bd.returns] at h; cases h) (fun fs hr => retI X0 hx Bd.returns (hb hby d4_78) hr) (by rw [e0]; exact ⟨(by rw [f_rmIZ, if_pos hc1, if_neg hc2, if_pos hc10, if_pos hc11, if_pos hc12]), N0, rfl⟩) (by decide : 0 ≤ _) (by decide : 0 ≤ _)
          · refine own_thr (a := s₁.setTop (mkF m 78 #[.val (.int ((((p0.toUInt32 >>> ((16 : Int32) &&& 31).toUInt32).toInt32).toUInt32 >>> ((2 : Int32) &&& 31).toUInt32).toInt32)), .val (.int (13 : Int32))] [(.int ((13 : Int32) - ((((((p0.toUInt32 >>> ((16 : Int32) &&& 31).toUInt32).toInt32).toUInt32 >>> ((2 : Int32) &&& 31).toUInt32).toInt32).toUInt32 >>> ((1 : Int32) &&& 31).toUInt32).toInt32)))])) (fun t kt => ?_) ?_
            · show Steps p.tables e below (s₁.setTop (mkF m 63 #[.val (.int ((p0.toUInt32 >>> ((16 : Int32) &&& 31).toUInt32).toInt32)), .val (.int (15 : Int32))] [(.int (4 : Int32)), (.int ((p0.toUInt32 >>> ((16 : Int32) &&& 31).toUInt32).toInt32))])) _
              refine XS.icmpNo X0.here hx rfl (hb hby d4_63) rfl (flt hc12).1 ?_
              show Steps p.tables e below (s₁.setTop (mkF m 66 #[.val (.int ((p0.toUInt32 >>> ((16 : Int32) &&& 31).toUInt32).toInt32)), .val (.int (15 : Int32))] [])) _
              refine XS.iinc X0.here hx rfl (hb hby d4_66) rfl (l' := #[.val (.int ((p0.toUInt32 >>> ((16 : Int32) &&& 31).toUInt32).toInt32)), .val (.int (13 : Int32))]) rfl ?_
              show Steps p.tables e below (s₁.setTop (mkF m 69 #[.val (.int ((p0.toUInt32 >>> ((16 : Int32) &&& 31).toUInt32).toInt32)), .val (.int (13 : Int32))] [])) _
              refine XS.iloadN X0.here hx rfl (hb hby d4_69) rfl ?_
              show Steps p.tables e below (s₁.setTop (mkF m 70 #[.val (.int ((p0.toUInt32 >>> ((16 : Int32) &&& 31).toUInt32).toInt32)), .val (.int (13 : Int32))] [(.int ((p0.toUInt32 >>> ((16 : Int32) &&& 31).toUInt32).toInt32))])) _
              refine XS.iconst X0.here hx rfl (hb hby d4_70) ?_
              show Steps p.tables e below (s₁.setTop (mkF m 71 #[.val (.int ((p0.toUInt32 >>> ((16 : Int32) &&& 31).toUInt32).toInt32)), .val (.int (13 : Int32))] [(.int (2 : Int32)), (.int ((p0.toUInt32 >>> ((16 : Int32) &&& 31).toUInt32).toInt32))])) _
              refine XS.iushr X0.here hx rfl (hb hby d4_71) rfl ?_
              show Steps p.tables e below (s₁.setTop (mkF m 72 #[.val (.int ((p0.toUInt32 >>> ((16 : Int32) &&& 31).toUInt32).toInt32)), .val (.int (13 : Int32))] [(.int ((((p0.toUInt32 >>> ((16 : Int32) &&& 31).toUInt32).toInt32).toUInt32 >>> ((2 : Int32) &&& 31).toUInt32).toInt32))])) _
              refine XS.istoreN X0.here hx rfl (hb hby d4_72) rfl (l' := #[.val (.int ((((p0.toUInt32 >>> ((16 : Int32) &&& 31).toUInt32).toInt32).toUInt32 >>> ((2 : Int32) &&& 31).toUInt32).toInt32)), .val (.int (13 : Int32))]) rfl ?_
              show Steps p.tables e below (s₁.setTop (mkF m 73 #[.val (.int ((((p0.toUInt32 >>> ((16 : Int32) &&& 31).toUInt32).toInt32).toUInt32 >>> ((2 : Int32) &&& 31).toUInt32).toInt32)), .val (.int (13 : Int32))] [])) _
              refine XS.iloadN X0.here hx rfl (hb hby d4_73) rfl ?_
              show Steps p.tables e below (s₁.setTop (mkF m 74 #[.val (.int ((((p0.toUInt32 >>> ((16 : Int32) &&& 31).toUInt32).toInt32).toUInt32 >>> ((2 : Int32) &&& 31).toUInt32).toInt32)), .val (.int (13 : Int32))] [(.int (13 : Int32))])) _
              refine XS.iloadN X0.here hx rfl (hb hby d4_74) rfl ?_
              show Steps p.tables e below (s₁.setTop (mkF m 75 #[.val (.int ((((p0.toUInt32 >>> ((16 : Int32) &&& 31).toUInt32).toInt32).toUInt32 >>> ((2 : Int32) &&& 31).toUInt32).toInt32)), .val (.int (13 : Int32))] [(.int ((((p0.toUInt32 >>> ((16 : Int32) &&& 31).toUInt32).toInt32).toUInt32 >>> ((2 : Int32) &&& 31).toUInt32).toInt32)), (.int (13 : Int32))])) _
              refine XS.iconst X0.here hx rfl (hb hby d4_75) ?_
              show Steps p.tables e below (s₁.setTop (mkF m 76 #[.val (.int ((((p0.toUInt32 >>> ((16 : Int32) &&& 31).toUInt32).toInt32).toUInt32 >>> ((2 : Int32) &&& 31).toUInt32).toInt32)), .val (.int (13 : Int32))] [(.int (1 : Int32)), (.int ((((p0.toUInt32 >>> ((16 : Int32) &&& 31).toUInt32).toInt32).toUInt32 >>> ((2 : Int32) &&& 31).toUInt32).toInt32)), (.int (13 : Int32))])) _
              refine XS.iushr X0.here hx rfl (hb hby d4_76) rfl ?_
              show Steps p.tables e below (s₁.setTop (mkF m 77 #[.val (.int ((((p0.toUInt32 >>> ((16 : Int32) &&& 31).toUInt32).toInt32).toUInt32 >>> ((2 : Int32) &&& 31).toUInt32).toInt32)), .val (.int (13 : Int32))] [(.int ((((((p0.toUInt32 >>> ((16 : Int32) &&& 31).toUInt32).toInt32).toUInt32 >>> ((2 : Int32) &&& 31).toUInt32).toInt32).toUInt32 >>> ((1 : Int32) &&& 31).toUInt32).toInt32)), (.int (13 : Int32))])) _
              refine XS.isub X0.here hx rfl (hb hby d4_77) rfl ?_
              exact kt
            exact own_end X0 hlk (v := some (.int ((13 : Int32) - ((((((p0.toUInt32 >>> ((16 : Int32) &&& 31).toUInt32).toInt32).toUInt32 >>> ((2 : Int32) &&& 31).toUInt32).toInt32).toUInt32 >>> ((1 : Int32) &&& 31).toUInt32).toInt32)))) (fun h => by rw [Bd.returns] at h; cases h) (fun fs hr => retI X0 hx Bd.returns (hb hby d4_78) hr) (by rw [e0]; exact ⟨(by rw [f_rmIZ, if_pos hc1, if_neg hc2, if_pos hc10, if_pos hc11, if_neg hc12]), N0, rfl⟩) (by decide : 0 ≤ _) (by decide : 0 ≤ _)
        · refine own_thr (a := s₁.setTop (mkF m 63 #[.val (.int ((((p0.toUInt32 >>> ((16 : Int32) &&& 31).toUInt32).toInt32).toUInt32 >>> ((4 : Int32) &&& 31).toUInt32).toInt32)), .val (.int (11 : Int32))] [(.int (4 : Int32)), (.int ((((p0.toUInt32 >>> ((16 : Int32) &&& 31).toUInt32).toInt32).toUInt32 >>> ((4 : Int32) &&& 31).toUInt32).toInt32))])) (fun t kt => ?_) ?_
          · show Steps p.tables e below (s₁.setTop (mkF m 51 #[.val (.int ((p0.toUInt32 >>> ((16 : Int32) &&& 31).toUInt32).toInt32)), .val (.int (15 : Int32))] [(.int (16 : Int32)), (.int ((p0.toUInt32 >>> ((16 : Int32) &&& 31).toUInt32).toInt32))])) _
            refine XS.icmpNo X0.here hx rfl (hb hby d4_51) rfl (flt hc11).1 ?_
            show Steps p.tables e below (s₁.setTop (mkF m 54 #[.val (.int ((p0.toUInt32 >>> ((16 : Int32) &&& 31).toUInt32).toInt32)), .val (.int (15 : Int32))] [])) _
            refine XS.iinc X0.here hx rfl (hb hby d4_54) rfl (l' := #[.val (.int ((p0.toUInt32 >>> ((16 : Int32) &&& 31).toUInt32).toInt32)), .val (.int (11 : Int32))]) rfl ?_
            show Steps p.tables e below (s₁.setTop (mkF m 57 #[.val (.int ((p0.toUInt32 >>> ((16 : Int32) &&& 31).toUInt32).toInt32)), .val (.int (11 : Int32))] [])) _
            refine XS.iloadN X0.here hx rfl (hb hby d4_57) rfl ?_
            show Steps p.tables e below (s₁.setTop (mkF m 58 #[.val (.int ((p0.toUInt32 >>> ((16 : Int32) &&& 31).toUInt32).toInt32)), .val (.int (11 : Int32))] [(.int ((p0.toUInt32 >>> ((16 : Int32) &&& 31).toUInt32).toInt32))])) _
            refine XS.iconst X0.here hx rfl (hb hby d4_58) ?_
            show Steps p.tables e below (s₁.setTop (mkF m 59 #[.val (.int ((p0.toUInt32 >>> ((16 : Int32) &&& 31).toUInt32).toInt32)), .val (.int (11 : Int32))] [(.int (4 : Int32)), (.int ((p0.toUInt32 >>> ((16 : Int32) &&& 31).toUInt32).toInt32))])) _
            refine XS.iushr X0.here hx rfl (hb hby d4_59) rfl ?_
            show Steps p.tables e below (s₁.setTop (mkF m 60 #[.val (.int ((p0.toUInt32 >>> ((16 : Int32) &&& 31).toUInt32).toInt32)), .val (.int (11 : Int32))] [(.int ((((p0.toUInt32 >>> ((16 : Int32) &&& 31).toUInt32).toInt32).toUInt32 >>> ((4 : Int32) &&& 31).toUInt32).toInt32))])) _
            refine XS.istoreN X0.here hx rfl (hb hby d4_60) rfl (l' := #[.val (.int ((((p0.toUInt32 >>> ((16 : Int32) &&& 31).toUInt32).toInt32).toUInt32 >>> ((4 : Int32) &&& 31).toUInt32).toInt32)), .val (.int (11 : Int32))]) rfl ?_
            show Steps p.tables e below (s₁.setTop (mkF m 61 #[.val (.int ((((p0.toUInt32 >>> ((16 : Int32) &&& 31).toUInt32).toInt32).toUInt32 >>> ((4 : Int32) &&& 31).toUInt32).toInt32)), .val (.int (11 : Int32))] [])) _
            refine XS.iloadN X0.here hx rfl (hb hby d4_61) rfl ?_
            show Steps p.tables e below (s₁.setTop (mkF m 62 #[.val (.int ((((p0.toUInt32 >>> ((16 : Int32) &&& 31).toUInt32).toInt32).toUInt32 >>> ((4 : Int32) &&& 31).toUInt32).toInt32)), .val (.int (11 : Int32))] [(.int ((((p0.toUInt32 >>> ((16 : Int32) &&& 31).toUInt32).toInt32).toUInt32 >>> ((4 : Int32) &&& 31).toUInt32).toInt32))])) _
            refine XS.iconst X0.here hx rfl (hb hby d4_62) ?_
            exact kt
          by_cases hc13 : ((((p0.toUInt32 >>> ((16 : Int32) &&& 31).toUInt32).toInt32).toUInt32 >>> ((4 : Int32) &&& 31).toUInt32).toInt32) < (4 : Int32)
          · refine own_thr (a := s₁.setTop (mkF m 78 #[.val (.int ((((p0.toUInt32 >>> ((16 : Int32) &&& 31).toUInt32).toInt32).toUInt32 >>> ((4 : Int32) &&& 31).toUInt32).toInt32)), .val (.int (11 : Int32))] [(.int ((11 : Int32) - ((((((p0.toUInt32 >>> ((16 : Int32) &&& 31).toUInt32).toInt32).toUInt32 >>> ((4 : Int32) &&& 31).toUInt32).toInt32).toUInt32 >>> ((1 : Int32) &&& 31).toUInt32).toInt32)))])) (fun t kt => ?_) ?_
            · show Steps p.tables e below (s₁.setTop (mkF m 63 #[.val (.int ((((p0.toUInt32 >>> ((16 : Int32) &&& 31).toUInt32).toInt32).toUInt32 >>> ((4 : Int32) &&& 31).toUInt32).toInt32)), .val (.int (11 : Int32))] [(.int (4 : Int32)), (.int ((((p0.toUInt32 >>> ((16 : Int32) &&& 31).toUInt32).toInt32).toUInt32 >>> ((4 : Int32) &&& 31).toUInt32).toInt32))])) _
              refine XS.icmpYes X0.here hx rfl (pc0 := 63) (pc' := 73) rfl (hb hby d4_63) rfl (tlt hc13).1 (by decide) (by decide) ?_
              show Steps p.tables e below (s₁.setTop (mkF m 73 #[.val (.int ((((p0.toUInt32 >>> ((16 : Int32) &&& 31).toUInt32).toInt32).toUInt32 >>> ((4 : Int32) &&& 31).toUInt32).toInt32)), .val (.int (11 : Int32))] [])) _
              refine XS.iloadN X0.here hx rfl (hb hby d4_73) rfl ?_
              show Steps p.tables e below (s₁.setTop (mkF m 74 #[.val (.int ((((p0.toUInt32 >>> ((16 : Int32) &&& 31).toUInt32).toInt32).toUInt32 >>> ((4 : Int32) &&& 31).toUInt32).toInt32)), .val (.int (11 : Int32))] [(.int (11 : Int32))])) _
              refine XS.iloadN X0.here hx rfl (hb hby d4_74) rfl ?_
              show Steps p.tables e below (s₁.setTop (mkF m 75 #[.val (.int ((((p0.toUInt32 >>> ((16 : Int32) &&& 31).toUInt32).toInt32).toUInt32 >>> ((4 : Int32) &&& 31).toUInt32).toInt32)), .val (.int (11 : Int32))] [(.int ((((p0.toUInt32 >>> ((16 : Int32) &&& 31).toUInt32).toInt32).toUInt32 >>> ((4 : Int32) &&& 31).toUInt32).toInt32)), (.int (11 : Int32))])) _
              refine XS.iconst X0.here hx rfl (hb hby d4_75) ?_
              show Steps p.tables e below (s₁.setTop (mkF m 76 #[.val (.int ((((p0.toUInt32 >>> ((16 : Int32) &&& 31).toUInt32).toInt32).toUInt32 >>> ((4 : Int32) &&& 31).toUInt32).toInt32)), .val (.int (11 : Int32))] [(.int (1 : Int32)), (.int ((((p0.toUInt32 >>> ((16 : Int32) &&& 31).toUInt32).toInt32).toUInt32 >>> ((4 : Int32) &&& 31).toUInt32).toInt32)), (.int (11 : Int32))])) _
              refine XS.iushr X0.here hx rfl (hb hby d4_76) rfl ?_
              show Steps p.tables e below (s₁.setTop (mkF m 77 #[.val (.int ((((p0.toUInt32 >>> ((16 : Int32) &&& 31).toUInt32).toInt32).toUInt32 >>> ((4 : Int32) &&& 31).toUInt32).toInt32)), .val (.int (11 : Int32))] [(.int ((((((p0.toUInt32 >>> ((16 : Int32) &&& 31).toUInt32).toInt32).toUInt32 >>> ((4 : Int32) &&& 31).toUInt32).toInt32).toUInt32 >>> ((1 : Int32) &&& 31).toUInt32).toInt32)), (.int (11 : Int32))])) _
              refine XS.isub X0.here hx rfl (hb hby d4_77) rfl ?_
              exact kt
            exact own_end X0 hlk (v := some (.int ((11 : Int32) - ((((((p0.toUInt32 >>> ((16 : Int32) &&& 31).toUInt32).toInt32).toUInt32 >>> ((4 : Int32) &&& 31).toUInt32).toInt32).toUInt32 >>> ((1 : Int32) &&& 31).toUInt32).toInt32)))) (fun h => by rw [Bd.returns] at h; cases h) (fun fs hr => retI X0 hx Bd.returns (hb hby d4_78) hr) (by rw [e0]; exact ⟨(by rw [f_rmIZ, if_pos hc1, if_neg hc2, if_pos hc10, if_neg hc11, if_pos hc13]), N0, rfl⟩) (by decide : 0 ≤ _) (by decide : 0 ≤ _)
          · refine own_thr (a := s₁.setTop (mkF m 78 #[.val (.int ((((((p0.toUInt32 >>> ((16 : Int32) &&& 31).toUInt32).toInt32).toUInt32 >>> ((4 : Int32) &&& 31).toUInt32).toInt32).toUInt32 >>> ((2 : Int32) &&& 31).toUInt32).toInt32)), .val (.int (9 : Int32))] [(.int ((9 : Int32) - ((((((((p0.toUInt32 >>> ((16 : Int32) &&& 31).toUInt32).toInt32).toUInt32 >>> ((4 : Int32) &&& 31).toUInt32).toInt32).toUInt32 >>> ((2 : Int32) &&& 31).toUInt32).toInt32).toUInt32 >>> ((1 : Int32) &&& 31).toUInt32).toInt32)))])) (fun t kt => ?_) ?_
            · show Steps p.tables e below (s₁.setTop (mkF m 63 #[.val (.int ((((p0.toUInt32 >>> ((16 : Int32) &&& 31).toUInt32).toInt32).toUInt32 >>> ((4 : Int32) &&& 31).toUInt32).toInt32)), .val (.int (11 : Int32))] [(.int (4 : Int32)), (.int ((((p0.toUInt32 >>> ((16 : Int32) &&& 31).toUInt32).toInt32).toUInt32 >>> ((4 : Int32) &&& 31).toUInt32).toInt32))])) _
              refine XS.icmpNo X0.here hx rfl (hb hby d4_63) rfl (flt hc13).1 ?_
              show Steps p.tables e below (s₁.setTop (mkF m 66 #[.val (.int ((((p0.toUInt32 >>> ((16 : Int32) &&& 31).toUInt32).toInt32).toUInt32 >>> ((4 : Int32) &&& 31).toUInt32).toInt32)), .val (.int (11 : Int32))] [])) _
              refine XS.iinc X0.here hx rfl (hb hby d4_66) rfl (l' := #[.val (.int ((((p0.toUInt32 >>> ((16 : Int32) &&& 31).toUInt32).toInt32).toUInt32 >>> ((4 : Int32) &&& 31).toUInt32).toInt32)), .val (.int (9 : Int32))]) rfl ?_
              show Steps p.tables e below (s₁.setTop (mkF m 69 #[.val (.int ((((p0.toUInt32 >>> ((16 : Int32) &&& 31).toUInt32).toInt32).toUInt32 >>> ((4 : Int32) &&& 31).toUInt32).toInt32)), .val (.int (9 : Int32))] [])) _
              refine XS.iloadN X0.here hx rfl (hb hby d4_69) rfl ?_
              show Steps p.tables e below (s₁.setTop (mkF m 70 #[.val (.int ((((p0.toUInt32 >>> ((16 : Int32) &&& 31).toUInt32).toInt32).toUInt32 >>> ((4 : Int32) &&& 31).toUInt32).toInt32)), .val (.int (9 : Int32))] [(.int ((((p0.toUInt32 >>> ((16 : Int32) &&& 31).toUInt32).toInt32).toUInt32 >>> ((4 : Int32) &&& 31).toUInt32).toInt32))])) _
              refine XS.iconst X0.here hx rfl (hb hby d4_70) ?_
              show Steps p.tables e below (s₁.setTop (mkF m 71 #[.val (.int ((((p0.toUInt32 >>> ((16 : Int32) &&& 31).toUInt32).toInt32).toUInt32 >>> ((4 : Int32) &&& 31).toUInt32).toInt32)), .val (.int (9 : Int32))] [(.int (2 : Int32)), (.int ((((p0.toUInt32 >>> ((16 : Int32) &&& 31).toUInt32).toInt32).toUInt32 >>> ((4 : Int32) &&& 31).toUInt32).toInt32))])) _
              refine XS.iushr X0.here hx rfl (hb hby d4_71) rfl ?_
              show Steps p.tables e below (s₁.setTop (mkF m 72 #[.val (.int ((((p0.toUInt32 >>> ((16 : Int32) &&& 31).toUInt32).toInt32).toUInt32 >>> ((4 : Int32) &&& 31).toUInt32).toInt32)), .val (.int (9 : Int32))] [(.int ((((((p0.toUInt32 >>> ((16 : Int32) &&& 31).toUInt32).toInt32).toUInt32 >>> ((4 : Int32) &&& 31).toUInt32).toInt32).toUInt32 >>> ((2 : Int32) &&& 31).toUInt32).toInt32))])) _
              refine XS.istoreN X0.here hx rfl (hb hby d4_72) rfl (l' := #[.val (.int ((((((p0.toUInt32 >>> ((16 : Int32) &&& 31).toUInt32).toInt32).toUInt32 >>> ((4 : Int32) &&& 31).toUInt32).toInt32).toUInt32 >>> ((2 : Int32) &&& 31).toUInt32).toInt32)), .val (.int (9 : Int32))]) rfl ?_
              show Steps p.tables e below (s₁.setTop (mkF m 73 #[.val (.int ((((((p0.toUInt32 >>> ((16 : Int32) &&& 31).toUInt32).toInt32).toUInt32 >>> ((4 : Int32) &&& 31).toUInt32).toInt32).toUInt32 >>> ((2 : Int32) &&& 31).toUInt32).toInt32)), .val (.int (9 : Int32))] [])) _
              refine XS.iloadN X0.here hx rfl (hb hby d4_73) rfl ?_
              show Steps p.tables e below (s₁.setTop (mkF m 74 #[.val (.int ((((((p0.toUInt32 >>> ((16 : Int32) &&& 31).toUInt32).toInt32).toUInt32 >>> ((4 : Int32) &&& 31).toUInt32).toInt32).toUInt32 >>> ((2 : Int32) &&& 31).toUInt32).toInt32)), .val (.int (9 : Int32))] [(.int (9 : Int32))])) _
              refine XS.iloadN X0.here hx rfl (hb hby d4_74) rfl ?_
              show Steps p.tables e below (s₁.setTop (mkF m 75 #[.val (.int ((((((p0.toUInt32 >>> ((16 : Int32) &&& 31).toUInt32).toInt32).toUInt32 >>> ((4 : Int32) &&& 31).toUInt32).toInt32).toUInt32 >>> ((2 : Int32) &&& 31).toUInt32).toInt32)), .val (.int (9 : Int32))] [(.int ((((((p0.toUInt32 >>> ((16 : Int32) &&& 31).toUInt32).toInt32).toUInt32 >>> ((4 : Int32) &&& 31).toUInt32).toInt32).toUInt32 >>> ((2 : Int32) &&& 31).toUInt32).toInt32)), (.int (9 : Int32))])) _
              refine XS.iconst X0.here hx rfl (hb hby d4_75) ?_
              show Steps p.tables e below (s₁.setTop (mkF m 76 #[.val (.int ((((((p0.toUInt32 >>> ((16 : Int32) &&& 31).toUInt32).toInt32).toUInt32 >>> ((4 : Int32) &&& 31).toUInt32).toInt32).toUInt32 >>> ((2 : Int32) &&& 31).toUInt32).toInt32)), .val (.int (9 : Int32))] [(.int (1 : Int32)), (.int ((((((p0.toUInt32 >>> ((16 : Int32) &&& 31).toUInt32).toInt32).toUInt32 >>> ((4 : Int32) &&& 31).toUInt32).toInt32).toUInt32 >>> ((2 : Int32) &&& 31).toUInt32).toInt32)), (.int (9 : Int32))])) _
              refine XS.iushr X0.here hx rfl (hb hby d4_76) rfl ?_
              show Steps p.tables e below (s₁.setTop (mkF m 77 #[.val (.int ((((((p0.toUInt32 >>> ((16 : Int32) &&& 31).toUInt32).toInt32).toUInt32 >>> ((4 : Int32) &&& 31).toUInt32).toInt32).toUInt32 >>> ((2 : Int32) &&& 31).toUInt32).toInt32)), .val (.int (9 : Int32))] [(.int ((((((((p0.toUInt32 >>> ((16 : Int32) &&& 31).toUInt32).toInt32).toUInt32 >>> ((4 : Int32) &&& 31).toUInt32).toInt32).toUInt32 >>> ((2 : Int32) &&& 31).toUInt32).toInt32).toUInt32 >>> ((1 : Int32) &&& 31).toUInt32).toInt32)), (.int (9 : Int32))])) _
              refine XS.isub X0.here hx rfl (hb hby d4_77) rfl ?_
              exact kt
            exact own_end X0 hlk (v := some (.int ((9 : Int32) - ((((((((p0.toUInt32 >>> ((16 : Int32) &&& 31).toUInt32).toInt32).toUInt32 >>> ((4 : Int32) &&& 31).toUInt32).toInt32).toUInt32 >>> ((2 : Int32) &&& 31).toUInt32).toInt32).toUInt32 >>> ((1 : Int32) &&& 31).toUInt32).toInt32)))) (fun h => by rw [Bd.returns] at h; cases h) (fun fs hr => retI X0 hx Bd.returns (hb hby d4_78) hr) (by rw [e0]; exact ⟨(by rw [f_rmIZ, if_pos hc1, if_neg hc2, if_pos hc10, if_neg hc11, if_neg hc13]), N0, rfl⟩) (by decide : 0 ≤ _) (by decide : 0 ≤ _)
      · refine own_thr (a := s₁.setTop (mkF m 51 #[.val (.int ((((p0.toUInt32 >>> ((16 : Int32) &&& 31).toUInt32).toInt32).toUInt32 >>> ((8 : Int32) &&& 31).toUInt32).toInt32)), .val (.int (7 : Int32))] [(.int (16 : Int32)), (.int ((((p0.toUInt32 >>> ((16 : Int32) &&& 31).toUInt32).toInt32).toUInt32 >>> ((8 : Int32) &&& 31).toUInt32).toInt32))])) (fun t kt => ?_) ?_
        · show Steps p.tables e below (s₁.setTop (mkF m 37 #[.val (.int ((p0.toUInt32 >>> ((16 : Int32) &&& 31).toUInt32).toInt32)), .val (.int (15 : Int32))] [(.int (256 : Int32)), (.int ((p0.toUInt32 >>> ((16 : Int32) &&& 31).toUInt32).toInt32))])) _
          refine XS.icmpNo X0.here hx rfl (hb hby d4_37) rfl (flt hc10).1 ?_
          show Steps p.tables e below (s₁.setTop (mkF m 40 #[.val (.int ((p0.toUInt32 >>> ((16 : Int32) &&& 31).toUInt32).toInt32)), .val (.int (15 : Int32))] [])) _
          refine XS.iinc X0.here hx rfl (hb hby d4_40) rfl (l' := #[.val (.int ((p0.toUInt32 >>> ((16 : Int32) &&& 31).toUInt32).toInt32)), .val (.int (7 : Int32))]) rfl ?_
          show Steps p.tables e below (s₁.setTop (mkF m 43 #[.val (.int ((p0.toUInt32 >>> ((16 : Int32) &&& 31).toUInt32).toInt32)), .val (.int (7 : Int32))] [])) _
          refine XS.iloadN X0.here hx rfl (hb hby d4_43) rfl ?_
          show Steps p.tables e below (s₁.setTop (mkF m 44 #[.val (.int ((p0.toUInt32 >>> ((16 : Int32) &&& 31).toUInt32).toInt32)), .val (.int (7 : Int32))] [(.int ((p0.toUInt32 >>> ((16 : Int32) &&& 31).toUInt32).toInt32))])) _
          refine XS.bipush X0.here hx rfl (hb hby d4_44) ?_
          show Steps p.tables e below (s₁.setTop (mkF m 46 #[.val (.int ((p0.toUInt32 >>> ((16 : Int32) &&& 31).toUInt32).toInt32)), .val (.int (7 : Int32))] [(.int (8 : Int32)), (.int ((p0.toUInt32 >>> ((16 : Int32) &&& 31).toUInt32).toInt32))])) _
          refine XS.iushr X0.here hx rfl (hb hby d4_46) rfl ?_
          show Steps p.tables e below (s₁.setTop (mkF m 47 #[.val (.int ((p0.toUInt32 >>> ((16 : Int32) &&& 31).toUInt32).toInt32)), .val (.int (7 : Int32))] [(.int ((((p0.toUInt32 >>> ((16 : Int32) &&& 31).toUInt32).toInt32).toUInt32 >>> ((8 : Int32) &&& 31).toUInt32).toInt32))])) _
          refine XS.istoreN X0.here hx rfl (hb hby d4_47) rfl (l' := #[.val (.int ((((p0.toUInt32 >>> ((16 : Int32) &&& 31).toUInt32).toInt32).toUInt32 >>> ((8 : Int32) &&& 31).toUInt32).toInt32)), .val (.int (7 : Int32))]) rfl ?_
          show Steps p.tables e below (s₁.setTop (mkF m 48 #[.val (.int ((((p0.toUInt32 >>> ((16 : Int32) &&& 31).toUInt32).toInt32).toUInt32 >>> ((8 : Int32) &&& 31).toUInt32).toInt32)), .val (.int (7 : Int32))] [])) _
          refine XS.iloadN X0.here hx rfl (hb hby d4_48) rfl ?_
          show Steps p.tables e below (s₁.setTop (mkF m 49 #[.val (.int ((((p0.toUInt32 >>> ((16 : Int32) &&& 31).toUInt32).toInt32).toUInt32 >>> ((8 : Int32) &&& 31).toUInt32).toInt32)), .val (.int (7 : Int32))] [(.int ((((p0.toUInt32 >>> ((16 : Int32) &&& 31).toUInt32).toInt32).toUInt32 >>> ((8 : Int32) &&& 31).toUInt32).toInt32))])) _
          refine XS.bipush X0.here hx rfl (hb hby d4_49) ?_
          exact kt
        by_cases hc14 : ((((p0.toUInt32 >>> ((16 : Int32) &&& 31).toUInt32).toInt32).toUInt32 >>> ((8 : Int32) &&& 31).toUInt32).toInt32) < (16 : Int32)
        · refine own_thr (a := s₁.setTop (mkF m 63 #[.val (.int ((((p0.toUInt32 >>> ((16 : Int32) &&& 31).toUInt32).toInt32).toUInt32 >>> ((8 : Int32) &&& 31).toUInt32).toInt32)), .val (.int (7 : Int32))] [(.int (4 : Int32)), (.int ((((p0.toUInt32 >>> ((16 : Int32) &&& 31).toUInt32).toInt32).toUInt32 >>> ((8 : Int32) &&& 31).toUInt32).toInt32))])) (fun t kt => ?_) ?_
          · show Steps p.tables e below (s₁.setTop (mkF m 51 #[.val (.int ((((p0.toUInt32 >>> ((16 : Int32) &&& 31).toUInt32).toInt32).toUInt32 >>> ((8 : Int32) &&& 31).toUInt32).toInt32)), .val (.int (7 : Int32))] [(.int (16 : Int32)), (.int ((((p0.toUInt32 >>> ((16 : Int32) &&& 31).toUInt32).toInt32).toUInt32 >>> ((8 : Int32) &&& 31).toUInt32).toInt32))])) _
            refine XS.icmpYes X0.here hx rfl (pc0 := 51) (pc' := 61) rfl (hb hby d4_51) rfl (tlt hc14).1 (by decide) (by decide) ?_
            show Steps p.tables e below (s₁.setTop (mkF m 61 #[.val (.int ((((p0.toUInt32 >>> ((16 : Int32) &&& 31).toUInt32).toInt32).toUInt32 >>> ((8 : Int32) &&& 31).toUInt32).toInt32)), .val (.int (7 : Int32))] [])) _
            refine XS.iloadN X0.here hx rfl (hb hby d4_61) rfl ?_
            show Steps p.tables e below (s₁.setTop (mkF m 62 #[.val (.int ((((p0.toUInt32 >>> ((16 : Int32) &&& 31).toUInt32).toInt32).toUInt32 >>> ((8 : Int32) &&& 31).toUInt32).toInt32)), .val (.int (7 : Int32))] [(.int ((((p0.toUInt32 >>> ((16 : Int32) &&& 31).toUInt32).toInt32).toUInt32 >>> ((8 : Int32) &&& 31).toUInt32).toInt32))])) _
            refine XS.iconst X0.here hx rfl (hb hby d4_62) ?_
            exact kt
          by_cases hc15 : ((((p0.toUInt32 >>> ((16 : Int32) &&& 31).toUInt32).toInt32).toUInt32 >>> ((8 : Int32) &&& 31).toUInt32).toInt32) < (4 : Int32)
          · refine own_thr (a := s₁.setTop (mkF m 78 #[.val (.int ((((p0.toUInt32 >>> ((16 : Int32) &&& 31).toUInt32).toInt32).toUInt32 >>> ((8 : Int32) &&& 31).toUInt32).toInt32)), .val (.int (7 : Int32))] [(.int ((7 : Int32) - ((((((p0.toUInt32 >>> ((16 : Int32) &&& 31).toUInt32).toInt32).toUInt32 >>> ((8 : Int32) &&& 31).toUInt32).toInt32).toUInt32 >>> ((1 : Int32) &&& 31).toUInt32).toInt32)))])) (fun t kt => ?_) ?_
            · show Steps p.tables e below (s₁.setTop (mkF m 63 #[.val (.int ((((p0.toUInt32 >>> ((16 : Int32) &&& 31).toUInt32).toInt32).toUInt32 >>> ((8 : Int32) &&& 31).toUInt32).toInt32)), .val (.int (7 : Int32))] [(.int (4 : Int32)), (.int ((((p0.toUInt32 >>> ((16 : Int32) &&& 31).toUInt32).toInt32).toUInt32 >>> ((8 : Int32) &&& 31).toUInt32).toInt32))])) _
              refine XS.icmpYes X0.here hx rfl (pc0 := 63) (pc' := 73) rfl (hb hby d4_63) rfl (tlt hc15).1 (by decide) (by decide) ?_
              show Steps p.tables e below (s₁.setTop (mkF m 73 #[.val (.int ((((p0.toUInt32 >>> ((16 : Int32) &&& 31).toUInt32).toInt32).toUInt32 >>> ((8 : Int32) &&& 31).toUInt32).toInt32)), .val (.int (7 : Int32))] [])) _
              refine XS.iloadN X0.here hx rfl (hb hby d4_73) rfl ?_
              show Steps p.tables e below (s₁.setTop (mkF m 74 #[.val (.int ((((p0.toUInt32 >>> ((16 : Int32) &&& 31).toUInt32).toInt32).toUInt32 >>> ((8 : Int32) &&& 31).toUInt32).toInt32)), .val (.int (7 : Int32))] [(.int (7 : Int32))])) _
              refine XS.iloadN X0.here hx rfl (hb hby d4_74) rfl ?_
              show Steps p.tables e below (s₁.setTop (mkF m 75 #[.val (.int ((((p0.toUInt32 >>> ((16 : Int32) &&& 31).toUInt32).toInt32).toUInt32 >>> ((8 : Int32) &&& 31).toUInt32).toInt32)), .val (.int (7 : Int32))] [(.int ((((p0.toUInt32 >>> ((16 : Int32) &&& 31).toUInt32).toInt32).toUInt32 >>> ((8 : Int32) &&& 31).toUInt32).toInt32)), (.int (7 : Int32))])) _
              refine XS.iconst X0.here hx rfl (hb hby d4_75) ?_
              show Steps p.tables e below (s₁.setTop (mkF m 76 #[.val (.int ((((p0.toUInt32 >>> ((16 : Int32) &&& 31).toUInt32).toInt32).toUInt32 >>> ((8 : Int32) &&& 31).toUInt32).toInt32)), .val (.int (7 : Int32))] [(.int (1 : Int32)), (.int ((((p0.toUInt32 >>> ((16 : Int32) &&& 31).toUInt32).toInt32).toUInt32 >>> ((8 : Int32) &&& 31).toUInt32).toInt32)), (.int (7 : Int32))])) _
              refine XS.iushr X0.here hx rfl (hb hby d4_76) rfl ?_
              show Steps p.tables e below (s₁.setTop (mkF m 77 #[.val (.int ((((p0.toUInt32 >>> ((16 : Int32) &&& 31).toUInt32).toInt32).toUInt32 >>> ((8 : Int32) &&& 31).toUInt32).toInt32)), .val (.int (7 : Int32))] [(.int ((((((p0.toUInt32 >>> ((16 : Int32) &&& 31).toUInt32).toInt32).toUInt32 >>> ((8 : Int32) &&& 31).toUInt32).toInt32).toUInt32 >>> ((1 : Int32) &&& 31).toUInt32).toInt32)), (.int (7 : Int32))])) _
              refine XS.isub X0.here hx rfl (hb hby d4_77) rfl ?_
              exact kt
            exact own_end X0 hlk (v := some (.int ((7 : Int32) - ((((((p0.toUInt32 >>> ((16 : Int32) &&& 31).toUInt32).toInt32).toUInt32 >>> ((8 : Int32) &&& 31).toUInt32).toInt32).toUInt32 >>> ((1 : Int32) &&& 31).toUInt32).toInt32)))) (fun h => by rw [Bd.returns] at h; cases h) (fun fs hr => retI X0 hx Bd.returns (hb hby d4_78) hr) (by rw [e0]; exact ⟨(by rw [f_rmIZ, if_pos hc1, if_neg hc2, if_neg hc10, if_pos hc14, if_pos hc15]), N0, rfl⟩) (by decide : 0 ≤ _) (by decide : 0 ≤ _)
          · refine own_thr (a := s₁.setTop (mkF m 78 #[.val (.int ((((((p0.toUInt32 >>> ((16 : Int32) &&& 31).toUInt32).toInt32).toUInt32 >>> ((8 : Int32) &&& 31).toUInt32).toInt32).toUInt32 >>> ((2 : Int32) &&& 31).toUInt32).toInt32)), .val (.int (5 : Int32))] [(.int ((5 : Int32) - ((((((((p0.toUInt32 >>> ((16 : Int32) &&& 31).toUInt32).toInt32).toUInt32 >>> ((8 : Int32) &&& 31).toUInt32).toInt32).toUInt32 >>> ((2 : Int32) &&& 31).toUInt32).toInt32).toUInt32 >>> ((1 : Int32) &&& 31).toUInt32).toInt32)))])) (fun t kt => ?_) ?_
            · show Steps p.tables e below (s₁.setTop (mkF m 63 #[.val (.int ((((p0.toUInt32 >>> ((16 : Int32) &&& 31).toUInt32).toInt32).toUInt32 >>> ((8 : Int32) &&& 31).toUInt32).toInt32)), .val (.int (7 : Int32))] [(.int (4 : Int32)), (.int ((((p0.toUInt32 >>> ((16 : Int32) &&& 31).toUInt32).toInt32).toUInt32 >>> ((8 : Int32) &&& 31).toUInt32).toInt32))])) _
              refine XS.icmpNo X0.here hx rfl (hb hby d4_63) rfl (flt hc15).1 ?_
              show Steps p.tables e below (s₁.setTop (mkF m 66 #[.val (.int ((((p0.toUInt32 >>> ((16 : Int32) &&& 31).toUInt32).toInt32).toUInt32 >>> ((8 : Int32) &&& 31).toUInt32).toInt32)), .val (.int (7 : Int32))] [])) _
              refine XS.iinc X0.here hx rfl (hb hby d4_66) rfl (l' := #[.val (.int ((((p0.toUInt32 >>> ((16 : Int32) &&& 31).toUInt32).toInt32).toUInt32 >>> ((8 : Int32) &&& 31).toUInt32).toInt32)), .val (.int (5 : Int32))]) rfl ?_
              show Steps p.tables e below (s₁.setTop (mkF m 69 #[.val (.int ((((p0.toUInt32 >>> ((16 : Int32) &&& 31).toUInt32).toInt32).toUInt32 >>> ((8 : Int32) &&& 31).toUInt32).toInt32)), .val (.int (5 : Int32))] [])) _
              refine XS.iloadN X0.here hx rfl (hb hby d4_69) rfl ?_
              show Steps p.tables e below (s₁.setTop (mkF m 70 #[.val (.int ((((p0.toUInt32 >>> ((16 : Int32) &&& 31).toUInt32).toInt32).toUInt32 >>> ((8 : Int32) &&& 31).toUInt32).toInt32)), .val (.int (5 : Int32))] [(.int ((((p0.toUInt32 >>> ((16 : Int32) &&& 31).toUInt32).toInt32).toUInt32 >>> ((8 : Int32) &&& 31).toUInt32).toInt32))])) _
              refine XS.iconst X0.here hx rfl (hb hby d4_70) ?_
              show Steps p.tables e below (s₁.setTop (mkF m 71 #[.val (.int ((((p0.toUInt32 >>> ((16 : Int32) &&& 31).toUInt32).toInt32).toUInt32 >>> ((8 : Int32) &&& 31).toUInt32).toInt32)), .val (.int (5 : Int32))] [(.int (2 : Int32)), (.int ((((p0.toUInt32 >>> ((16 : Int32) &&& 31).toUInt32).toInt32).toUInt32 >>> ((8 : Int32) &&& 31).toUInt32).toInt32))])) _
              refine XS.iushr X0.here hx rfl (hb hby d4_71) rfl ?_
              show Steps p.tables e below (s₁.setTop (mkF m 72 #[.val (.int ((((p0.toUInt32 >>> ((16 : Int32) &&& 31).toUInt32).toInt32).toUInt32 >>> ((8 : Int32) &&& 31).toUInt32).toInt32)), .val (.int (5 : Int32))] [(.int ((((((p0.toUInt32 >>> ((16 : Int32) &&& 31).toUInt32).toInt32).toUInt32 >>> ((8 : Int32) &&& 31).toUInt32).toInt32).toUInt32 >>> ((2 : Int32) &&& 31).toUInt32).toInt32))])) _
              refine XS.istoreN X0.here hx rfl (hb hby d4_72) rfl (l' := #[.val (.int ((((((p0.toUInt32 >>> ((16 : Int32) &&& 31).toUInt32).toInt32).toUInt32 >>> ((8 : Int32) &&& 31).toUInt32).toInt32).toUInt32 >>> ((2 : Int32) &&& 31).toUInt32).toInt32)), .val (.int (5 : Int32))]) rfl ?_
              show Steps p.tables e below (s₁.setTop (mkF m 73 #[.val (.int ((((((p0.toUInt32 >>> ((16 : Int32) &&& 31).toUInt32).toInt32).toUInt32 >>> ((8 : Int32) &&& 31).toUInt32).toInt32).toUInt32 >>> ((2 : Int32) &&& 31).toUInt32).toInt32)), .val (.int (5 : Int32))] [])) _
              refine XS.iloadN X0.here hx rfl (hb hby d4_73) rfl ?_
              show Steps p.tables e below (s₁.setTop (mkF m 74 #[.val (.int ((((((p0.toUInt32 >>> ((16 : Int32) &&& 31).toUInt32).toInt32).toUInt32 >>> ((8 : Int32) &&& 31).toUInt32).toInt32).toUInt32 >>> ((2 : Int32) &&& 31).toUInt32).toInt32)), .val (.int (5 : Int32))] [(.int (5 : Int32))])) _
              refine XS.iloadN X0.here hx rfl (hb hby d4_74) rfl ?_
              show Steps p.tables e below (s₁.setTop (mkF m 75 #[.val (.int ((((((p0.toUInt32 >>> ((16 : Int32) &&& 31).toUInt32).toInt32).toUInt32 >>> ((8 : Int32) &&& 31).toUInt32).toInt32).toUInt32 >>> ((2 : Int32) &&& 31).toUInt32).toInt32)), .val (.int (5 : Int32))] [(.int ((((((p0.toUInt32 >>> ((16 : Int32) &&& 31).toUInt32).toInt32).toUInt32 >>> ((8 : Int32) &&& 31).toUInt32).toInt32).toUInt32 >>> ((2 : Int32) &&& 31).toUInt32).toInt32)), (.int (5 : Int32))])) _
              refine XS.iconst X0.here hx rfl (hb hby d4_75) ?_
              show Steps p.tables e below (s₁.setTop (mkF m 76 #[.val (.int ((((((p0.toUInt32 >>> ((16 : Int32) &&& 31).toUInt32).toInt32).toUInt32 >>> ((8 : Int32) &&& 31).toUInt32).toInt32).toUInt32 >>> ((2 : Int32) &&& 31).toUInt32).toInt32)), .val (.int (5 : Int32))] [(.int (1 : Int32)), (.int ((((((p0.toUInt32 >>> ((16 : Int32) &&& 31).toUInt32).toInt32).toUInt32 >>> ((8 : Int32) &&& 31).toUInt32).toInt32).toUInt32 >>> ((2 : Int32) &&& 31).toUInt32).toInt32)), (.int (5 : Int32))])) _
              refine XS.iushr X0.here hx rfl (hb hby d4_76) rfl ?_
              show Steps p.tables e below (s₁.setTop (mkF m 77 #[.val (.int ((((((p0.toUInt32 >>> ((16 : Int32) &&& 31).toUInt32).toInt32).toUInt32 >>> ((8 : Int32) &&& 31).toUInt32).toInt32).toUInt32 >>> ((2 : Int32) &&& 31).toUInt32).toInt32)), .val (.int (5 : Int32))] [(.int ((((((((p0.toUInt32 >>> ((16 : Int32) &&& 31).toUInt32).toInt32).toUInt32 >>> ((8 : Int32) &&& 31).toUInt32).toInt32).toUInt32 >>> ((2 : Int32) &&& 31).toUInt32).toInt32).toUInt32 >>> ((1 : Int32) &&& 31).toUInt32).toInt32)), (.int (5 : Int32))])) _
              refine XS.isub X0.here hx rfl (hb hby d4_77) rfl ?_
              exact kt
            exact own_end X0 hlk (v := some (.int ((5 : Int32) - ((((((((p0.toUInt32 >>> ((16 : Int32) &&& 31).toUInt32).toInt32).toUInt32 >>> ((8 : Int32) &&& 31).toUInt32).toInt32).toUInt32 >>> ((2 : Int32) &&& 31).toUInt32).toInt32).toUInt32 >>> ((1 : Int32) &&& 31).toUInt32).toInt32)))) (fun h => by rw [Bd.returns] at h; cases h) (fun fs hr => retI X0 hx Bd.returns (hb hby d4_78) hr) (by rw [e0]; exact ⟨(by rw [f_rmIZ, if_pos hc1, if_neg hc2, if_neg hc10, if_pos hc14, if_neg hc15]), N0, rfl⟩) (by decide : 0 ≤ _) (by decide : 0 ≤ _)
        · refine own_thr (a := s₁.setTop (mkF m 63 #[.val (.int ((((((p0.toUInt32 >>> ((16 : Int32) &&& 31).toUInt32).toInt32).toUInt32 >>> ((8 : Int32) &&& 31).toUInt32).toInt32).toUInt32 >>> ((4 : Int32) &&& 31).toUInt32).toInt32)), .val (.int (3 : Int32))] [(.int (4 : Int32)), (.int ((((((p0.toUInt32 >>> ((16 : Int32) &&& 31).toUInt32).toInt32).toUInt32 >>> ((8 : Int32) &&& 31).toUInt32).toInt32).toUInt32 >>> ((4 : Int32) &&& 31).toUInt32).toInt32))])) (fun t kt => ?_) ?_
          · show Steps p.tables e below (s₁.setTop (mkF m 51 #[.val (.int ((((p0.toUInt32 >>> ((16 : Int32) &&& 31).toUInt32).toInt32).toUInt32 >>> ((8 : Int32) &&& 31).toUInt32).toInt32)), .val (.int (7 : Int32))] [(.int (16 : Int32)), (.int ((((p0.toUInt32 >>> ((16 : Int32) &&& 31).toUInt32).toInt32).toUInt32 >>> ((8 : Int32) &&& 31).toUInt32).toInt32))])) _
            refine XS.icmpNo X0.here hx rfl (hb hby d4_51) rfl (flt hc14).1 ?_
            show Steps p.tables e below (s₁.setTop (mkF m 54 #[.val (.int ((((p0.toUInt32 >>> ((16 : Int32) &&& 31).toUInt32).toInt32).toUInt32 >>> ((8 : Int32) &&& 31).toUInt32).toInt32)), .val (.int (7 : Int32))] [])) _
            refine XS.iinc X0.here hx rfl (hb hby d4_54) rfl (l' := #[.val (.int ((((p0.toUInt32 >>> ((16 : Int32) &&& 31).toUInt32).toInt32).toUInt32 >>> ((8 : Int32) &&& 31).toUInt32).toInt32)), .val (.int (3 : Int32))]) rfl ?_
            show Steps p.tables e below (s₁.setTop (mkF m 57 #[.val (.int ((((p0.toUInt32 >>> ((16 : Int32) &&& 31).toUInt32).toInt32).toUInt32 >>> ((8 : Int32) &&& 31).toUInt32).toInt32)), .val (.int (3 : Int32))] [])) _
            refine XS.iloadN X0.here hx rfl (hb hby d4_57) rfl ?_
            show Steps p.tables e below (s₁.setTop (mkF m 58 #[.val (.int ((((p0.toUInt32 >>> ((16 : Int32) &&& 31).toUInt32).toInt32).toUInt32 >>> ((8 : Int32) &&& 31).toUInt32).toInt32)), .val (.int (3 : Int32))] [(.int ((((p0.toUInt32 >>> ((16 : Int32) &&& 31).toUInt32).toInt32).toUInt32 >>> ((8 : Int32) &&& 31).toUInt32).toInt32))])) _
            refine XS.iconst X0.here hx rfl (hb hby d4_58) ?_
            show Steps p.tables e below (s₁.setTop (mkF m 59 #[.val (.int ((((p0.toUInt32 >>> ((16 : Int32) &&& 31).toUInt32).toInt32).toUInt32 >>> ((8 : Int32) &&& 31).toUInt32).toInt32)), .val (.int (3 : Int32))] [(.int (4 : Int32)), (.int ((((p0.toUInt32 >>> ((16 : Int32) &&& 31).toUInt32).toInt32).toUInt32 >>> ((8 : Int32) &&& 31).toUInt32).toInt32))])) _
            refine XS.iushr X0.here hx rfl (hb hby d4_59) rfl ?_
            show Steps p.tables e below (s₁.setTop (mkF m 60 #[.val (.int ((((p0.toUInt32 >>> ((16 : Int32) &&& 31).toUInt32).toInt32).toUInt32 >>> ((8 : Int32) &&& 31).toUInt32).toInt32)), .val (.int (3 : Int32))] [(.int ((((((p0.toUInt32 >>> ((16 : Int32) &&& 31).toUInt32).toInt32).toUInt32 >>> ((8 : Int32) &&& 31).toUInt32).toInt32).toUInt32 >>> ((4 : Int32) &&& 31).toUInt32).toInt32))])) _
            refine XS.istoreN X0.here hx rfl (hb hby d4_60) rfl (l' := #[.val (.int ((((((p0.toUInt32 >>> ((16 : Int32) &&& 31).toUInt32).toInt32).toUInt32 >>> ((8 : Int32) &&& 31).toUInt32).toInt32).toUInt32 >>> ((4 : Int32) &&& 31).toUInt32).toInt32)), .val (.int (3 : Int32))]) rfl ?_
            show Steps p.tables e below (s₁.setTop (mkF m 61 #[.val (.int ((((((p0.toUInt32 >>> ((16 : Int32) &&& 31).toUInt32).toInt32).toUInt32 >>> ((8 : Int32) &&& 31).toUInt32).toInt32).toUInt32 >>> ((4 : Int32) &&& 31).toUInt32).toInt32)), .val (.int (3 : Int32))] [])) _
            refine XS.iloadN X0.here hx rfl (hb hby d4_61) rfl ?_
            show Steps p.tables e below (s₁.setTop (mkF m 62 #[.val (.int ((((((p0.toUInt32 >>> ((16 : Int32) &&& 31).toUInt32).toInt32).toUInt32 >>> ((8 : Int32) &&& 31).toUInt32).toInt32).toUInt32 >>> ((4 : Int32) &&& 31).toUInt32).toInt32)), .val (.int (3 : Int32))] [(.int ((((((p0.toUInt32 >>> ((16 : Int32) &&& 31).toUInt32).toInt32).toUInt32 >>> ((8 : Int32) &&& 31).toUInt32).toInt32).toUInt32 >>> ((4 : Int32) &&& 31).toUInt32).toInt32))])) _
            refine XS.iconst X0.here hx rfl (hb hby d4_62) ?_
            exact kt
          by_cases hc16 : ((((((p0.toUInt32 >>> ((16 : Int32) &&& 31).toUInt32).toInt32).toUInt32 >>> ((8 : Int32) &&& 31).toUInt32).toInt32).toUInt32 >>> ((4 : Int32) &&& 31).toUInt32).toInt32) < (4 : Int32)
          · refine own_thr (a := s₁.setTop (mkF m 78 #[.val (.int ((((((p0.toUInt32 >>> ((16 : Int32) &&& 31).toUInt32).toInt32).toUInt32 >>> ((8 : Int32) &&& 31).toUInt32).toInt32).toUInt32 >>> ((4 : Int32) &&& 31).toUInt32).toInt32)), .val (.int (3 : Int32))] [(.int ((3 : Int32) - ((((((((p0.toUInt32 >>> ((16 : Int32) &&& 31).toUInt32).toInt32).toUInt32 >>> ((8 : Int32) &&& 31).toUInt32).toInt32).toUInt32 >>> ((4 : Int32) &&& 31).toUInt32).toInt32).toUInt32 >>> ((1 : Int32) &&& 31).toUInt32).toInt32)))])) (fun t kt => ?_) ?_
            · show Steps p.tables e below (s₁.setTop (mkF m 63 #[.val (.int ((((((p0.toUInt32 >>> ((16 : Int32) &&& 31).toUInt32).toInt32).toUInt32 >>> ((8 : Int32) &&& 31).toUInt32).toInt32).toUInt32 >>> ((4 : Int32) &&& 31).toUInt32).toInt32)), .val (.int (3 : Int32))] [(.int (4 : Int32)), (.int ((((((p0.toUInt32 >>> ((16 : Int32) &&& 31).toUInt32).toInt32).toUInt32 >>> ((8 : Int32) &&& 31).toUInt32).toInt32).toUInt32 >>> ((4 : Int32) &&& 31).toUInt32).toInt32))])) _
              refine XS.icmpYes X0.here hx rfl (pc0 := 63) (pc' := 73) rfl (hb hby d4_63) rfl (tlt hc16).1 (by decide) (by decide) ?_
              show Steps p.tables e below (s₁.setTop (mkF m 73 #[.val (.int ((((((p0.toUInt32 >>> ((16 : Int32) &&& 31).toUInt32).toInt32).toUInt32 >>> ((8 : Int32) &&& 31).toUInt32).toInt32).toUInt32 >>> ((4 : Int32) &&& 31).toUInt32).toInt32)), .val (.int (3 : Int32))] [])) _
              refine XS.iloadN X0.here hx rfl (hb hby d4_73) rfl ?_
              show Steps p.tables e below (s₁.setTop (mkF m 74 #[.val (.int ((((((p0.toUInt32 >>> ((16 : Int32) &&& 31).toUInt32).toInt32).toUInt32 >>> ((8 : Int32) &&& 31).toUInt32).toInt32).toUInt32 >>> ((4 : Int32) &&& 31).toUInt32).toInt32)), .val (.int (3 : Int32))] [(.int (3 : Int32))])) _
              refine XS.iloadN X0.here hx rfl (hb hby d4_74) rfl ?_
              show Steps p.tables e below (s₁.setTop (mkF m 75 #[.val (.int ((((((p0.toUInt32 >>> ((16 : Int32) &&& 31).toUInt32).toInt32).toUInt32 >>> ((8 : Int32) &&& 31).toUInt32).toInt32).toUInt32 >>> ((4 : Int32) &&& 31).toUInt32).toInt32)), .val (.int (3 : Int32))] [(.int ((((((p0.toUInt32 >>> ((16 : Int32) &&& 31).toUInt32).toInt32).toUInt32 >>> ((8 : Int32) &&& 31).toUInt32).toInt32).toUInt32 >>> ((4 : Int32) &&& 31).toUInt32).toInt32)), (.int (3 : Int32))])) _
              refine XS.iconst X0.here hx rfl (hb hby d4_75) ?_
              show Steps p.tables e below (s₁.setTop (mkF m 76 #[.val (.int ((((((p0.toUInt32 >>> ((16 : Int32) &&& 31).toUInt32).toInt32).toUInt32 >>> ((8 : Int32) &&& 31).toUInt32).toInt32).toUInt32 >>> ((4 : Int32) &&& 31).toUInt32).toInt32)), .val (.int (3 : Int32))] [(.int (1 : Int32)), (.int ((((((p0.toUInt32 >>> ((16 : Int32) &&& 31).toUInt32).toInt32).toUInt32 >>> ((8 : Int32) &&& 31).toUInt32).toInt32).toUInt32 >>> ((4 : Int32) &&& 31).toUInt32).toInt32)), (.int (3 : Int32))])) _
              refine XS.iushr X0.here hx rfl (hb hby d4_76) rfl ?_
              show Steps p.tables e below (s₁.setTop (mkF m 77 #[.val (.int ((((((p0.toUInt32 >>> ((16 : Int32) &&& 31).toUInt32).toInt32).toUInt32 >>> ((8 : Int32) &&& 31).toUInt32).toInt32).toUInt32 >>> ((4 : Int32) &&& 31).toUInt32).toInt32)), .val (.int (3 : Int32))] [(.int ((((((((p0.toUInt32 >>> ((16 : Int32) &&& 31).toUInt32).toInt32).toUInt32 >>> ((8 : Int32) &&& 31).toUInt32).toInt32).toUInt32 >>> ((4 : Int32) &&& 31).toUInt32).toInt32).toUInt32 >>> ((1 : Int32) &&& 31).toUInt32).toInt32)), (.int (3 : Int32))])) _
              refine XS.isub X0.here hx rfl (hb hby d4_77) rfl ?_
              exact kt
            exact own_end X0 hlk (v := some (.int ((3 : Int32) - ((((((((p0.toUInt32 >>> ((16 : Int32) &&& 31).toUInt32).toInt32).toUInt32 >>> ((8 : Int32) &&& 31).toUInt32).toInt32).toUInt32 >>> ((4 : Int32) &&& 31).toUInt32).toInt32).toUInt32 >>> ((1 : Int32) &&& 31).toUInt32).toInt32)))) (fun h => by rw [Bd.returns] at h; cases h) (fun fs hr => retI X0 hx Bd.returns (hb hby d4_78) hr) (by rw [e0]; exact ⟨(by rw [f_rmIZ, if_pos hc1, if_neg hc2, if_neg hc10, if_neg hc14, if_pos hc16]), N0, rfl⟩) (by decide : 0 ≤ _) (by decide : 0 ≤ _)
          · refine own_thr (a := s₁.setTop (mkF m 78 #[.val (.int ((((((((p0.toUInt32 >>> ((16 : Int32) &&& 31).toUInt32).toInt32).toUInt32 >>> ((8 : Int32) &&& 31).toUInt32).toInt32).toUInt32 >>> ((4 : Int32) &&& 31).toUInt32).toInt32).toUInt32 >>> ((2 : Int32) &&& 31).toUInt32).toInt32)), .val (.int (1 : Int32))] [(.int ((1 : Int32) - ((((((((((p0.toUInt32 >>> ((16 : Int32) &&& 31).toUInt32).toInt32).toUInt32 >>> ((8 : Int32) &&& 31).toUInt32).toInt32).toUInt32 >>> ((4 : Int32) &&& 31).toUInt32).toInt32).toUInt32 >>> ((2 : Int32) &&& 31).toUInt32).toInt32).toUInt32 >>> ((1 : Int32) &&& 31).toUInt32).toInt32)))])) (fun t kt => ?_) ?_
            · show Steps p.tables e below (s₁.setTop (mkF m 63 #[.val (.int ((((((p0.toUInt32 >>> ((16 : Int32) &&& 31).toUInt32).toInt32).toUInt32 >>> ((8 : Int32) &&& 31).toUInt32).toInt32).toUInt32 >>> ((4 : Int32) &&& 31).toUInt32).toInt32)), .val (.int (3 : Int32))] [(.int (4 : Int32)), (.int ((((((p0.toUInt32 >>> ((16 : Int32) &&& 31).toUInt32).toInt32).toUInt32 >>> ((8 : Int32) &&& 31).toUInt32).toInt32).toUInt32 >>> ((4 : Int32) &&& 31).toUInt32).toInt32))])) _
              refine XS.icmpNo X0.here hx rfl (hb hby d4_63) rfl (flt hc16).1 ?_
              show Steps p.tables e below (s₁.setTop (mkF m 66 #[.val (.int ((((((p0.toUInt32 >>> ((16 : Int32) &&& 31).toUInt32).toInt32).toUInt32 >>> ((8 : Int32) &&& 31).toUInt32).toInt32).toUInt32 >>> ((4 : Int32) &&& 31).toUInt32).toInt32)), .val (.int (3 : Int32))] [])) _
              refine XS.iinc X0.here hx rfl (hb hby d4_66) rfl (l' := #[.val (.int ((((((p0.toUInt32 >>> ((16 : Int32) &&& 31).toUInt32).toInt32).toUInt32 >>> ((8 : Int32) &&& 31).toUInt32).toInt32).toUInt32 >>> ((4 : Int32) &&& 31).toUInt32).toInt32)), .val (.int (1 : Int32))]) rfl ?_
              show Steps p.tables e below (s₁.setTop (mkF m 69 #[.val (.int ((((((p0.toUInt32 >>> ((16 : Int32) &&& 31).toUInt32).toInt32).toUInt32 >>> ((8 : Int32) &&& 31).toUInt32).toInt32).toUInt32 >>> ((4 : Int32) &&& 31).toUInt32).toInt32)), .val (.int (1 : Int32))] [])) _
              refine XS.iloadN X0.here hx rfl (hb hby d4_69) rfl ?_
              show Steps p.tables e below (s₁.setTop (mkF m 70 #[.val (.int ((((((p0.toUInt32 >>> ((16 : Int32) &&& 31).toUInt32).toInt32).toUInt32 >>> ((8 : Int32) &&& 31).toUInt32).toInt32).toUInt32 >>> ((4 : Int32) &&& 31).toUInt32).toInt32)), .val (.int (1 : Int32))] [(.int ((((((p0.toUInt32 >>> ((16 : Int32) &&& 31).toUInt32).toInt32).toUInt32 >>> ((8 : Int32) &&& 31).toUInt32).toInt32).toUInt32 >>> ((4 : Int32) &&& 31).toUInt32).toInt32))])) _
              refine XS.iconst X0.here hx rfl (hb hby d4_70) ?_
              show Steps p.tables e below (s₁.setTop (mkF m 71 #[.val (.int ((((((p0.toUInt32 >>> ((16 : Int32) &&& 31).toUInt32).toInt32).toUInt32 >>> ((8 : Int32) &&& 31).toUInt32).toInt32).toUInt32 >>> ((4 : Int32) &&& 31).toUInt32).toInt32)), .val (.int (1 : Int32))] [(.int (2 : Int32)), (.int ((((((p0.toUInt32 >>> ((16 : Int32) &&& 31).toUInt32).toInt32).toUInt32 >>> ((8 : Int32) &&& 31).toUInt32).toInt32).toUInt32 >>> ((4 : Int32) &&& 31).toUInt32).toInt32))])) _
              refine XS.iushr X0.here hx rfl (hb hby d4_71) rfl ?_
              show Steps p.tables e below (s₁.setTop (mkF m 72 #[.val (.int ((((((p0.toUInt32 >>> ((16 : Int32) &&& 31).toUInt32).toInt32).toUInt32 >>> ((8 : Int32) &&& 31).toUInt32).toInt32).toUInt32 >>> ((4 : Int32) &&& 31).toUInt32).toInt32)), .val (.int (1 : Int32))] [(.int ((((((((p0.toUInt32 >>> ((16 : Int32) &&& 31).toUInt32).toInt32).toUInt32 >>> ((8 : Int32) &&& 31).toUInt32).toInt32).toUInt32 >>> ((4 : Int32) &&& 31).toUInt32).toInt32).toUInt32 >>> ((2 : Int32) &&& 31).toUInt32).toInt32))])) _
              refine XS.istoreN X0.here hx rfl (hb hby d4_72) rfl (l' := #[.val (.int ((((((((p0.toUInt32 >>> ((16 : Int32) &&& 31).toUInt32).toInt32).toUInt32 >>> ((8 : Int32) &&& 31).toUInt32).toInt32).toUInt32 >>> ((4 : Int32) &&& 31).toUInt32).toInt32).toUInt32 >>> ((2 : Int32) &&& 31).toUInt32).toInt32)), .val (.int (1 : Int32))]) rfl ?_
              show Steps p.tables e below (s₁.setTop (mkF m 73 #[.val (.int ((((((((p0.toUInt32 >>> ((16 : Int32) &&& 31).toUInt32).toInt32).toUInt32 >>> ((8 : Int32) &&& 31).toUInt32).toInt32).toUInt32 >>> ((4 : Int32) &&& 31).toUInt32).toInt32).toUInt32 >>> ((2 : Int32) &&& 31).toUInt32).toInt32)), .val (.int (1 : Int32))] [])) _
              refine XS.iloadN X0.here hx rfl (hb hby d4_73) rfl ?_
              show Steps p.tables e below (s₁.setTop (mkF m 74 #[.val (.int ((((((((p0.toUInt32 >>> ((16 : Int32) &&& 31).toUInt32).toInt32).toUInt32 >>> ((8 : Int32) &&& 31).toUInt32).toInt32).toUInt32 >>> ((4 : Int32) &&& 31).toUInt32).toInt32).toUInt32 >>> ((2 : Int32) &&& 31).toUInt32).toInt32)), .val (.int (1 : Int32))] [(.int (1 : Int32))])) _
              refine XS.iloadN X0.here hx rfl (hb hby d4_74) rfl ?_
              show Steps p.tables e below (s₁.setTop (mkF m 75 #[.val (.int ((((((((p0.toUInt32 >>> ((16 : Int32) &&& 31).toUInt32).toInt32).toUInt32 >>> ((8 : Int32) &&& 31).toUInt32).toInt32).toUInt32 >>> ((4 : Int32) &&& 31).toUInt32).toInt32).toUInt32 >>> ((2 : Int32) &&& 31).toUInt32).toInt32)), .val (.int (1 : Int32))] [(.int ((((((((p0.toUInt32 >>> ((16 : Int32) &&& 31).toUInt32).toInt32).toUInt32 >>> ((8 : Int32) &&& 31).toUInt32).toInt32).toUInt32 >>> ((4 : Int32) &&& 31).toUInt32).toInt32).toUInt32 >>> ((2 : Int32) &&& 31).toUInt32).toInt32)), (.int (1 : Int32))])) _
              refine XS.iconst X0.here hx rfl (hb hby d4_75) ?_
              show Steps p.tables e below (s₁.setTop (mkF m 76 #[.val (.int ((((((((p0.toUInt32 >>> ((16 : Int32) &&& 31).toUInt32).toInt32).toUInt32 >>> ((8 : Int32) &&& 31).toUInt32).toInt32).toUInt32 >>> ((4 : Int32) &&& 31).toUInt32).toInt32).toUInt32 >>> ((2 : Int32) &&& 31).toUInt32).toInt32)), .val (.int (1 : Int32))] [(.int (1 : Int32)), (.int ((((((((p0.toUInt32 >>> ((16 : Int32) &&& 31).toUInt32).toInt32).toUInt32 >>> ((8 : Int32) &&& 31).toUInt32).toInt32).toUInt32 >>> ((4 : Int32) &&& 31).toUInt32).toInt32).toUInt32 >>> ((2 : Int32) &&& 31).toUInt32).toInt32)), (.int (1 : Int32))])) _
              refine XS.iushr X0.here hx rfl (hb hby d4_76) rfl ?_
              show Steps p.tables e below (s₁.setTop (mkF m 77 #[.val (.int ((((((((p0.toUInt32 >>> ((16 : Int32) &&& 31).toUInt32).toInt32).toUInt32 >>> ((8 : Int32) &&& 31).toUInt32).toInt32).toUInt32 >>> ((4 : Int32) &&& 31).toUInt32).toInt32).toUInt32 >>> ((2 : Int32) &&& 31).toUInt32).toInt32)), .val (.int (1 : Int32))] [(.int ((((((((((p0.toUInt32 >>> ((16 : Int32) &&& 31).toUInt32).toInt32).toUInt32 >>> ((8 : Int32) &&& 31).toUInt32).toInt32).toUInt32 >>> ((4 : Int32) &&& 31).toUInt32).toInt32).toUInt32 >>> ((2 : Int32) &&& 31).toUInt32).toInt32).toUInt32 >>> ((1 : Int32) &&& 31).toUInt32).toInt32)), (.int (1 : Int32))])) _
              refine XS.isub X0.here hx rfl (hb hby d4_77) rfl ?_
              exact kt
            exact own_end X0 hlk (v := some (.int ((1 : Int32) - ((((((((((p0.toUInt32 >>> ((16 : Int32) &&& 31).toUInt32).toInt32).toUInt32 >>> ((8 : Int32) &&& 31).toUInt32).toInt32).toUInt32 >>> ((4 : Int32) &&& 31).toUInt32).toInt32).toUInt32 >>> ((2 : Int32) &&& 31).toUInt32).toInt32).toUInt32 >>> ((1 : Int32) &&& 31).toUInt32).toInt32)))) (fun h => by rw [Bd.returns] at h; cases h) (fun fs hr => retI X0 hx Bd.returns (hb hby d4_78) hr) (by rw [e0]; exact ⟨(by rw [f_rmIZ, if_pos hc1, if_neg hc2, if_neg hc10, if_neg hc14, if_neg hc16]), N0, rfl⟩) (by decide : 0 ≤ _) (by decide : 0 ≤ _)
  · refine own_thr (a := s₁.setTop (mkF m 5 #[.val (.int p0), .unset] [(.int p0)])) (fun t kt => ?_) ?_
    · show Steps p.tables e below (s₁.setTop (mkF m 1 #[.val (.int p0), .unset] [(.int p0)])) _
      refine XS.ifNo X0.here hx rfl (hb hby d4_1) rfl ((if0 _ _).trans (flt hc1).2.2.1) ?_
      show Steps p.tables e below (s₁.setTop (mkF m 4 #[.val (.int p0), .unset] [])) _
      refine XS.iloadN X0.here hx rfl (hb hby d4_4) rfl ?_
      exact kt
    by_cases hc17 : p0 = (0 : Int32)
    · refine own_thr (a := s₁.setTop (mkF m 14 #[.val (.int p0), .unset] [(.int (32 : Int32))])) (fun t kt => ?_) ?_
      · show Steps p.tables e below (s₁.setTop (mkF m 5 #[.val (.int p0), .unset] [(.int p0)])) _
        refine XS.ifNo X0.here hx rfl (hb hby d4_5) rfl ((if0 _ _).trans (teq hc17).2) ?_
        show Steps p.tables e below (s₁.setTop (mkF m 8 #[.val (.int p0), .unset] [])) _
        refine XS.bipush X0.here hx rfl (hb hby d4_8) ?_
        show Steps p.tables e below (s₁.setTop (mkF m 10 #[.val (.int p0), .unset] [(.int (32 : Int32))])) _
        refine XS.goto X0.here hx rfl (pc0 := 10) (pc' := 14) rfl (hb hby d4_10) (by decide) (by decide) ?_
        exact kt
      exact own_end X0 hlk (v := some (.int (32 : Int32))) (fun h => by rw [Bd.returns] at h; cases h) (fun fs hr => retI X0 hx Bd.returns (hb hby d4_14) hr) (by rw [e0]; exact ⟨(by rw [f_rmIZ, if_neg hc1, if_pos hc17]), N0, rfl⟩) (by decide : 0 ≤ _) (by decide : 0 ≤ _)
    · refine own_thr (a := s₁.setTop (mkF m 14 #[.val (.int p0), .unset] [(.int (0 : Int32))])) (fun t kt => ?_) ?_
      · show Steps p.tables e below (s₁.setTop (mkF m 5 #[.val (.int p0), .unset] [(.int p0)])) _
        refine XS.ifYes X0.here hx rfl (pc0 := 5) (pc' := 13) rfl (hb hby d4_5) rfl ((if0 _ _).trans (feq hc17).2) (by decide) (by decide) ?_
        show Steps p.tables e below (s₁.setTop (mkF m 13 #[.val (.int p0), .unset] [])) _
        refine XS.iconst X0.here hx rfl (hb hby d4_13) ?_
        exact kt
      exact own_end X0 hlk (v := some (.int (0 : Int32))) (fun h => by rw [Bd.returns] at h; cases h) (fun fs hr => retI X0 hx Bd.returns (hb hby d4_14) hr) (by rw [e0]; exact ⟨(by rw [f_rmIZ, if_neg hc1, if_neg hc17]), N0, rfl⟩) (by decide : 0 ≤ _) (by decide : 0 ≤ _)
theorem d3_0 : decode jdk_35_method_48_code 0 = .ok (.lload_n 0, 1) := by decide +kernel
theorem d3_1 : decode jdk_35_method_48_code 1 = .ok (.bipush 32, 2) := by decide +kernel
theorem d3_3 : decode jdk_35_method_48_code 3 = .ok (.lushr, 1) := by decide +kernel
theorem d3_4 : decode jdk_35_method_48_code 4 = .ok (.l2i, 1) := by decide +kernel
theorem d3_5 : decode jdk_35_method_48_code 5 = .ok (.istore_n 2, 1) := by decide +kernel
theorem d3_6 : decode jdk_35_method_48_code 6 = .ok (.iload_n 2, 1) := by decide +kernel
theorem d3_7 : decode jdk_35_method_48_code 7 = .ok (.ifCond .ne 14, 3) := by decide +kernel
theorem d3_10 : decode jdk_35_method_48_code 10 = .ok (.bipush 32, 2) := by decide +kernel
theorem d3_12 : decode jdk_35_method_48_code 12 = .ok (.lload_n 0, 1) := by decide +kernel
theorem d3_13 : decode jdk_35_method_48_code 13 = .ok (.l2i, 1) := by decide +kernel
theorem pd__28I_29I : parseMethodDescriptor "(I)I" = some ⟨[.int], some .int⟩ := by decide +kernel
theorem d3_14 : decode jdk_35_method_48_code 14 = .ok (.invokestatic 308, 3) := by decide +kernel
theorem d3_17 : decode jdk_35_method_48_code 17 = .ok (.iadd, 1) := by decide +kernel
theorem d3_18 : decode jdk_35_method_48_code 18 = .ok (.goto 7, 3) := by decide +kernel
theorem d3_25 : decode jdk_35_method_48_code 25 = .ok (.ireturn, 1) := by decide +kernel
theorem d3_21 : decode jdk_35_method_48_code 21 = .ok (.iload_n 2, 1) := by decide +kernel
theorem d3_22 : decode jdk_35_method_48_code 22 = .ok (.invokestatic 308, 3) := by decide +kernel
theorem pn_java_lang_Long : plainName "java/lang/Long" = true := by first | (simp [plainName, overriddenIn]; done) | decide +kernel
theorem ef_rmLZ (m : MethodId) (q0 : Int64)  : entryFrame m #[(.long q0)] 3 = mkF m 0 #[.val (.long q0), .second, .unset] [] := by first |  (simp [entryFrame, mkF, argsToLocals, Value.category]; done) | rfl
def f_rmLZ (q0 : Int64) : Int32 := if (((q0.toUInt64 >>> ((32 : Int32) &&& 0x3f).toInt64.toUInt64).toInt64).toInt32) = (0 : Int32) then ((32 : Int32) + (f_rmIZ (q0.toInt32))) else (f_rmIZ (((q0.toUInt64 >>> ((32 : Int32) &&& 0x3f).toInt64.toUInt64).toInt64).toInt32))
def Q_rmLZ (Z : State) (q0 : Int64) (h0 : Heap) (n0 : Nat) (v : Option Value) (h : Heap) (L : List Loc) : Prop := v = some (.int (f_rmLZ q0)) ∧ Fr n0 L ∧ h = h0
set_option maxRecDepth 65536 in
set_option maxHeartbeats 40000000 in
theorem rmLZ (l : Launch) (Z : State) (a0 : Array Value) (hw : ∀ d ∈ tables_1, d.before a0 Z = true) (ws : List Jvm.Cond) (q0 : Int64) (h0 : Heap) (n0 : Nat) (Z0 : n0 ≤ h0.size) :
    MetFree l (⟨"java/lang/Long", "numberOfLeadingZeros", "(J)I"⟩ : MethodName) (head1 (Jvm.Cond.code (⟨"java/lang/Long", "numberOfLeadingZeros", "(J)I"⟩ : MethodName) jdk_35_method_48_code 3 (some .int) :: ws) ({ frames := 1, cells := 0, slots := 0, locals := 14 } : Room)) (fun a U => a = #[(.long q0)] ∧ Z.Warmed39 U.vm ∧ U.heap = h0) (fun _ _ _ _ _ => True) (fun _ U o U' => ∃ v L, o = .returned v ∧ Q_rmLZ Z q0 h0 n0 v U'.heap L ∧ FrameEnd U o U' L ({ frames := 1, cells := 0, slots := 0, locals := 14 } : Room).cells ({ frames := 1, cells := 0, slots := 0, locals := 14 } : Room).slots) := by
  refine MetFree.of_bodySF (plainFor_of_name pn_java_lang_Long) hisR ?_
  intro p e s m args below meth c s₁ Bd hml0 hP hK
  obtain ⟨rfl, hZ, hh⟩ := hP
  have hx := Bd.exec
  have hby := Bd.bytes
  have hml : c.maxLocals = 3 := hml0
  have hown : s.vm.findClass "java/lang/Long" = some m.cls := findClass_of_methodNamed Bd.named
  have hnm := (name_of_methodNamed Bd.named Bd.method).1
  have hlk := Bd.notSynchronized
  have X0 : Stand p l e ({ frames := 1, cells := 0, slots := 0, locals := 14 } : Room) s m #[(.long q0)] below meth c s₁ [] 0 0 := Stand.of_body Bd
  have e0 : s₁.heap = h0 := by rw [← hh, Bd.state]; rfl
  have N0 := Fr.nil n0
  show own_G p.tables e below s (Q_rmLZ Z q0 h0 n0) ({ frames := 1, cells := 0, slots := 0, locals := 14 } : Room).cells ({ frames := 1, cells := 0, slots := 0, locals := 14 } : Room).slots _
  refine own_thr (a := s₁.setTop (mkF m 0 #[.val (.long q0), .second, .unset] [])) (fun t kt => castTop (ef_rmLZ m q0) kt) ?_
  refine own_thr (a := s₁.setTop (mkF m 7 #[.val (.long q0), .second, .val (.int (((q0.toUInt64 >>> ((32 : Int32) &&& 0x3f).toInt64.toUInt64).toInt64).toInt32))] [(.int (((q0.toUInt64 >>> ((32 : Int32) &&& 0x3f).toInt64.toUInt64).toInt64).toInt32))])) (fun t kt => ?_) ?_
  · show Steps p.tables e below (s₁.setTop (mkF m 0 #[.val (.long q0), .second, .unset] [])) _
    refine XS.lloadN X0.here hx rfl (hb hby d3_0) rfl ?_
    show Steps p.tables e below (s₁.setTop (mkF m 1 #[.val (.long q0), .second, .unset] [(.long q0)])) _
    refine XS.bipush X0.here hx rfl (hb hby d3_1) ?_
    show Steps p.tables e below (s₁.setTop (mkF m 3 #[.val (.long q0), .second, .unset] [(.int (32 : Int32)), (.long q0)])) _
    refine XS.lushr X0.here hx rfl (hb hby d3_3) rfl ?_
    show Steps p.tables e below (s₁.setTop (mkF m 4 #[.val (.long q0), .second, .unset] [(.long ((q0.toUInt64 >>> ((32 : Int32) &&& 0x3f).toInt64.toUInt64).toInt64))])) _
    refine XS.l2i X0.here hx rfl (hb hby d3_4) rfl ?_
    show Steps p.tables e below (s₁.setTop (mkF m 5 #[.val (.long q0), .second, .unset] [(.int (((q0.toUInt64 >>> ((32 : Int32) &&& 0x3f).toInt64.toUInt64).toInt64).toInt32))])) _
    refine XS.istoreN X0.here hx rfl (hb hby d3_5) rfl (l' := #[.val (.long q0), .second, .val (.int (((q0.toUInt64 >>> ((32 : Int32) &&& 0x3f).toInt64.toUInt64).toInt64).toInt32))]) rfl ?_
    show Steps p.tables e below (s₁.setTop (mkF m 6 #[.val (.long q0), .second, .val (.int (((q0.toUInt64 >>> ((32 : Int32) &&& 0x3f).toInt64.toUInt64).toInt64).toInt32))] [])) _
    refine XS.iloadN X0.here hx rfl (hb hby d3_6) rfl ?_
    exact kt
  by_cases hc1 : (((q0.toUInt64 >>> ((32 : Int32) &&& 0x3f).toInt64.toUInt64).toInt64).toInt32) = (0 : Int32)
  · refine own_thr (a := s₁.setTop (mkF m 14 #[.val (.long q0), .second, .val (.int (((q0.toUInt64 >>> ((32 : Int32) &&& 0x3f).toInt64.toUInt64).toInt64).toInt32))] [(.int (q0.toInt32)), (.int (32 : Int32))])) (fun t kt => ?_) ?_
    · show Steps p.tables e below (s₁.setTop (mkF m 7 #[.val (.long q0), .second, .val (.int (((q0.toUInt64 >>> ((32 : Int32) &&& 0x3f).toInt64.toUInt64).toInt64).toInt32))] [(.int (((q0.toUInt64 >>> ((32 : Int32) &&& 0x3f).toInt64.toUInt64).toInt64).toInt32))])) _
      refine XS.ifNo X0.here hx rfl (hb hby d3_7) rfl ((if0 _ _).trans (teq hc1).2) ?_
      show Steps p.tables e below (s₁.setTop (mkF m 10 #[.val (.long q0), .second, .val (.int (((q0.toUInt64 >>> ((32 : Int32) &&& 0x3f).toInt64.toUInt64).toInt64).toInt32))] [])) _
      refine XS.bipush X0.here hx rfl (hb hby d3_10) ?_
      show Steps p.tables e below (s₁.setTop (mkF m 12 #[.val (.long q0), .second, .val (.int (((q0.toUInt64 >>> ((32 : Int32) &&& 0x3f).toInt64.toUInt64).toInt64).toInt32))] [(.int (32 : Int32))])) _
      refine XS.lloadN X0.here hx rfl (hb hby d3_12) rfl ?_
      show Steps p.tables e below (s₁.setTop (mkF m 13 #[.val (.long q0), .second, .val (.int (((q0.toUInt64 >>> ((32 : Int32) &&& 0x3f).toInt64.toUInt64).toInt64).toInt32))] [(.long q0), (.int (32 : Int32))])) _
      refine XS.l2i X0.here hx rfl (hb hby d3_13) rfl ?_
      exact kt
    obtain ⟨_, _, ⟨T2, L2, k2, n2⟩, -, X2, ⟨Lc2, hQ2, l2, y2, z2⟩, st2⟩ := Jvm.LawKit.callS X0 hx (y := (⟨"java/lang/Integer", "numberOfLeadingZeros", "(I)I"⟩ : MethodName)) hown (mvT hZ (hw _ (List.mem_of_getElem? (i := 12) rfl))) (mvT hZ (hw _ (List.mem_of_getElem? (i := 13) rfl))) (mvT hZ (hw _ (List.mem_of_getElem? (i := 14) rfl))) (mvT hZ (hw _ (List.mem_of_getElem? (i := 15) rfl))) (by decide) (backOf (W := 1) (rmIZ l Z a0 hw [] (q0.toInt32) h0 n0 Z0) hZ (hw _ (List.mem_of_getElem? (i := 15) rfl)) (hw _ (List.mem_of_getElem? (i := 14) rfl)) (by decide) (by decide)) (g := (mkF m 14 #[.val (.long q0), .second, .val (.int (((q0.toUInt64 >>> ((32 : Int32) &&& 0x3f).toInt64.toUInt64).toInt64).toInt32))] [(.int (q0.toInt32)), (.int (32 : Int32))])) rfl (by rw [hml]; rfl) (argsL := [(.int (q0.toInt32))]) (rest := [(.int (32 : Int32))]) (lenOf pd__28I_29I rfl) rfl (by show 2 * 0 + _ ≤ _; exact Nat.le_of_eq rfl) (hb hby d3_14) (fun _ _ => ⟨rfl, e0, (by decide : 0 + 0 ≤ _), (by decide : 0 + 0 ≤ _)⟩)
    dsimp only [Pt.U, Pt.locs, Pt.cells, Pt.slots] at X2 l2 y2 z2 st2 hQ2
    obtain ⟨rfl, N2q, e2⟩ := hQ2
    obtain ⟨lc2, X2, N2⟩ := own_pack X2 l2 y2 z2 N0 N2q (C := 0) (S' := 0) rfl rfl
    refine own_thr (a := T2.setTop (mkF m 17 #[.val (.long q0), .second, .val (.int (((q0.toUInt64 >>> ((32 : Int32) &&& 0x3f).toInt64.toUInt64).toInt64).toInt32))] [(.int (f_rmIZ (q0.toInt32))), (.int (32 : Int32))])) (fun t kt => st2 t kt) ?_
    refine own_thr (a := T2.setTop (mkF m 25 #[.val (.long q0), .second, .val (.int (((q0.toUInt64 >>> ((32 : Int32) &&& 0x3f).toInt64.toUInt64).toInt64).toInt32))] [(.int ((32 : Int32) + (f_rmIZ (q0.toInt32))))])) (fun t kt => ?_) ?_
    · show Steps p.tables e below (T2.setTop (mkF m 17 #[.val (.long q0), .second, .val (.int (((q0.toUInt64 >>> ((32 : Int32) &&& 0x3f).toInt64.toUInt64).toInt64).toInt32))] [(.int (f_rmIZ (q0.toInt32))), (.int (32 : Int32))])) _
      refine XS.iadd X2.here hx rfl (hb hby d3_17) rfl ?_
      show Steps p.tables e below (T2.setTop (mkF m 18 #[.val (.long q0), .second, .val (.int (((q0.toUInt64 >>> ((32 : Int32) &&& 0x3f).toInt64.toUInt64).toInt64).toInt32))] [(.int ((32 : Int32) + (f_rmIZ (q0.toInt32))))])) _
      refine XS.goto X2.here hx rfl (pc0 := 18) (pc' := 25) rfl (hb hby d3_18) (by decide) (by decide) ?_
      exact kt
    exact own_end X2 hlk (v := some (.int ((32 : Int32) + (f_rmIZ (q0.toInt32))))) (fun h => by rw [Bd.returns] at h; cases h) (fun fs hr => retI X2 hx Bd.returns (hb hby d3_25) hr) (by rw [e2]; exact ⟨(by rw [f_rmLZ, if_pos hc1]), N2, rfl⟩) (by decide : 0 ≤ _) (by decide : 0 ≤ _)
  · refine own_thr (a := s₁.setTop (mkF m 22 #[.val (.long q0), .second, .val (.int (((q0.toUInt64 >>> ((32 : Int32) &&& 0x3f).toInt64.toUInt64).toInt64).toInt32))] [(.int (((q0.toUInt64 >>> ((32 : Int32) &&& 0x3f).toInt64.toUInt64).toInt64).toInt32))])) (fun t kt => ?_) ?_
    · show Steps p.tables e below (s₁.setTop (mkF m 7 #[.val (.long q0), .second, .val (.int (((q0.toUInt64 >>> ((32 : Int32) &&& 0x3f).toInt64.toUInt64).toInt64).toInt32))] [(.int (((q0.toUInt64 >>> ((32 : Int32) &&& 0x3f).toInt64.toUInt64).toInt64).toInt32))])) _
      refine XS.ifYes X0.here hx rfl (pc0 := 7) (pc' := 21) rfl (hb hby d3_7) rfl ((if0 _ _).trans (feq hc1).2) (by decide) (by decide) ?_
      show Steps p.tables e below (s₁.setTop (mkF m 21 #[.val (.long q0), .second, .val (.int (((q0.toUInt64 >>> ((32 : Int32) &&& 0x3f).toInt64.toUInt64).toInt64).toInt32))] [])) _
      refine XS.iloadN X0.here hx rfl (hb hby d3_21) rfl ?_
      exact kt
    obtain ⟨_, _, ⟨T3, L3, k3, n3⟩, -, X3, ⟨Lc3, hQ3, l3, y3, z3⟩, st3⟩ := Jvm.LawKit.callS X0 hx (y := (⟨"java/lang/Integer", "numberOfLeadingZeros", "(I)I"⟩ : MethodName)) hown (mvT hZ (hw _ (List.mem_of_getElem? (i := 12) rfl))) (mvT hZ (hw _ (List.mem_of_getElem? (i := 13) rfl))) (mvT hZ (hw _ (List.mem_of_getElem? (i := 14) rfl))) (mvT hZ (hw _ (List.mem_of_getElem? (i := 15) rfl))) (by decide) (backOf (W := 0) (rmIZ l Z a0 hw [] (((q0.toUInt64 >>> ((32 : Int32) &&& 0x3f).toInt64.toUInt64).toInt64).toInt32) h0 n0 Z0) hZ (hw _ (List.mem_of_getElem? (i := 15) rfl)) (hw _ (List.mem_of_getElem? (i := 14) rfl)) (by decide) (by decide)) (g := (mkF m 22 #[.val (.long q0), .second, .val (.int (((q0.toUInt64 >>> ((32 : Int32) &&& 0x3f).toInt64.toUInt64).toInt64).toInt32))] [(.int (((q0.toUInt64 >>> ((32 : Int32) &&& 0x3f).toInt64.toUInt64).toInt64).toInt32))])) rfl (by rw [hml]; rfl) (argsL := [(.int (((q0.toUInt64 >>> ((32 : Int32) &&& 0x3f).toInt64.toUInt64).toInt64).toInt32))]) (rest := []) (lenOf pd__28I_29I rfl) rfl (by show 2 * 0 + _ ≤ _; exact Nat.le_of_eq rfl) (hb hby d3_22) (fun _ _ => ⟨rfl, e0, (by decide : 0 + 0 ≤ _), (by decide : 0 + 0 ≤ _)⟩)
    dsimp only [Pt.U, Pt.locs, Pt.cells, Pt.slots] at X3 l3 y3 z3 st3 hQ3
    obtain ⟨rfl, N3q, e3⟩ := hQ3
    obtain ⟨lc3, X3, N3⟩ := own_pack X3 l3 y3 z3 N0 N3q (C := 0) (S' := 0) rfl rfl
    refine own_thr (a := T3.setTop (mkF m 25 #[.val (.long q0), .second, .val (.int (((q0.toUInt64 >>> ((32 : Int32) &&& 0x3f).toInt64.toUInt64).toInt64).toInt32))] [(.int (f_rmIZ (((q0.toUInt64 >>> ((32 : Int32) &&& 0x3f).toInt64.toUInt64).toInt64).toInt32)))])) (fun t kt => st3 t kt) ?_
    exact own_end X3 hlk (v := some (.int (f_rmIZ (((q0.toUInt64 >>> ((32 : Int32) &&& 0x3f).toInt64.toUInt64).toInt64).toInt32)))) (fun h => by rw [Bd.returns] at h; cases h) (fun fs hr => retI X3 hx Bd.returns (hb hby d3_25) hr) (by rw [e3]; exact ⟨(by rw [f_rmLZ, if_neg hc1]), N3, rfl⟩) (by decide : 0 ≤ _) (by decide : 0 ≤ _)
theorem own_succ (i : Nat) : i.toInt32 + (1 : Int32) = (i + 1).toInt32 := by
  show Int32.ofNat i + Int32.ofNat 1 = Int32.ofNat (i + 1)
  rw [← Int32.ofNat_add]
theorem own_ix {i n : Nat} (hi : i < n) (hn : n < 2 ^ 31) : ¬ i.toInt32 < 0 ∧ i.toInt32 < n.toInt32 := by
  have h1 : i.toInt32.toInt = i := len_toInt (by omega)
  have h2 : n.toInt32.toInt = n := len_toInt hn
  have h0 : (0 : Int32).toInt = 0 := rfl
  constructor <;> rw [Int32.lt_iff_toInt_lt] <;> omega
theorem own_nx {i n : Nat} (hi : n ≤ i) (hn : i < 2 ^ 31) : ¬ i.toInt32 < n.toInt32 := by
  have h1 : i.toInt32.toInt = i := len_toInt hn
  have h2 : n.toInt32.toInt = n := len_toInt (by omega)
  rw [Int32.lt_iff_toInt_lt]; omega
theorem own_nat {i : Nat} (hi : i < 2 ^ 31) : i.toInt32.toNatClampNeg = i := by
  have h1 : i.toInt32.toInt = i := len_toInt hi
  show i.toInt32.toInt.toNat = i
  omega
theorem own_len {s : State} {args : Array Value} {ca : Addr} {cl : Cell} {t : Term} {ty : FieldType} {n : Int32} (ev : t.eval args s none [] s = some (.ref ca)) (A : Arr s s.heap ca cl ty) (h : (Jvm.Cond.eq (Term.length t) (Term.int n)).value args s none s [] = some true) : cl.slots.size.toInt32 = n ∧ cl.slots.size < 2 ^ 31 := by
  have hA : s.arrayAt? ca = some cl := Arr.fin (Vm.Alike.refl _) A
  simp only [Cond.value, Term.eval, ev, Option.bind_eq_bind, Option.bind_some, hA] at h
  by_cases hl : cl.slots.size < 2147483648
  · simp [hl] at h; exact ⟨h, hl⟩
  · simp [hl] at h
theorem own_lenN {s : State} {args : Array Value} {ca : Addr} {cl : Cell} {t : Term} {ty : FieldType} {n : Int32} (ev : t.eval args s none [] s = some (.ref ca)) (A : Arr s s.heap ca cl ty) (h : (Jvm.Cond.eq (Term.length t) (Term.int n)).value args s none s [] = some true) (N : Nat) (hN : n.toInt = N) : cl.slots.size = N := by
  obtain ⟨h1, h2⟩ := own_len ev A h
  have h3 := len_toInt h2
  rw [h1] at h3
  omega
theorem own_eqI {args : Array Value} {s : State} {idx : List Nat} {a b : Term} {k : Int32} (h : (Jvm.Cond.eq a b).value args s none s idx = some true) (hb : b.eval args s none idx s = some (.int k)) : a.eval args s none idx s = some (.int k) := by
  obtain ⟨x, y, h1, h2, k1, k2⟩ := cmp_v (Or.inl h)
  cases hb.symm.trans h2
  obtain ⟨z, rfl⟩ := k2
  simp [Cond.value, h1, h2] at h
  subst h; exact h1
theorem own_eqJ {args : Array Value} {s : State} {idx : List Nat} {a b : Term} {k : Int64} (h : (Jvm.Cond.eq a b).value args s none s idx = some true) (hb : b.eval args s none idx s = some (.long k)) : a.eval args s none idx s = some (.long k) := by
  obtain ⟨x, y, h1, h2, k1, k2⟩ := cmp_v (Or.inl h)
  cases hb.symm.trans h2
  obtain ⟨z, rfl⟩ := k2
  simp [Cond.value, h1, h2] at h
  subst h; exact h1
theorem own_eqR {args : Array Value} {s : State} {idx : List Nat} {a b : Term} {k : Addr} (h : (Jvm.Cond.eq a b).value args s none s idx = some true) (hb : b.eval args s none idx s = some (.ref k)) : a.eval args s none idx s = some (.ref k) := by
  obtain ⟨x, y, h1, h2, k1, k2⟩ := cmp_v (Or.inl h)
  cases hb.symm.trans h2
  have hx : x.isRef = true := k2.2
  have q := gotT (eq_R h1 h2 hx rfl) h
  subst q; exact h1
theorem own_elR {args : Array Value} {s : State} {t u : Term} {a r : Addr} {cl : Cell} {ty : FieldType} {j : Int32} (h : (Jvm.Cond.eq (.elem t (.int j)) u).value args s none s [] = some true) (ht : t.eval args s none [] s = some (.ref a)) (A : Arr s s.heap a cl ty) (hu : u.eval args s none [] s = some (.ref r)) : cl.slots[j.toNatClampNeg]? = some (.ref r) :=
  (elem_in (own_eqR h hu) ht rfl A.1).2
theorem own_elJ {args : Array Value} {s : State} {t : Term} {a : Addr} {cl : Cell} {ty : FieldType} {j : Int32} {k : Int64} (h : (Jvm.Cond.eq (.elem t (.int j)) (.long k)).value args s none s [] = some true) (ht : t.eval args s none [] s = some (.ref a)) (A : Arr s s.heap a cl ty) : cl.slots[j.toNatClampNeg]? = some (.long k) :=
  (elem_in (own_eqJ h rfl) ht rfl A.1).2
theorem own_fldI {args : Array Value} {s : State} {t : Term} {C n d : String} {x : Addr} {k : Int32} (h : (Jvm.Cond.eq (.field t C n d) (.int k)).value args s none s [] = some true) (ht : t.eval args s none [] s = some (.ref x)) : Fld s s.heap x C n d (.int k) :=
  Fld.start ((fld_at ht).symm.trans (own_eqI h rfl))
def own_last : List Int64 := [-1, 9223372036854775807, 4611686018427387903, 2305843009213693951, 1152921504606846975, 576460752303423487, 288230376151711743, 144115188075855871, 72057594037927935, 36028797018963967, 18014398509481983, 9007199254740991, 4503599627370495, 2251799813685247, 1125899906842623, 562949953421311, 281474976710655, 140737488355327, 70368744177663, 35184372088831, 17592186044415, 8796093022207, 4398046511103, 2199023255551, 1099511627775, 549755813887, 274877906943, 137438953471, 68719476735, 34359738367, 17179869183, 8589934591, 4294967295, 2147483647, 1073741823, 536870911, 268435455, 134217727, 67108863, 33554431, 16777215, 8388607, 4194303, 2097151, 1048575, 524287, 262143, 131071, 65535, 32767, 16383, 8191, 4095, 2047, 1023, 511, 250, 127, 63, 31, 15, 7, 3, 1, 0]
def own_lens : List Int32 := [9, 9, 9, 9, 9, 9, 9, 9, 9, 9, 9, 9, 9, 9, 9, 9, 9, 9, 9, 9, 9, 9, 9, 9, 9, 9, 9, 9, 9, 9, 9, 9, 9, 9, 9, 9, 9, 9, 9, 9, 4, 4, 4, 4, 4, 4, 4, 4, 3, 3, 3, 3, 3, 3, 3, 3, 1, 1, 1, 1, 1, 1, 1, 1, 1]
theorem own_sh (x q : Int32) (k : Nat) (hk : q.toBitVec.toNat % 32 = k) (h0 : 0 < k) (hx : 0 ≤ x.toInt) : ((x.toUInt32 >>> (q &&& 31).toUInt32).toInt32).toInt = x.toInt / (2 ^ k : Nat) := by
  rw [c_iushr x q k hk h0]
  have := rng32 x
  rw [Int.emod_eq_of_lt hx (by omega)]
theorem own_iz (p : Int32) : ∃ k : Nat, (f_rmIZ p).toInt = k ∧ k ≤ 32 ∧ (p.toInt % 4294967296).toNat < 2 ^ (32 - k) ∧ (k < 32 → 2 ^ (31 - k) ≤ (p.toInt % 4294967296).toNat) := by
  have hr := rng32 p
  have t0 : (0 : Int32).toInt = 0 := rfl
  have t65536 : (65536 : Int32).toInt = 65536 := rfl
  have t256 : (256 : Int32).toInt = 256 := rfl
  have t16 : (16 : Int32).toInt = 16 := rfl
  have t4 : (4 : Int32).toInt = 4 := rfl
  unfold f_rmIZ
  by_cases h0 : (0 : Int32) < p
  · rw [if_pos h0]
    rw [Int32.lt_iff_toInt_lt, t0] at h0
    by_cases h1 : p < (65536 : Int32)
    · rw [if_pos h1]
      rw [Int32.lt_iff_toInt_lt, t65536] at h1
      by_cases h2 : p < (256 : Int32)
      · rw [if_pos h2]
        rw [Int32.lt_iff_toInt_lt, t256] at h2
        by_cases h3 : p < (16 : Int32)
        · rw [if_pos h3]
          rw [Int32.lt_iff_toInt_lt, t16] at h3
          by_cases h4 : p < (4 : Int32)
          · rw [if_pos h4]
            rw [Int32.lt_iff_toInt_lt, t4] at h4
            have ey5 := own_sh p 1 1 (by decide) (by decide) (by omega)
            have es5 := c_isub (31 : Int32) ((p.toUInt32 >>> ((1 : Int32) &&& 31).toUInt32).toInt32)
            have et5 := rng32 ((31 : Int32) - ((p.toUInt32 >>> ((1 : Int32) &&& 31).toUInt32).toInt32))
            have ec5 : (31 : Int32).toInt = 31 := rfl
            rcases (by omega : (((p.toUInt32 >>> ((1 : Int32) &&& 31).toUInt32).toInt32)).toInt = 0 ∨ (((p.toUInt32 >>> ((1 : Int32) &&& 31).toUInt32).toInt32)).toInt = 1) with hy | hy
            · exact ⟨31, by omega, by omega, by simp only [Nat.reduceSub, Nat.reducePow]; omega, fun _ => by simp only [Nat.reduceSub, Nat.reducePow]; omega⟩
            · exact ⟨30, by omega, by omega, by simp only [Nat.reduceSub, Nat.reducePow]; omega, fun _ => by simp only [Nat.reduceSub, Nat.reducePow]; omega⟩
          · rw [if_neg h4]
            rw [Int32.lt_iff_toInt_lt, t4] at h4
            have e6 := own_sh p 2 2 (by decide) (by decide) (by omega)
            have ey7 := own_sh ((p.toUInt32 >>> ((2 : Int32) &&& 31).toUInt32).toInt32) 1 1 (by decide) (by decide) (by omega)
            have es7 := c_isub (29 : Int32) ((((p.toUInt32 >>> ((2 : Int32) &&& 31).toUInt32).toInt32).toUInt32 >>> ((1 : Int32) &&& 31).toUInt32).toInt32)
            have et7 := rng32 ((29 : Int32) - ((((p.toUInt32 >>> ((2 : Int32) &&& 31).toUInt32).toInt32).toUInt32 >>> ((1 : Int32) &&& 31).toUInt32).toInt32))
            have ec7 : (29 : Int32).toInt = 29 := rfl
            rcases (by omega : (((((p.toUInt32 >>> ((2 : Int32) &&& 31).toUInt32).toInt32).toUInt32 >>> ((1 : Int32) &&& 31).toUInt32).toInt32)).toInt = 0 ∨ (((((p.toUInt32 >>> ((2 : Int32) &&& 31).toUInt32).toInt32).toUInt32 >>> ((1 : Int32) &&& 31).toUInt32).toInt32)).toInt = 1) with hy | hy
            · exact ⟨29, by omega, by omega, by simp only [Nat.reduceSub, Nat.reducePow]; omega, fun _ => by simp only [Nat.reduceSub, Nat.reducePow]; omega⟩
            · exact ⟨28, by omega, by omega, by simp only [Nat.reduceSub, Nat.reducePow]; omega, fun _ => by simp only [Nat.reduceSub, Nat.reducePow]; omega⟩
        · rw [if_neg h3]
          rw [Int32.lt_iff_toInt_lt, t16] at h3
          have e8 := own_sh p 4 4 (by decide) (by decide) (by omega)
          by_cases h9 : ((p.toUInt32 >>> ((4 : Int32) &&& 31).toUInt32).toInt32) < (4 : Int32)
          · rw [if_pos h9]
            rw [Int32.lt_iff_toInt_lt, t4] at h9
            have ey10 := own_sh ((p.toUInt32 >>> ((4 : Int32) &&& 31).toUInt32).toInt32) 1 1 (by decide) (by decide) (by omega)
            have es10 := c_isub (27 : Int32) ((((p.toUInt32 >>> ((4 : Int32) &&& 31).toUInt32).toInt32).toUInt32 >>> ((1 : Int32) &&& 31).toUInt32).toInt32)
            have et10 := rng32 ((27 : Int32) - ((((p.toUInt32 >>> ((4 : Int32) &&& 31).toUInt32).toInt32).toUInt32 >>> ((1 : Int32) &&& 31).toUInt32).toInt32))
            have ec10 : (27 : Int32).toInt = 27 := rfl
            rcases (by omega : (((((p.toUInt32 >>> ((4 : Int32) &&& 31).toUInt32).toInt32).toUInt32 >>> ((1 : Int32) &&& 31).toUInt32).toInt32)).toInt = 0 ∨ (((((p.toUInt32 >>> ((4 : Int32) &&& 31).toUInt32).toInt32).toUInt32 >>> ((1 : Int32) &&& 31).toUInt32).toInt32)).toInt = 1) with hy | hy
            · exact ⟨27, by omega, by omega, by simp only [Nat.reduceSub, Nat.reducePow]; omega, fun _ => by simp only [Nat.reduceSub, Nat.reducePow]; omega⟩
            · exact ⟨26, by omega, by omega, by simp only [Nat.reduceSub, Nat.reducePow]; omega, fun _ => by simp only [Nat.reduceSub, Nat.reducePow]; omega⟩
          · rw [if_neg h9]
            rw [Int32.lt_iff_toInt_lt, t4] at h9
            have e11 := own_sh ((p.toUInt32 >>> ((4 : Int32) &&& 31).toUInt32).toInt32) 2 2 (by decide) (by decide) (by omega)
            have ey12 := own_sh ((((p.toUInt32 >>> ((4 : Int32) &&& 31).toUInt32).toInt32).toUInt32 >>> ((2 : Int32) &&& 31).toUInt32).toInt32) 1 1 (by decide) (by decide) (by omega)
            have es12 := c_isub (25 : Int32) ((((((p.toUInt32 >>> ((4 : Int32) &&& 31).toUInt32).toInt32).toUInt32 >>> ((2 : Int32) &&& 31).toUInt32).toInt32).toUInt32 >>> ((1 : Int32) &&& 31).toUInt32).toInt32)
            have et12 := rng32 ((25 : Int32) - ((((((p.toUInt32 >>> ((4 : Int32) &&& 31).toUInt32).toInt32).toUInt32 >>> ((2 : Int32) &&& 31).toUInt32).toInt32).toUInt32 >>> ((1 : Int32) &&& 31).toUInt32).toInt32))
            have ec12 : (25 : Int32).toInt = 25 := rfl
            rcases (by omega : (((((((p.toUInt32 >>> ((4 : Int32) &&& 31).toUInt32).toInt32).toUInt32 >>> ((2 : Int32) &&& 31).toUInt32).toInt32).toUInt32 >>> ((1 : Int32) &&& 31).toUInt32).toInt32)).toInt = 0 ∨ (((((((p.toUInt32 >>> ((4 : Int32) &&& 31).toUInt32).toInt32).toUInt32 >>> ((2 : Int32) &&& 31).toUInt32).toInt32).toUInt32 >>> ((1 : Int32) &&& 31).toUInt32).toInt32)).toInt = 1) with hy | hy
            · exact ⟨25, by omega, by omega, by simp only [Nat.reduceSub, Nat.reducePow]; omega, fun _ => by simp only [Nat.reduceSub, Nat.reducePow]; omega⟩
            · exact ⟨24, by omega, by omega, by simp only [Nat.reduceSub, Nat.reducePow]; omega, fun _ => by simp only [Nat.reduceSub, Nat.reducePow]; omega⟩
      · rw [if_neg h2]
        rw [Int32.lt_iff_toInt_lt, t256] at h2
        have e13 := own_sh p 8 8 (by decide) (by decide) (by omega)
        by_cases h14 : ((p.toUInt32 >>> ((8 : Int32) &&& 31).toUInt32).toInt32) < (16 : Int32)
        · rw [if_pos h14]
          rw [Int32.lt_iff_toInt_lt, t16] at h14
          by_cases h15 : ((p.toUInt32 >>> ((8 : Int32) &&& 31).toUInt32).toInt32) < (4 : Int32)
          · rw [if_pos h15]
            rw [Int32.lt_iff_toInt_lt, t4] at h15
            have ey16 := own_sh ((p.toUInt32 >>> ((8 : Int32) &&& 31).toUInt32).toInt32) 1 1 (by decide) (by decide) (by omega)
            have es16 := c_isub (23 : Int32) ((((p.toUInt32 >>> ((8 : Int32) &&& 31).toUInt32).toInt32).toUInt32 >>> ((1 : Int32) &&& 31).toUInt32).toInt32)
            have et16 := rng32 ((23 : Int32) - ((((p.toUInt32 >>> ((8 : Int32) &&& 31).toUInt32).toInt32).toUInt32 >>> ((1 : Int32) &&& 31).toUInt32).toInt32))
            have ec16 : (23 : Int32).toInt = 23 := rfl
            rcases (by omega : (((((p.toUInt32 >>> ((8 : Int32) &&& 31).toUInt32).toInt32).toUInt32 >>> ((1 : Int32) &&& 31).toUInt32).toInt32)).toInt = 0 ∨ (((((p.toUInt32 >>> ((8 : Int32) &&& 31).toUInt32).toInt32).toUInt32 >>> ((1 : Int32) &&& 31).toUInt32).toInt32)).toInt = 1) with hy | hy
            · exact ⟨23, by omega, by omega, by simp only [Nat.reduceSub, Nat.reducePow]; omega, fun _ => by simp only [Nat.reduceSub, Nat.reducePow]; omega⟩
            · exact ⟨22, by omega, by omega, by simp only [Nat.reduceSub, Nat.reducePow]; omega, fun _ => by simp only [Nat.reduceSub, Nat.reducePow]; omega⟩
          · rw [if_neg h15]
            rw [Int32.lt_iff_toInt_lt, t4] at h15
            have e17 := own_sh ((p.toUInt32 >>> ((8 : Int32) &&& 31).toUInt32).toInt32) 2 2 (by decide) (by decide) (by omega)
            have ey18 := own_sh ((((p.toUInt32 >>> ((8 : Int32) &&& 31).toUInt32).toInt32).toUInt32 >>> ((2 : Int32) &&& 31).toUInt32).toInt32) 1 1 (by decide) (by decide) (by omega)
            have es18 := c_isub (21 : Int32) ((((((p.toUInt32 >>> ((8 : Int32) &&& 31).toUInt32).toInt32).toUInt32 >>> ((2 : Int32) &&& 31).toUInt32).toInt32).toUInt32 >>> ((1 : Int32) &&& 31).toUInt32).toInt32)
            have et18 := rng32 ((21 : Int32) - ((((((p.toUInt32 >>> ((8 : Int32) &&& 31).toUInt32).toInt32).toUInt32 >>> ((2 : Int32) &&& 31).toUInt32).toInt32).toUInt32 >>> ((1 : Int32) &&& 31).toUInt32).toInt32))
            have ec18 : (21 : Int32).toInt = 21 := rfl
            rcases (by omega : (((((((p.toUInt32 >>> ((8 : Int32) &&& 31).toUInt32).toInt32).toUInt32 >>> ((2 : Int32) &&& 31).toUInt32).toInt32).toUInt32 >>> ((1 : Int32) &&& 31).toUInt32).toInt32)).toInt = 0 ∨ (((((((p.toUInt32 >>> ((8 : Int32) &&& 31).toUInt32).toInt32).toUInt32 >>> ((2 : Int32) &&& 31).toUInt32).toInt32).toUInt32 >>> ((1 : Int32) &&& 31).toUInt32).toInt32)).toInt = 1) with hy | hy
            · exact ⟨21, by omega, by omega, by simp only [Nat.reduceSub, Nat.reducePow]; omega, fun _ => by simp only [Nat.reduceSub, Nat.reducePow]; omega⟩
            · exact ⟨20, by omega, by omega, by simp only [Nat.reduceSub, Nat.reducePow]; omega, fun _ => by simp only [Nat.reduceSub, Nat.reducePow]; omega⟩
        · rw [if_neg h14]
          rw [Int32.lt_iff_toInt_lt, t16] at h14
          have e19 := own_sh ((p.toUInt32 >>> ((8 : Int32) &&& 31).toUInt32).toInt32) 4 4 (by decide) (by decide) (by omega)
          by_cases h20 : ((((p.toUInt32 >>> ((8 : Int32) &&& 31).toUInt32).toInt32).toUInt32 >>> ((4 : Int32) &&& 31).toUInt32).toInt32) < (4 : Int32)
          · rw [if_pos h20]
            rw [Int32.lt_iff_toInt_lt, t4] at h20
            have ey21 := own_sh ((((p.toUInt32 >>> ((8 : Int32) &&& 31).toUInt32).toInt32).toUInt32 >>> ((4 : Int32) &&& 31).toUInt32).toInt32) 1 1 (by decide) (by decide) (by omega)
            have es21 := c_isub (19 : Int32) ((((((p.toUInt32 >>> ((8 : Int32) &&& 31).toUInt32).toInt32).toUInt32 >>> ((4 : Int32) &&& 31).toUInt32).toInt32).toUInt32 >>> ((1 : Int32) &&& 31).toUInt32).toInt32)
            have et21 := rng32 ((19 : Int32) - ((((((p.toUInt32 >>> ((8 : Int32) &&& 31).toUInt32).toInt32).toUInt32 >>> ((4 : Int32) &&& 31).toUInt32).toInt32).toUInt32 >>> ((1 : Int32) &&& 31).toUInt32).toInt32))
            have ec21 : (19 : Int32).toInt = 19 := rfl
            rcases (by omega : (((((((p.toUInt32 >>> ((8 : Int32) &&& 31).toUInt32).toInt32).toUInt32 >>> ((4 : Int32) &&& 31).toUInt32).toInt32).toUInt32 >>> ((1 : Int32) &&& 31).toUInt32).toInt32)).toInt = 0 ∨ (((((((p.toUInt32 >>> ((8 : Int32) &&& 31).toUInt32).toInt32).toUInt32 >>> ((4 : Int32) &&& 31).toUInt32).toInt32).toUInt32 >>> ((1 : Int32) &&& 31).toUInt32).toInt32)).toInt = 1) with hy | hy
            · exact ⟨19, by omega, by omega, by simp only [Nat.reduceSub, Nat.reducePow]; omega, fun _ => by simp only [Nat.reduceSub, Nat.reducePow]; omega⟩
            · exact ⟨18, by omega, by omega, by simp only [Nat.reduceSub, Nat.reducePow]; omega, fun _ => by simp only [Nat.reduceSub, Nat.reducePow]; omega⟩
          · rw [if_neg h20]
            rw [Int32.lt_iff_toInt_lt, t4] at h20
            have e22 := own_sh ((((p.toUInt32 >>> ((8 : Int32) &&& 31).toUInt32).toInt32).toUInt32 >>> ((4 : Int32) &&& 31).toUInt32).toInt32) 2 2 (by decide) (by decide) (by omega)
            have ey23 := own_sh ((((((p.toUInt32 >>> ((8 : Int32) &&& 31).toUInt32).toInt32).toUInt32 >>> ((4 : Int32) &&& 31).toUInt32).toInt32).toUInt32 >>> ((2 : Int32) &&& 31).toUInt32).toInt32) 1 1 (by decide) (by decide) (by omega)
            have es23 := c_isub (17 : Int32) ((((((((p.toUInt32 >>> ((8 : Int32) &&& 31).toUInt32).toInt32).toUInt32 >>> ((4 : Int32) &&& 31).toUInt32).toInt32).toUInt32 >>> ((2 : Int32) &&& 31).toUInt32).toInt32).toUInt32 >>> ((1 : Int32) &&& 31).toUInt32).toInt32)
            have et23 := rng32 ((17 : Int32) - ((((((((p.toUInt32 >>> ((8 : Int32) &&& 31).toUInt32).toInt32).toUInt32 >>> ((4 : Int32) &&& 31).toUInt32).toInt32).toUInt32 >>> ((2 : Int32) &&& 31).toUInt32).toInt32).toUInt32 >>> ((1 : Int32) &&& 31).toUInt32).toInt32))
            have ec23 : (17 : Int32).toInt = 17 := rfl
            rcases (by omega : (((((((((p.toUInt32 >>> ((8 : Int32) &&& 31).toUInt32).toInt32).toUInt32 >>> ((4 : Int32) &&& 31).toUInt32).toInt32).toUInt32 >>> ((2 : Int32) &&& 31).toUInt32).toInt32).toUInt32 >>> ((1 : Int32) &&& 31).toUInt32).toInt32)).toInt = 0 ∨ (((((((((p.toUInt32 >>> ((8 : Int32) &&& 31).toUInt32).toInt32).toUInt32 >>> ((4 : Int32) &&& 31).toUInt32).toInt32).toUInt32 >>> ((2 : Int32) &&& 31).toUInt32).toInt32).toUInt32 >>> ((1 : Int32) &&& 31).toUInt32).toInt32)).toInt = 1) with hy | hy
            · exact ⟨17, by omega, by omega, by simp only [Nat.reduceSub, Nat.reducePow]; omega, fun _ => by simp only [Nat.reduceSub, Nat.reducePow]; omega⟩
            · exact ⟨16, by omega, by omega, by simp only [Nat.reduceSub, Nat.reducePow]; omega, fun _ => by simp only [Nat.reduceSub, Nat.reducePow]; omega⟩
    · rw [if_neg h1]
      rw [Int32.lt_iff_toInt_lt, t65536] at h1
      have e24 := own_sh p 16 16 (by decide) (by decide) (by omega)
      by_cases h25 : ((p.toUInt32 >>> ((16 : Int32) &&& 31).toUInt32).toInt32) < (256 : Int32)
      · rw [if_pos h25]
        rw [Int32.lt_iff_toInt_lt, t256] at h25
        by_cases h26 : ((p.toUInt32 >>> ((16 : Int32) &&& 31).toUInt32).toInt32) < (16 : Int32)
        · rw [if_pos h26]
          rw [Int32.lt_iff_toInt_lt, t16] at h26
          by_cases h27 : ((p.toUInt32 >>> ((16 : Int32) &&& 31).toUInt32).toInt32) < (4 : Int32)
          · rw [if_pos h27]
            rw [Int32.lt_iff_toInt_lt, t4] at h27
            have ey28 := own_sh ((p.toUInt32 >>> ((16 : Int32) &&& 31).toUInt32).toInt32) 1 1 (by decide) (by decide) (by omega)
            have es28 := c_isub (15 : Int32) ((((p.toUInt32 >>> ((16 : Int32) &&& 31).toUInt32).toInt32).toUInt32 >>> ((1 : Int32) &&& 31).toUInt32).toInt32)
            have et28 := rng32 ((15 : Int32) - ((((p.toUInt32 >>> ((16 : Int32) &&& 31).toUInt32).toInt32).toUInt32 >>> ((1 : Int32) &&& 31).toUInt32).toInt32))
            have ec28 : (15 : Int32).toInt = 15 := rfl
            rcases (by omega : (((((p.toUInt32 >>> ((16 : Int32) &&& 31).toUInt32).toInt32).toUInt32 >>> ((1 : Int32) &&& 31).toUInt32).toInt32)).toInt = 0 ∨ (((((p.toUInt32 >>> ((16 : Int32) &&& 31).toUInt32).toInt32).toUInt32 >>> ((1 : Int32) &&& 31).toUInt32).toInt32)).toInt = 1) with hy | hy
            · exact ⟨15, by omega, by omega, by simp only [Nat.reduceSub, Nat.reducePow]; omega, fun _ => by simp only [Nat.reduceSub, Nat.reducePow]; omega⟩
            · exact ⟨14, by omega, by omega, by simp only [Nat.reduceSub, Nat.reducePow]; omega, fun _ => by simp only [Nat.reduceSub, Nat.reducePow]; omega⟩
          · rw [if_neg h27]
            rw [Int32.lt_iff_toInt_lt, t4] at h27
            have e29 := own_sh ((p.toUInt32 >>> ((16 : Int32) &&& 31).toUInt32).toInt32) 2 2 (by decide) (by decide) (by omega)
            have ey30 := own_sh ((((p.toUInt32 >>> ((16 : Int32) &&& 31).toUInt32).toInt32).toUInt32 >>> ((2 : Int32) &&& 31).toUInt32).toInt32) 1 1 (by decide) (by decide) (by omega)
            have es30 := c_isub (13 : Int32) ((((((p.toUInt32 >>> ((16 : Int32) &&& 31).toUInt32).toInt32).toUInt32 >>> ((2 : Int32) &&& 31).toUInt32).toInt32).toUInt32 >>> ((1 : Int32) &&& 31).toUInt32).toInt32)
            have et30 := rng32 ((13 : Int32) - ((((((p.toUInt32 >>> ((16 : Int32) &&& 31).toUInt32).toInt32).toUInt32 >>> ((2 : Int32) &&& 31).toUInt32).toInt32).toUInt32 >>> ((1 : Int32) &&& 31).toUInt32).toInt32))
            have ec30 : (13 : Int32).toInt = 13 := rfl
            rcases (by omega : (((((((p.toUInt32 >>> ((16 : Int32) &&& 31).toUInt32).toInt32).toUInt32 >>> ((2 : Int32) &&& 31).toUInt32).toInt32).toUInt32 >>> ((1 : Int32) &&& 31).toUInt32).toInt32)).toInt = 0 ∨ (((((((p.toUInt32 >>> ((16 : Int32) &&& 31).toUInt32).toInt32).toUInt32 >>> ((2 : Int32) &&& 31).toUInt32).toInt32).toUInt32 >>> ((1 : Int32) &&& 31).toUInt32).toInt32)).toInt = 1) with hy | hy
            · exact ⟨13, by omega, by omega, by simp only [Nat.reduceSub, Nat.reducePow]; omega, fun _ => by simp only [Nat.reduceSub, Nat.reducePow]; omega⟩
            · exact ⟨12, by omega, by omega, by simp only [Nat.reduceSub, Nat.reducePow]; omega, fun _ => by simp only [Nat.reduceSub, Nat.reducePow]; omega⟩
        · rw [if_neg h26]
          rw [Int32.lt_iff_toInt_lt, t16] at h26
          have e31 := own_sh ((p.toUInt32 >>> ((16 : Int32) &&& 31).toUInt32).toInt32) 4 4 (by decide) (by decide) (by omega)
          by_cases h32 : ((((p.toUInt32 >>> ((16 : Int32) &&& 31).toUInt32).toInt32).toUInt32 >>> ((4 : Int32) &&& 31).toUInt32).toInt32) < (4 : Int32)
          · rw [if_pos h32]
            rw [Int32.lt_iff_toInt_lt, t4] at h32
            have ey33 := own_sh ((((p.toUInt32 >>> ((16 : Int32) &&& 31).toUInt32).toInt32).toUInt32 >>> ((4 : Int32) &&& 31).toUInt32).toInt32) 1 1 (by decide) (by decide) (by omega)
            have es33 := c_isub (11 : Int32) ((((((p.toUInt32 >>> ((16 : Int32) &&& 31).toUInt32).toInt32).toUInt32 >>> ((4 : Int32) &&& 31).toUInt32).toInt32).toUInt32 >>> ((1 : Int32) &&& 31).toUInt32).toInt32)
            have et33 := rng32 ((11 : Int32) - ((((((p.toUInt32 >>> ((16 : Int32) &&& 31).toUInt32).toInt32).toUInt32 >>> ((4 : Int32) &&& 31).toUInt32).toInt32).toUInt32 >>> ((1 : Int32) &&& 31).toUInt32).toInt32))
            have ec33 : (11 : Int32).toInt = 11 := rfl
            rcases (by omega : (((((((p.toUInt32 >>> ((16 : Int32) &&& 31).toUInt32).toInt32).toUInt32 >>> ((4 : Int32) &&& 31).toUInt32).toInt32).toUInt32 >>> ((1 : Int32) &&& 31).toUInt32).toInt32)).toInt = 0 ∨ (((((((p.toUInt32 >>> ((16 : Int32) &&& 31).toUInt32).toInt32).toUInt32 >>> ((4 : Int32) &&& 31).toUInt32).toInt32).toUInt32 >>> ((1 : Int32) &&& 31).toUInt32).toInt32)).toInt = 1) with hy | hy
            · exact ⟨11, by omega, by omega, by simp only [Nat.reduceSub, Nat.reducePow]; omega, fun _ => by simp only [Nat.reduceSub, Nat.reducePow]; omega⟩
            · exact ⟨10, by omega, by omega, by simp only [Nat.reduceSub, Nat.reducePow]; omega, fun _ => by simp only [Nat.reduceSub, Nat.reducePow]; omega⟩
          · rw [if_neg h32]
            rw [Int32.lt_iff_toInt_lt, t4] at h32
            have e34 := own_sh ((((p.toUInt32 >>> ((16 : Int32) &&& 31).toUInt32).toInt32).toUInt32 >>> ((4 : Int32) &&& 31).toUInt32).toInt32) 2 2 (by decide) (by decide) (by omega)
            have ey35 := own_sh ((((((p.toUInt32 >>> ((16 : Int32) &&& 31).toUInt32).toInt32).toUInt32 >>> ((4 : Int32) &&& 31).toUInt32).toInt32).toUInt32 >>> ((2 : Int32) &&& 31).toUInt32).toInt32) 1 1 (by decide) (by decide) (by omega)
            have es35 := c_isub (9 : Int32) ((((((((p.toUInt32 >>> ((16 : Int32) &&& 31).toUInt32).toInt32).toUInt32 >>> ((4 : Int32) &&& 31).toUInt32).toInt32).toUInt32 >>> ((2 : Int32) &&& 31).toUInt32).toInt32).toUInt32 >>> ((1 : Int32) &&& 31).toUInt32).toInt32)
            have et35 := rng32 ((9 : Int32) - ((((((((p.toUInt32 >>> ((16 : Int32) &&& 31).toUInt32).toInt32).toUInt32 >>> ((4 : Int32) &&& 31).toUInt32).toInt32).toUInt32 >>> ((2 : Int32) &&& 31).toUInt32).toInt32).toUInt32 >>> ((1 : Int32) &&& 31).toUInt32).toInt32))
            have ec35 : (9 : Int32).toInt = 9 := rfl
            rcases (by omega : (((((((((p.toUInt32 >>> ((16 : Int32) &&& 31).toUInt32).toInt32).toUInt32 >>> ((4 : Int32) &&& 31).toUInt32).toInt32).toUInt32 >>> ((2 : Int32) &&& 31).toUInt32).toInt32).toUInt32 >>> ((1 : Int32) &&& 31).toUInt32).toInt32)).toInt = 0 ∨ (((((((((p.toUInt32 >>> ((16 : Int32) &&& 31).toUInt32).toInt32).toUInt32 >>> ((4 : Int32) &&& 31).toUInt32).toInt32).toUInt32 >>> ((2 : Int32) &&& 31).toUInt32).toInt32).toUInt32 >>> ((1 : Int32) &&& 31).toUInt32).toInt32)).toInt = 1) with hy | hy
            · exact ⟨9, by omega, by omega, by simp only [Nat.reduceSub, Nat.reducePow]; omega, fun _ => by simp only [Nat.reduceSub, Nat.reducePow]; omega⟩
            · exact ⟨8, by omega, by omega, by simp only [Nat.reduceSub, Nat.reducePow]; omega, fun _ => by simp only [Nat.reduceSub, Nat.reducePow]; omega⟩
      · rw [if_neg h25]
        rw [Int32.lt_iff_toInt_lt, t256] at h25
        have e36 := own_sh ((p.toUInt32 >>> ((16 : Int32) &&& 31).toUInt32).toInt32) 8 8 (by decide) (by decide) (by omega)
        by_cases h37 : ((((p.toUInt32 >>> ((16 : Int32) &&& 31).toUInt32).toInt32).toUInt32 >>> ((8 : Int32) &&& 31).toUInt32).toInt32) < (16 : Int32)
        · rw [if_pos h37]
          rw [Int32.lt_iff_toInt_lt, t16] at h37
          by_cases h38 : ((((p.toUInt32 >>> ((16 : Int32) &&& 31).toUInt32).toInt32).toUInt32 >>> ((8 : Int32) &&& 31).toUInt32).toInt32) < (4 : Int32)
          · rw [if_pos h38]
            rw [Int32.lt_iff_toInt_lt, t4] at h38
            have ey39 := own_sh ((((p.toUInt32 >>> ((16 : Int32) &&& 31).toUInt32).toInt32).toUInt32 >>> ((8 : Int32) &&& 31).toUInt32).toInt32) 1 1 (by decide) (by decide) (by omega)
            have es39 := c_isub (7 : Int32) ((((((p.toUInt32 >>> ((16 : Int32) &&& 31).toUInt32).toInt32).toUInt32 >>> ((8 : Int32) &&& 31).toUInt32).toInt32).toUInt32 >>> ((1 : Int32) &&& 31).toUInt32).toInt32)
            have et39 := rng32 ((7 : Int32) - ((((((p.toUInt32 >>> ((16 : Int32) &&& 31).toUInt32).toInt32).toUInt32 >>> ((8 : Int32) &&& 31).toUInt32).toInt32).toUInt32 >>> ((1 : Int32) &&& 31).toUInt32).toInt32))
            have ec39 : (7 : Int32).toInt = 7 := rfl
            rcases (by omega : (((((((p.toUInt32 >>> ((16 : Int32) &&& 31).toUInt32).toInt32).toUInt32 >>> ((8 : Int32) &&& 31).toUInt32).toInt32).toUInt32 >>> ((1 : Int32) &&& 31).toUInt32).toInt32)).toInt = 0 ∨ (((((((p.toUInt32 >>> ((16 : Int32) &&& 31).toUInt32).toInt32).toUInt32 >>> ((8 : Int32) &&& 31).toUInt32).toInt32).toUInt32 >>> ((1 : Int32) &&& 31).toUInt32).toInt32)).toInt = 1) with hy | hy
            · exact ⟨7, by omega, by omega, by simp only [Nat.reduceSub, Nat.reducePow]; omega, fun _ => by simp only [Nat.reduceSub, Nat.reducePow]; omega⟩
            · exact ⟨6, by omega, by omega, by simp only [Nat.reduceSub, Nat.reducePow]; omega, fun _ => by simp only [Nat.reduceSub, Nat.reducePow]; omega⟩
          · rw [if_neg h38]
            rw [Int32.lt_iff_toInt_lt, t4] at h38
            have e40 := own_sh ((((p.toUInt32 >>> ((16 : Int32) &&& 31).toUInt32).toInt32).toUInt32 >>> ((8 : Int32) &&& 31).toUInt32).toInt32) 2 2 (by decide) (by decide) (by omega)
            have ey41 := own_sh ((((((p.toUInt32 >>> ((16 : Int32) &&& 31).toUInt32).toInt32).toUInt32 >>> ((8 : Int32) &&& 31).toUInt32).toInt32).toUInt32 >>> ((2 : Int32) &&& 31).toUInt32).toInt32) 1 1 (by decide) (by decide) (by omega)
            have es41 := c_isub (5 : Int32) ((((((((p.toUInt32 >>> ((16 : Int32) &&& 31).toUInt32).toInt32).toUInt32 >>> ((8 : Int32) &&& 31).toUInt32).toInt32).toUInt32 >>> ((2 : Int32) &&& 31).toUInt32).toInt32).toUInt32 >>> ((1 : Int32) &&& 31).toUInt32).toInt32)
            have et41 := rng32 ((5 : Int32) - ((((((((p.toUInt32 >>> ((16 : Int32) &&& 31).toUInt32).toInt32).toUInt32 >>> ((8 : Int32) &&& 31).toUInt32).toInt32).toUInt32 >>> ((2 : Int32) &&& 31).toUInt32).toInt32).toUInt32 >>> ((1 : Int32) &&& 31).toUInt32).toInt32))
            have ec41 : (5 : Int32).toInt = 5 := rfl
            rcases (by omega : (((((((((p.toUInt32 >>> ((16 : Int32) &&& 31).toUInt32).toInt32).toUInt32 >>> ((8 : Int32) &&& 31).toUInt32).toInt32).toUInt32 >>> ((2 : Int32) &&& 31).toUInt32).toInt32).toUInt32 >>> ((1 : Int32) &&& 31).toUInt32).toInt32)).toInt = 0 ∨ (((((((((p.toUInt32 >>> ((16 : Int32) &&& 31).toUInt32).toInt32).toUInt32 >>> ((8 : Int32) &&& 31).toUInt32).toInt32).toUInt32 >>> ((2 : Int32) &&& 31).toUInt32).toInt32).toUInt32 >>> ((1 : Int32) &&& 31).toUInt32).toInt32)).toInt = 1) with hy | hy
            · exact ⟨5, by omega, by omega, by simp only [Nat.reduceSub, Nat.reducePow]; omega, fun _ => by simp only [Nat.reduceSub, Nat.reducePow]; omega⟩
            · exact ⟨4, by omega, by omega, by simp only [Nat.reduceSub, Nat.reducePow]; omega, fun _ => by simp only [Nat.reduceSub, Nat.reducePow]; omega⟩
        · rw [if_neg h37]
          rw [Int32.lt_iff_toInt_lt, t16] at h37
          have e42 := own_sh ((((p.toUInt32 >>> ((16 : Int32) &&& 31).toUInt32).toInt32).toUInt32 >>> ((8 : Int32) &&& 31).toUInt32).toInt32) 4 4 (by decide) (by decide) (by omega)
          by_cases h43 : ((((((p.toUInt32 >>> ((16 : Int32) &&& 31).toUInt32).toInt32).toUInt32 >>> ((8 : Int32) &&& 31).toUInt32).toInt32).toUInt32 >>> ((4 : Int32) &&& 31).toUInt32).toInt32) < (4 : Int32)
          · rw [if_pos h43]
            rw [Int32.lt_iff_toInt_lt, t4] at h43
            have ey44 := own_sh ((((((p.toUInt32 >>> ((16 : Int32) &&& 31).toUInt32).toInt32).toUInt32 >>> ((8 : Int32) &&& 31).toUInt32).toInt32).toUInt32 >>> ((4 : Int32) &&& 31).toUInt32).toInt32) 1 1 (by decide) (by decide) (by omega)
            have es44 := c_isub (3 : Int32) ((((((((p.toUInt32 >>> ((16 : Int32) &&& 31).toUInt32).toInt32).toUInt32 >>> ((8 : Int32) &&& 31).toUInt32).toInt32).toUInt32 >>> ((4 : Int32) &&& 31).toUInt32).toInt32).toUInt32 >>> ((1 : Int32) &&& 31).toUInt32).toInt32)
            have et44 := rng32 ((3 : Int32) - ((((((((p.toUInt32 >>> ((16 : Int32) &&& 31).toUInt32).toInt32).toUInt32 >>> ((8 : Int32) &&& 31).toUInt32).toInt32).toUInt32 >>> ((4 : Int32) &&& 31).toUInt32).toInt32).toUInt32 >>> ((1 : Int32) &&& 31).toUInt32).toInt32))
            have ec44 : (3 : Int32).toInt = 3 := rfl
            rcases (by omega : (((((((((p.toUInt32 >>> ((16 : Int32) &&& 31).toUInt32).toInt32).toUInt32 >>> ((8 : Int32) &&& 31).toUInt32).toInt32).toUInt32 >>> ((4 : Int32) &&& 31).toUInt32).toInt32).toUInt32 >>> ((1 : Int32) &&& 31).toUInt32).toInt32)).toInt = 0 ∨ (((((((((p.toUInt32 >>> ((16 : Int32) &&& 31).toUInt32).toInt32).toUInt32 >>> ((8 : Int32) &&& 31).toUInt32).toInt32).toUInt32 >>> ((4 : Int32) &&& 31).toUInt32).toInt32).toUInt32 >>> ((1 : Int32) &&& 31).toUInt32).toInt32)).toInt = 1) with hy | hy
            · exact ⟨3, by omega, by omega, by simp only [Nat.reduceSub, Nat.reducePow]; omega, fun _ => by simp only [Nat.reduceSub, Nat.reducePow]; omega⟩
            · exact ⟨2, by omega, by omega, by simp only [Nat.reduceSub, Nat.reducePow]; omega, fun _ => by simp only [Nat.reduceSub, Nat.reducePow]; omega⟩
          · rw [if_neg h43]
            rw [Int32.lt_iff_toInt_lt, t4] at h43
            have e45 := own_sh ((((((p.toUInt32 >>> ((16 : Int32) &&& 31).toUInt32).toInt32).toUInt32 >>> ((8 : Int32) &&& 31).toUInt32).toInt32).toUInt32 >>> ((4 : Int32) &&& 31).toUInt32).toInt32) 2 2 (by decide) (by decide) (by omega)
            have ey46 := own_sh ((((((((p.toUInt32 >>> ((16 : Int32) &&& 31).toUInt32).toInt32).toUInt32 >>> ((8 : Int32) &&& 31).toUInt32).toInt32).toUInt32 >>> ((4 : Int32) &&& 31).toUInt32).toInt32).toUInt32 >>> ((2 : Int32) &&& 31).toUInt32).toInt32) 1 1 (by decide) (by decide) (by omega)
            have es46 := c_isub (1 : Int32) ((((((((((p.toUInt32 >>> ((16 : Int32) &&& 31).toUInt32).toInt32).toUInt32 >>> ((8 : Int32) &&& 31).toUInt32).toInt32).toUInt32 >>> ((4 : Int32) &&& 31).toUInt32).toInt32).toUInt32 >>> ((2 : Int32) &&& 31).toUInt32).toInt32).toUInt32 >>> ((1 : Int32) &&& 31).toUInt32).toInt32)
            have et46 := rng32 ((1 : Int32) - ((((((((((p.toUInt32 >>> ((16 : Int32) &&& 31).toUInt32).toInt32).toUInt32 >>> ((8 : Int32) &&& 31).toUInt32).toInt32).toUInt32 >>> ((4 : Int32) &&& 31).toUInt32).toInt32).toUInt32 >>> ((2 : Int32) &&& 31).toUInt32).toInt32).toUInt32 >>> ((1 : Int32) &&& 31).toUInt32).toInt32))
            have ec46 : (1 : Int32).toInt = 1 := rfl
            rcases (by omega : (((((((((((p.toUInt32 >>> ((16 : Int32) &&& 31).toUInt32).toInt32).toUInt32 >>> ((8 : Int32) &&& 31).toUInt32).toInt32).toUInt32 >>> ((4 : Int32) &&& 31).toUInt32).toInt32).toUInt32 >>> ((2 : Int32) &&& 31).toUInt32).toInt32).toUInt32 >>> ((1 : Int32) &&& 31).toUInt32).toInt32)).toInt = 0 ∨ (((((((((((p.toUInt32 >>> ((16 : Int32) &&& 31).toUInt32).toInt32).toUInt32 >>> ((8 : Int32) &&& 31).toUInt32).toInt32).toUInt32 >>> ((4 : Int32) &&& 31).toUInt32).toInt32).toUInt32 >>> ((2 : Int32) &&& 31).toUInt32).toInt32).toUInt32 >>> ((1 : Int32) &&& 31).toUInt32).toInt32)).toInt = 1) with hy | hy
            · exact ⟨1, by omega, by omega, by simp only [Nat.reduceSub, Nat.reducePow]; omega, fun _ => by simp only [Nat.reduceSub, Nat.reducePow]; omega⟩
            · exact ⟨0, by omega, by omega, by simp only [Nat.reduceSub, Nat.reducePow]; omega, fun _ => by simp only [Nat.reduceSub, Nat.reducePow]; omega⟩
  · rw [if_neg h0]
    by_cases hz : p = (0 : Int32)
    · rw [if_pos hz]; subst hz; exact ⟨32, rfl, by decide, by decide, by decide⟩
    · rw [if_neg hz]
      rw [Int32.lt_iff_toInt_lt, t0] at h0
      rw [← Int32.toInt_inj, t0] at hz
      exact ⟨0, rfl, by decide, by simp only [Nat.reduceSub, Nat.reducePow]; omega, fun _ => by simp only [Nat.reduceSub, Nat.reducePow]; omega⟩
theorem own_lz (q : Int64) : ∃ k : Nat, (f_rmLZ q).toInt = k ∧ k ≤ 64 ∧ (q.toInt % 18446744073709551616).toNat < 2 ^ (64 - k) ∧ (k < 64 → 2 ^ (63 - k) ≤ (q.toInt % 18446744073709551616).toNat) := by
  have hq := rng64 q
  have t0 : (0 : Int32).toInt = 0 := rfl
  have e1 := c_lushr q (32 : Int32) 32 (by decide) (by decide)
  have e2 := c_l2i ((q.toUInt64 >>> ((32 : Int32) &&& 0x3f).toInt64.toUInt64).toInt64)
  have e3 := c_l2i q
  unfold f_rmLZ
  generalize (q.toUInt64 >>> ((32 : Int32) &&& 0x3f).toInt64.toUInt64).toInt64 = y at *
  have r1 := rng32 y.toInt32
  have r2 := rng32 q.toInt32
  by_cases h : y.toInt32 = (0 : Int32)
  · rw [if_pos h]
    rw [← Int32.toInt_inj, t0] at h
    obtain ⟨k, k1, k2, k3, k4⟩ := own_iz q.toInt32
    have e4 := c_iadd (32 : Int32) (f_rmIZ q.toInt32)
    have e5 := rng32 ((32 : Int32) + f_rmIZ q.toInt32)
    have e6 : (32 : Int32).toInt = 32 := rfl
    have hu : (q.toInt32.toInt % 4294967296).toNat = (q.toInt % 18446744073709551616).toNat := by omega
    rw [hu] at k3 k4
    refine ⟨32 + k, by omega, by omega, ?_, fun hk => ?_⟩
    · rw [show 64 - (32 + k) = 32 - k by omega]; exact k3
    · rw [show 63 - (32 + k) = 31 - k by omega]; exact k4 (by omega)
  · rw [if_neg h]
    rw [← Int32.toInt_inj, t0] at h
    obtain ⟨k, k1, k2, k3, k4⟩ := own_iz y.toInt32
    have hu : (y.toInt32.toInt % 4294967296).toNat = (q.toInt % 18446744073709551616).toNat / 4294967296 := by omega
    rw [hu] at k3 k4
    have hk32 : k < 32 := by
      rcases Nat.lt_or_ge k 32 with z | z
      · exact z
      · have z' : k = 32 := by omega
        subst z'
        simp only [Nat.reduceSub, Nat.reducePow] at k3
        omega
    have k5 := k4 hk32
    have p1 : 2 ^ (64 - k) = 2 ^ (32 - k) * 4294967296 := by rw [show 64 - k = (32 - k) + 32 by omega, Nat.pow_add]
    have p2 : 2 ^ (63 - k) = 2 ^ (31 - k) * 4294967296 := by rw [show 63 - k = (31 - k) + 32 by omega, Nat.pow_add]
    refine ⟨k, k1, by omega, ?_, fun _ => ?_⟩
    · rw [p1]; generalize 2 ^ (32 - k) = P at *; omega
    · rw [p2]; generalize 2 ^ (31 - k) = P at *; omega
theorem own_gl (i : Nat) : (own_last.map Value.long).getD i (.long 0) = .long (own_last.getD i 0) := by
  rw [List.getD_eq_getElem?_getD, List.getD_eq_getElem?_getD, List.getElem?_map]
  cases own_last[i]? <;> rfl
theorem own_gi (i : Nat) : (own_lens.map Value.int).getD i (.int 0) = .int (own_lens.getD i 0) := by
  rw [List.getD_eq_getElem?_getD, List.getD_eq_getElem?_getD, List.getElem?_map]
  cases own_lens[i]? <;> rfl
theorem own_nlz (q : Int64) : ¬ f_rmLZ q < (0 : Int32) ∧ f_rmLZ q < (65 : Int32) := by
  obtain ⟨k, k1, k2, -⟩ := own_lz q
  have t0 : (0 : Int32).toInt = 0 := rfl
  have t65 : (65 : Int32).toInt = 65 := rfl
  constructor <;> rw [Int32.lt_iff_toInt_lt] <;> omega

theorem d2_0 : decode prog_2_method_9_code 0 = .ok (.lload_n 0, 1) := by decide +kernel
theorem pd__28J_29I : parseMethodDescriptor "(J)I" = some ⟨[.long], some .int⟩ := by decide +kernel
theorem d2_1 : decode prog_2_method_9_code 1 = .ok (.invokestatic 74, 3) := by decide +kernel
theorem d2_4 : decode prog_2_method_9_code 4 = .ok (.istore_n 2, 1) := by decide +kernel
theorem d2_5 : decode prog_2_method_9_code 5 = .ok (.getstatic 79, 3) := by decide +kernel
theorem d2_8 : decode prog_2_method_9_code 8 = .ok (.iload_n 2, 1) := by decide +kernel
theorem d2_9 : decode prog_2_method_9_code 9 = .ok (.laload, 1) := by decide +kernel
theorem d2_10 : decode prog_2_method_9_code 10 = .ok (.lload_n 0, 1) := by decide +kernel
theorem d2_11 : decode prog_2_method_9_code 11 = .ok (.lsub, 1) := by decide +kernel
theorem d2_12 : decode prog_2_method_9_code 12 = .ok (.bipush 63, 2) := by decide +kernel
theorem d2_14 : decode prog_2_method_9_code 14 = .ok (.lushr, 1) := by decide +kernel
theorem d2_15 : decode prog_2_method_9_code 15 = .ok (.lstore_n 3, 1) := by decide +kernel
theorem d2_16 : decode prog_2_method_9_code 16 = .ok (.getstatic 83, 3) := by decide +kernel
theorem d2_19 : decode prog_2_method_9_code 19 = .ok (.iload_n 2, 1) := by decide +kernel
theorem d2_20 : decode prog_2_method_9_code 20 = .ok (.baload, 1) := by decide +kernel
theorem d2_21 : decode prog_2_method_9_code 21 = .ok (.lload_n 3, 1) := by decide +kernel
theorem d2_22 : decode prog_2_method_9_code 22 = .ok (.l2i, 1) := by decide +kernel
theorem d2_23 : decode prog_2_method_9_code 23 = .ok (.iconst 2, 1) := by decide +kernel
theorem d2_24 : decode prog_2_method_9_code 24 = .ok (.imul, 1) := by decide +kernel
theorem d2_25 : decode prog_2_method_9_code 25 = .ok (.iadd, 1) := by decide +kernel
theorem d2_26 : decode prog_2_method_9_code 26 = .ok (.ireturn, 1) := by decide +kernel
theorem pn_com_example_lexint_lexint_LengthEncodedInt : plainName "com/example/lexint/lexint/LengthEncodedInt" = true := by first | (simp [plainName, overriddenIn]; done) | decide +kernel
theorem ef_rmE (m : MethodId) (q0 : Int64)  : entryFrame m #[(.long q0)] 5 = mkF m 0 #[.val (.long q0), .second, .unset, .unset, .unset] [] := by first |  (simp [entryFrame, mkF, argsToLocals, Value.category]; done) | rfl
def f_rmE (q0 : Int64) (ca : Addr) (cb : Addr) (ka : ClassId) (kb : ClassId) : Int32 := ((own_lens.getD (f_rmLZ q0).toNatClampNeg 0) + ((((((own_last.getD (f_rmLZ q0).toNatClampNeg 0) - q0).toUInt64 >>> ((63 : Int32) &&& 0x3f).toInt64.toUInt64).toInt64).toInt32) * (2 : Int32)))
def Q_rmE (Z : State) (q0 : Int64) (ca : Addr) (cb : Addr) (ka : ClassId) (kb : ClassId) (h0 : Heap) (n0 : Nat) (v : Option Value) (h : Heap) (L : List Loc) : Prop := v = some (.int (f_rmE q0 ca cb ka kb)) ∧ Fr n0 L ∧ h = h0
set_option maxRecDepth 65536 in
set_option maxHeartbeats 40000000 in
theorem rmE (l : Launch) (Z : State) (a0 : Array Value) (hw : ∀ d ∈ tables_1, d.before a0 Z = true) (ws : List Jvm.Cond) (q0 : Int64) (ca : Addr) (cb : Addr) (ka : ClassId) (kb : ClassId) (h0 : Heap) (n0 : Nat) (Z0 : n0 ≤ h0.size) (V_ca : Arv Z h0 ca ka .long (65 : Int32) (own_last.map Value.long) (.long (0 : Int64))) (V_cb : Arv Z h0 cb kb .byte (65 : Int32) (own_lens.map Value.int) (.int (0 : Int32))) (S_LAST_BY_LEADING_ZEROS : Sta Z h0 "com/example/lexint/lexint/LengthEncodedInt" "LAST_BY_LEADING_ZEROS" "[J" (.ref ca)) (S_LENGTH_BY_LEADING_ZEROS : Sta Z h0 "com/example/lexint/lexint/LengthEncodedInt" "LENGTH_BY_LEADING_ZEROS" "[B" (.ref cb)) :
    MetFree l (⟨"com/example/lexint/lexint/LengthEncodedInt", "encodedLength", "(J)I"⟩ : MethodName) (head1 (Jvm.Cond.code (⟨"com/example/lexint/lexint/LengthEncodedInt", "encodedLength", "(J)I"⟩ : MethodName) prog_2_method_9_code 5 (some .int) :: ws) ({ frames := 2, cells := 0, slots := 0, locals := 28 } : Room)) (fun a U => a = #[(.long q0)] ∧ Z.Warmed39 U.vm ∧ U.heap = h0) (fun _ _ _ _ _ => True) (fun _ U o U' => ∃ v L, o = .returned v ∧ Q_rmE Z q0 ca cb ka kb h0 n0 v U'.heap L ∧ FrameEnd U o U' L ({ frames := 2, cells := 0, slots := 0, locals := 28 } : Room).cells ({ frames := 2, cells := 0, slots := 0, locals := 28 } : Room).slots) := by
  refine MetFree.of_bodySF (plainFor_of_name pn_com_example_lexint_lexint_LengthEncodedInt) hisR ?_
  intro p e s m args below meth c s₁ Bd hml0 hP hK
  obtain ⟨rfl, hZ, hh⟩ := hP
  have hx := Bd.exec
  have hby := Bd.bytes
  have hml : c.maxLocals = 5 := hml0
  have hown : s.vm.findClass "com/example/lexint/lexint/LengthEncodedInt" = some m.cls := findClass_of_methodNamed Bd.named
  have hnm := (name_of_methodNamed Bd.named Bd.method).1
  have hlk := Bd.notSynchronized
  have X0 : Stand p l e ({ frames := 2, cells := 0, slots := 0, locals := 28 } : Room) s m #[(.long q0)] below meth c s₁ [] 0 0 := Stand.of_body Bd
  have e0 : s₁.heap = h0 := by rw [← hh, Bd.state]; rfl
  have N0 := Fr.nil n0
  show own_G p.tables e below s (Q_rmE Z q0 ca cb ka kb h0 n0) ({ frames := 2, cells := 0, slots := 0, locals := 28 } : Room).cells ({ frames := 2, cells := 0, slots := 0, locals := 28 } : Room).slots _
  refine own_thr (a := s₁.setTop (mkF m 0 #[.val (.long q0), .second, .unset, .unset, .unset] [])) (fun t kt => castTop (ef_rmE m q0) kt) ?_
  refine own_thr (a := s₁.setTop (mkF m 1 #[.val (.long q0), .second, .unset, .unset, .unset] [(.long q0)])) (fun t kt => ?_) ?_
  · show Steps p.tables e below (s₁.setTop (mkF m 0 #[.val (.long q0), .second, .unset, .unset, .unset] [])) _
    refine XS.lloadN X0.here hx rfl (hb hby d2_0) rfl ?_
    exact kt
  obtain ⟨_, _, ⟨T1, L1, k1, n1⟩, -, X1, ⟨Lc1, hQ1, l1, y1, z1⟩, st1⟩ := Jvm.LawKit.callS X0 hx (y := (⟨"java/lang/Long", "numberOfLeadingZeros", "(J)I"⟩ : MethodName)) hown (mvT hZ (hw _ (List.mem_of_getElem? (i := 8) rfl))) (mvT hZ (hw _ (List.mem_of_getElem? (i := 9) rfl))) (mvT hZ (hw _ (List.mem_of_getElem? (i := 10) rfl))) (mvT hZ (hw _ (List.mem_of_getElem? (i := 11) rfl))) (by decide) (backOf (W := 0) (rmLZ l Z a0 hw [] q0 h0 n0 Z0) hZ (hw _ (List.mem_of_getElem? (i := 11) rfl)) (hw _ (List.mem_of_getElem? (i := 10) rfl)) (by decide) (by decide)) (g := (mkF m 1 #[.val (.long q0), .second, .unset, .unset, .unset] [(.long q0)])) rfl (by rw [hml]; rfl) (argsL := [(.long q0)]) (rest := []) (lenOf pd__28J_29I rfl) rfl (by show 2 * 0 + _ ≤ _; exact Nat.le_of_eq rfl) (hb hby d2_1) (fun _ _ => ⟨rfl, e0, (by decide : 0 + 0 ≤ _), (by decide : 0 + 0 ≤ _)⟩)
  dsimp only [Pt.U, Pt.locs, Pt.cells, Pt.slots] at X1 l1 y1 z1 st1 hQ1
  obtain ⟨rfl, N1q, e1⟩ := hQ1
  obtain ⟨lc1, X1, N1⟩ := own_pack X1 l1 y1 z1 N0 N1q (C := 0) (S' := 0) rfl rfl
  refine own_thr (a := T1.setTop (mkF m 4 #[.val (.long q0), .second, .unset, .unset, .unset] [(.int (f_rmLZ q0))])) (fun t kt => st1 t kt) ?_
  refine own_thr (a := T1.setTop (mkF m 5 #[.val (.long q0), .second, .val (.int (f_rmLZ q0)), .unset, .unset] [])) (fun t kt => ?_) ?_
  · show Steps p.tables e below (T1.setTop (mkF m 4 #[.val (.long q0), .second, .unset, .unset, .unset] [(.int (f_rmLZ q0))])) _
    refine XS.istoreN X1.here hx rfl (hb hby d2_4) rfl (l' := #[.val (.long q0), .second, .val (.int (f_rmLZ q0)), .unset, .unset]) rfl ?_
    exact kt
  obtain ⟨T2, X2, e2, st2⟩ := getS2 X1 hx hZ hown (host := "") (Or.inl (hw _ (List.mem_of_getElem? (i := 16) rfl))) Via.refl e1 S_LAST_BY_LEADING_ZEROS (g := (mkF m 5 #[.val (.long q0), .second, .val (.int (f_rmLZ q0)), .unset, .unset] [])) rfl (hb hby d2_5)
  refine own_thr (a := T2.setTop (mkF m 8 #[.val (.long q0), .second, .val (.int (f_rmLZ q0)), .unset, .unset] [(.ref ca)])) (fun t kt => st2 t kt) ?_
  refine own_thr (a := T2.setTop (mkF m 9 #[.val (.long q0), .second, .val (.int (f_rmLZ q0)), .unset, .unset] [(.int (f_rmLZ q0)), (.ref ca)])) (fun t kt => ?_) ?_
  · show Steps p.tables e below (T2.setTop (mkF m 8 #[.val (.long q0), .second, .val (.int (f_rmLZ q0)), .unset, .unset] [(.ref ca)])) _
    refine XS.iloadN X2.here hx rfl (hb hby d2_8) rfl ?_
    exact kt
  obtain ⟨cl3, Ar3, -, S3, M3, H3, -⟩ := id V_ca
  have hin3 : ¬ ((f_rmLZ q0) < 0 ∨ cl3.slots.size ≤ ((f_rmLZ q0)).toNatClampNeg) := inb_of S3 (own_nlz q0)
  have hat3 : cl3.slots[((f_rmLZ q0)).toNatClampNeg]? = some (.long (own_last.getD (f_rmLZ q0).toNatClampNeg 0)) := Has.at H3 hin3 (own_gl _)
  refine own_thr (a := T2.setTop (mkF m 16 #[.val (.long q0), .second, .val (.int (f_rmLZ q0)), .val (.long ((((own_last.getD (f_rmLZ q0).toNatClampNeg 0) - q0).toUInt64 >>> ((63 : Int32) &&& 0x3f).toInt64.toUInt64).toInt64)), .second] [])) (fun t kt => ?_) ?_
  · show Steps p.tables e below (T2.setTop (mkF m 9 #[.val (.long q0), .second, .val (.int (f_rmLZ q0)), .unset, .unset] [(.int (f_rmLZ q0)), (.ref ca)])) _
    refine X2.laload hx (j := (f_rmLZ q0)) (v := (.long (own_last.getD (f_rmLZ q0).toNatClampNeg 0))) (by rw [e2]; exact Ar3.1) (State.isArrayOf_alike hZ.alike Ar3.2.1) Ar3.2.2 hin3 hat3 (g := (mkF m 9 #[.val (.long q0), .second, .val (.int (f_rmLZ q0)), .unset, .unset] [(.int (f_rmLZ q0)), (.ref ca)])) rfl rfl (hb hby d2_9) _ ?_
    show Steps p.tables e below (T2.setTop (mkF m 10 #[.val (.long q0), .second, .val (.int (f_rmLZ q0)), .unset, .unset] [(.long (own_last.getD (f_rmLZ q0).toNatClampNeg 0))])) _
    refine XS.lloadN X2.here hx rfl (hb hby d2_10) rfl ?_
    show Steps p.tables e below (T2.setTop (mkF m 11 #[.val (.long q0), .second, .val (.int (f_rmLZ q0)), .unset, .unset] [(.long q0), (.long (own_last.getD (f_rmLZ q0).toNatClampNeg 0))])) _
    refine XS.lsub X2.here hx rfl (hb hby d2_11) rfl ?_
    show Steps p.tables e below (T2.setTop (mkF m 12 #[.val (.long q0), .second, .val (.int (f_rmLZ q0)), .unset, .unset] [(.long ((own_last.getD (f_rmLZ q0).toNatClampNeg 0) - q0))])) _
    refine XS.bipush X2.here hx rfl (hb hby d2_12) ?_
    show Steps p.tables e below (T2.setTop (mkF m 14 #[.val (.long q0), .second, .val (.int (f_rmLZ q0)), .unset, .unset] [(.int (63 : Int32)), (.long ((own_last.getD (f_rmLZ q0).toNatClampNeg 0) - q0))])) _
    refine XS.lushr X2.here hx rfl (hb hby d2_14) rfl ?_
    show Steps p.tables e below (T2.setTop (mkF m 15 #[.val (.long q0), .second, .val (.int (f_rmLZ q0)), .unset, .unset] [(.long ((((own_last.getD (f_rmLZ q0).toNatClampNeg 0) - q0).toUInt64 >>> ((63 : Int32) &&& 0x3f).toInt64.toUInt64).toInt64))])) _
    refine XS.lstoreN X2.here hx rfl (hb hby d2_15) rfl (l' := #[.val (.long q0), .second, .val (.int (f_rmLZ q0)), .val (.long ((((own_last.getD (f_rmLZ q0).toNatClampNeg 0) - q0).toUInt64 >>> ((63 : Int32) &&& 0x3f).toInt64.toUInt64).toInt64)), .second]) rfl ?_
    exact kt
  obtain ⟨T4, X4, e4, st4⟩ := getS2 X2 hx hZ hown (host := "") (Or.inl (hw _ (List.mem_of_getElem? (i := 18) rfl))) Via.refl e2 S_LENGTH_BY_LEADING_ZEROS (g := (mkF m 16 #[.val (.long q0), .second, .val (.int (f_rmLZ q0)), .val (.long ((((own_last.getD (f_rmLZ q0).toNatClampNeg 0) - q0).toUInt64 >>> ((63 : Int32) &&& 0x3f).toInt64.toUInt64).toInt64)), .second] [])) rfl (hb hby d2_16)
  refine own_thr (a := T4.setTop (mkF m 19 #[.val (.long q0), .second, .val (.int (f_rmLZ q0)), .val (.long ((((own_last.getD (f_rmLZ q0).toNatClampNeg 0) - q0).toUInt64 >>> ((63 : Int32) &&& 0x3f).toInt64.toUInt64).toInt64)), .second] [(.ref cb)])) (fun t kt => st4 t kt) ?_
  refine own_thr (a := T4.setTop (mkF m 20 #[.val (.long q0), .second, .val (.int (f_rmLZ q0)), .val (.long ((((own_last.getD (f_rmLZ q0).toNatClampNeg 0) - q0).toUInt64 >>> ((63 : Int32) &&& 0x3f).toInt64.toUInt64).toInt64)), .second] [(.int (f_rmLZ q0)), (.ref cb)])) (fun t kt => ?_) ?_
  · show Steps p.tables e below (T4.setTop (mkF m 19 #[.val (.long q0), .second, .val (.int (f_rmLZ q0)), .val (.long ((((own_last.getD (f_rmLZ q0).toNatClampNeg 0) - q0).toUInt64 >>> ((63 : Int32) &&& 0x3f).toInt64.toUInt64).toInt64)), .second] [(.ref cb)])) _
    refine XS.iloadN X4.here hx rfl (hb hby d2_19) rfl ?_
    exact kt
  obtain ⟨cl5, Ar5, -, S5, M5, H5, -⟩ := id V_cb
  have hin5 : ¬ ((f_rmLZ q0) < 0 ∨ cl5.slots.size ≤ ((f_rmLZ q0)).toNatClampNeg) := inb_of S5 (own_nlz q0)
  have hat5 : cl5.slots[((f_rmLZ q0)).toNatClampNeg]? = some (.int (own_lens.getD (f_rmLZ q0).toNatClampNeg 0)) := Has.at H5 hin5 (own_gi _)
  refine own_thr (a := T4.setTop (mkF m 26 #[.val (.long q0), .second, .val (.int (f_rmLZ q0)), .val (.long ((((own_last.getD (f_rmLZ q0).toNatClampNeg 0) - q0).toUInt64 >>> ((63 : Int32) &&& 0x3f).toInt64.toUInt64).toInt64)), .second] [(.int ((own_lens.getD (f_rmLZ q0).toNatClampNeg 0) + ((((((own_last.getD (f_rmLZ q0).toNatClampNeg 0) - q0).toUInt64 >>> ((63 : Int32) &&& 0x3f).toInt64.toUInt64).toInt64).toInt32) * (2 : Int32))))])) (fun t kt => ?_) ?_
  · show Steps p.tables e below (T4.setTop (mkF m 20 #[.val (.long q0), .second, .val (.int (f_rmLZ q0)), .val (.long ((((own_last.getD (f_rmLZ q0).toNatClampNeg 0) - q0).toUInt64 >>> ((63 : Int32) &&& 0x3f).toInt64.toUInt64).toInt64)), .second] [(.int (f_rmLZ q0)), (.ref cb)])) _
    refine X4.baloadBytes hx (j := (f_rmLZ q0)) (v := (.int (own_lens.getD (f_rmLZ q0).toNatClampNeg 0))) (by rw [e4]; exact Ar5.1) (State.isArrayOf_alike hZ.alike Ar5.2.1) Ar5.2.2 hin5 hat5 (g := (mkF m 20 #[.val (.long q0), .second, .val (.int (f_rmLZ q0)), .val (.long ((((own_last.getD (f_rmLZ q0).toNatClampNeg 0) - q0).toUInt64 >>> ((63 : Int32) &&& 0x3f).toInt64.toUInt64).toInt64)), .second] [(.int (f_rmLZ q0)), (.ref cb)])) rfl rfl (hb hby d2_20) _ ?_
    show Steps p.tables e below (T4.setTop (mkF m 21 #[.val (.long q0), .second, .val (.int (f_rmLZ q0)), .val (.long ((((own_last.getD (f_rmLZ q0).toNatClampNeg 0) - q0).toUInt64 >>> ((63 : Int32) &&& 0x3f).toInt64.toUInt64).toInt64)), .second] [(.int (own_lens.getD (f_rmLZ q0).toNatClampNeg 0))])) _
    refine XS.lloadN X4.here hx rfl (hb hby d2_21) rfl ?_
    show Steps p.tables e below (T4.setTop (mkF m 22 #[.val (.long q0), .second, .val (.int (f_rmLZ q0)), .val (.long ((((own_last.getD (f_rmLZ q0).toNatClampNeg 0) - q0).toUInt64 >>> ((63 : Int32) &&& 0x3f).toInt64.toUInt64).toInt64)), .second] [(.long ((((own_last.getD (f_rmLZ q0).toNatClampNeg 0) - q0).toUInt64 >>> ((63 : Int32) &&& 0x3f).toInt64.toUInt64).toInt64)), (.int (own_lens.getD (f_rmLZ q0).toNatClampNeg 0))])) _
    refine XS.l2i X4.here hx rfl (hb hby d2_22) rfl ?_
    show Steps p.tables e below (T4.setTop (mkF m 23 #[.val (.long q0), .second, .val (.int (f_rmLZ q0)), .val (.long ((((own_last.getD (f_rmLZ q0).toNatClampNeg 0) - q0).toUInt64 >>> ((63 : Int32) &&& 0x3f).toInt64.toUInt64).toInt64)), .second] [(.int (((((own_last.getD (f_rmLZ q0).toNatClampNeg 0) - q0).toUInt64 >>> ((63 : Int32) &&& 0x3f).toInt64.toUInt64).toInt64).toInt32)), (.int (own_lens.getD (f_rmLZ q0).toNatClampNeg 0))])) _
    refine XS.iconst X4.here hx rfl (hb hby d2_23) ?_
    show Steps p.tables e below (T4.setTop (mkF m 24 #[.val (.long q0), .second, .val (.int (f_rmLZ q0)), .val (.long ((((own_last.getD (f_rmLZ q0).toNatClampNeg 0) - q0).toUInt64 >>> ((63 : Int32) &&& 0x3f).toInt64.toUInt64).toInt64)), .second] [(.int (2 : Int32)), (.int (((((own_last.getD (f_rmLZ q0).toNatClampNeg 0) - q0).toUInt64 >>> ((63 : Int32) &&& 0x3f).toInt64.toUInt64).toInt64).toInt32)), (.int (own_lens.getD (f_rmLZ q0).toNatClampNeg 0))])) _
    refine XS.imul X4.here hx rfl (hb hby d2_24) rfl ?_
    show Steps p.tables e below (T4.setTop (mkF m 25 #[.val (.long q0), .second, .val (.int (f_rmLZ q0)), .val (.long ((((own_last.getD (f_rmLZ q0).toNatClampNeg 0) - q0).toUInt64 >>> ((63 : Int32) &&& 0x3f).toInt64.toUInt64).toInt64)), .second] [(.int ((((((own_last.getD (f_rmLZ q0).toNatClampNeg 0) - q0).toUInt64 >>> ((63 : Int32) &&& 0x3f).toInt64.toUInt64).toInt64).toInt32) * (2 : Int32))), (.int (own_lens.getD (f_rmLZ q0).toNatClampNeg 0))])) _
    refine XS.iadd X4.here hx rfl (hb hby d2_25) rfl ?_
    exact kt
  exact own_end X4 hlk (v := some (.int ((own_lens.getD (f_rmLZ q0).toNatClampNeg 0) + ((((((own_last.getD (f_rmLZ q0).toNatClampNeg 0) - q0).toUInt64 >>> ((63 : Int32) &&& 0x3f).toInt64.toUInt64).toInt64).toInt32) * (2 : Int32))))) (fun h => by rw [Bd.returns] at h; cases h) (fun fs hr => retI X4 hx Bd.returns (hb hby d2_26) hr) (by rw [e4]; exact ⟨(by rw [f_rmE]), N1, rfl⟩) (by decide : 0 ≤ _) (by decide : 0 ≤ _)
theorem own_lastf : ∀ k : Fin 65, k.val ≠ 56 → k.val ≠ 0 → (own_last.getD k.val 0).toInt = ((2 ^ (64 - k.val) : Nat) : Int) - 1 := by decide +kernel
theorem own_lensf : ∀ k : Fin 65, own_lens.getD k.val 0 = if k.val < 40 then (9 : Int32) else if k.val < 48 then (4 : Int32) else if k.val < 56 then (3 : Int32) else (1 : Int32) := by decide +kernel
theorem own_sg (d : Int64) : ((d.toUInt64 >>> ((63 : Int32) &&& 0x3f).toInt64.toUInt64).toInt64) = if d.toInt < 0 then (1 : Int64) else (0 : Int64) := by
  have e := c_lushr d (63 : Int32) 63 (by decide) (by decide)
  have r := rng64 d
  have t0 : (0 : Int64).toInt = 0 := rfl
  have t1 : (1 : Int64).toInt = 1 := rfl
  rw [← Int64.toInt_inj, e]
  by_cases h : d.toInt < 0
  · rw [if_pos h, t1]; simp only [Nat.reducePow]; omega
  · rw [if_neg h, t0]; simp only [Nat.reducePow]; omega
theorem own_law (q : Int64) (ca cb : Addr) (ka kb : ClassId) : f_rmE q ca cb ka kb = f_rmX q := by
  obtain ⟨k, k1, k2, k3, k4⟩ := own_lz q
  have hq := rng64 q
  have hn : (f_rmLZ q).toNatClampNeg = k := by
    show (f_rmLZ q).toInt.toNat = k
    omega
  have t0 : (0 : Int64).toInt = 0 := rfl
  have t250 : (250 : Int64).toInt = 250 := rfl
  have t16 : (65535 : Int64).toInt = 65535 := rfl
  have t24 : (16777215 : Int64).toInt = 16777215 := rfl
  unfold f_rmE
  rw [hn, own_sg, own_lensf ⟨k, by omega⟩]
  generalize hLk : own_last.getD k 0 = Lk
  have hs := c_lsub Lk q
  have hsr := rng64 (Lk - q)
  have hlr := rng64 Lk
  show (if k < 40 then (9 : Int32) else if k < 48 then (4 : Int32) else if k < 56 then (3 : Int32) else (1 : Int32)) + _ = _
  unfold f_rmX
  simp only [Int64.lt_iff_toInt_lt, t0, t250, t16, t24]
  by_cases h0 : k = 0
  · subst h0
    have k5 := k4 (by omega)
    simp only [Nat.reduceSub, Nat.reducePow] at k5
    have hl : Lk.toInt = -1 := by rw [← hLk]; rfl
    rw [if_pos (by omega : 0 < 40), if_neg (by omega), if_pos (by omega)]
    rfl
  by_cases h56 : k = 56
  · subst h56
    have k5 := k4 (by omega)
    simp only [Nat.reduceSub, Nat.reducePow] at k5 k3
    have hl : Lk.toInt = 250 := by rw [← hLk]; rfl
    rw [if_neg (by omega : ¬ 56 < 40), if_neg (by omega : ¬ 56 < 48), if_neg (by omega : ¬ 56 < 56)]
    by_cases hx : 250 < q.toInt
    · rw [if_pos (by omega), if_neg (by omega : ¬ q.toInt < 0), if_pos hx, if_neg (by omega)]; rfl
    · rw [if_neg (by omega), if_neg (by omega : ¬ q.toInt < 0), if_neg hx]; rfl
  have hl := own_lastf ⟨k, by omega⟩ h56 h0
  have hl' : Lk.toInt = ((2 ^ (64 - k) : Nat) : Int) - 1 := by rw [← hLk]; exact hl
  have hp63 : 2 ^ (64 - k) ≤ 2 ^ 63 := Nat.pow_le_pow_right (by decide) (by omega)
  have hd : ¬ (Lk - q).toInt < 0 := by
    clear hl
    generalize 2 ^ (64 - k) = P at *
    simp only [Nat.reducePow] at hp63
    omega
  rw [if_neg hd]
  have hq0 : ¬ q.toInt < 0 := by
    clear hl
    generalize 2 ^ (64 - k) = P at *
    simp only [Nat.reducePow] at hp63
    omega
  rw [if_neg hq0]
  by_cases h40 : k < 40
  · have k5 := k4 (by omega)
    have hp : 2 ^ 24 ≤ 2 ^ (63 - k) := Nat.pow_le_pow_right (by decide) (by omega)
    simp only [Nat.reducePow] at hp
    rw [if_pos h40, if_pos (by omega), if_pos (by omega), if_pos (by omega)]; rfl
  rw [if_neg h40]
  by_cases h48 : k < 48
  · have k5 := k4 (by omega)
    have hp : 2 ^ 16 ≤ 2 ^ (63 - k) := Nat.pow_le_pow_right (by decide) (by omega)
    have hp' : 2 ^ (64 - k) ≤ 2 ^ 24 := Nat.pow_le_pow_right (by decide) (by omega)
    simp only [Nat.reducePow] at hp hp'
    rw [if_pos h48, if_pos (by omega), if_pos (by omega), if_neg (by omega)]; rfl
  rw [if_neg h48]
  by_cases h55 : k < 56
  · have k5 := k4 (by omega)
    have hp : 2 ^ 8 ≤ 2 ^ (63 - k) := Nat.pow_le_pow_right (by decide) (by omega)
    have hp' : 2 ^ (64 - k) ≤ 2 ^ 16 := Nat.pow_le_pow_right (by decide) (by omega)
    simp only [Nat.reducePow] at hp hp'
    rw [if_pos h55, if_pos (by omega), if_neg (by omega)]; rfl
  rw [if_neg h55]
  have hp' : 2 ^ (64 - k) ≤ 2 ^ 7 := Nat.pow_le_pow_right (by decide) (by omega)
  simp only [Nat.reducePow] at hp'
  rw [if_neg (by omega)]; rfl

theorem own_hasL {c : Cell} : ∀ (xs : List Int32) (i : Nat), (∀ j, j < xs.length → c.slots[i + j]? = some (.int (xs.getD j 0))) → HasL c i (xs.map Value.int)
  | [], _, _ => trivial
  | x :: r, i, h => ⟨h 0 (by simp), own_hasL r (i + 1) fun j hj => by
      have := h (j + 1) (by simp; omega)
      rw [show i + 1 + j = i + (j + 1) by omega]
      simpa using this⟩
theorem own_orx {args : Array Value} {s : State} {idx : List Nat} {G X : Jvm.Cond} {P : Prop} [Decidable P] (h : (Jvm.Cond.or G X).value args s none s idx = some true) (hG : G.value args s none s idx = some (decide P)) (hn : ¬ P) : X.value args s none s idx = some true := by
  simp only [Cond.value, hG] at h
  simpa [hn] using h
theorem own_leI {args : Array Value} {s : State} {idx : List Nat} {a b : Term} {x y : Int32} (ha : a.eval args s none idx s = some (.int x)) (hb : b.eval args s none idx s = some (.int y)) : (Jvm.Cond.le a b).value args s none s idx = some (decide (x ≤ y)) := by simp [Cond.value, ha, hb]
theorem own_ltI {args : Array Value} {s : State} {idx : List Nat} {a b : Term} {x y : Int32} (ha : a.eval args s none idx s = some (.int x)) (hb : b.eval args s none idx s = some (.int y)) : (Jvm.Cond.lt a b).value args s none s idx = some (decide (x < y)) := by simp [Cond.value, ha, hb]
theorem own_lb {args : Array Value} {s : State} {C n d : String} {cb : Addr} {cl : Cell} {ty : FieldType} (ev : (Term.static C n d).eval args s none [] s = some (.ref cb)) (A : Arr s s.heap cb cl ty) (hsz : cl.slots.size = 65)
    (u1 : (Jvm.Cond.all (.static C n d) (.or (.le (.int 40) (.index 0)) (.eq (.elem (.static C n d) (.index 0)) (.int 9)))).value args s none s [] = some true)
    (u2 : (Jvm.Cond.all (.static C n d) (.or (.lt (.index 0) (.int 40)) (.or (.le (.int 48) (.index 0)) (.eq (.elem (.static C n d) (.index 0)) (.int 4))))).value args s none s [] = some true)
    (u3 : (Jvm.Cond.all (.static C n d) (.or (.lt (.index 0) (.int 48)) (.or (.le (.int 56) (.index 0)) (.eq (.elem (.static C n d) (.index 0)) (.int 3))))).value args s none s [] = some true)
    (u4 : (Jvm.Cond.all (.static C n d) (.or (.lt (.index 0) (.int 56)) (.eq (.elem (.static C n d) (.index 0)) (.int 1)))).value args s none s [] = some true) :
    ∀ j, j < own_lens.length → cl.slots[0 + j]? = some (.int (own_lens.getD j 0)) := by
  intro j hj
  have hj' : j < 65 := hj
  have hA : s.arrayAt? cb = some cl := Arr.fin (Vm.Alike.refl _) A
  have ev' : (Term.static C n d).eval args s none [j] s = some (.ref cb) := ev
  have hi : (Term.index 0).eval args s none [j] s = some (.int j.toInt32) := Term.index_eval j
  have fin : ∀ x : Int32, (Jvm.Cond.eq (.elem (.static C n d) (.index 0)) (.int x)).value args s none s [j] = some true → cl.slots[j]? = some (.int x) := fun x h => by
    have q := (elem_in (own_eqI h rfl) ev' hi A.1).2
    rwa [own_nat (by omega)] at q
  have h1 := Cond.all_elim ev hA u1 j (by omega)
  have h2 := Cond.all_elim ev hA u2 j (by omega)
  have h3 := Cond.all_elim ev hA u3 j (by omega)
  have h4 := Cond.all_elim ev hA u4 j (by omega)
  have hji : j.toInt32.toInt = j := len_toInt (by omega)
  have t40 : (40 : Int32).toInt = 40 := rfl
  have t48 : (48 : Int32).toInt = 48 := rfl
  have t56 : (56 : Int32).toInt = 56 := rfl
  rw [Nat.zero_add, own_lensf ⟨j, hj'⟩]
  show _ = some (Value.int (if j < 40 then (9 : Int32) else if j < 48 then (4 : Int32) else if j < 56 then (3 : Int32) else (1 : Int32)))
  by_cases c1 : j < 40
  · rw [if_pos c1]
    exact fin _ (own_orx h1 (own_leI rfl hi) (by rw [Int32.le_iff_toInt_le]; omega))
  rw [if_neg c1]
  by_cases c2 : j < 48
  · rw [if_pos c2]
    exact fin _ (own_orx (own_orx h2 (own_ltI hi rfl) (by rw [Int32.lt_iff_toInt_lt]; omega)) (own_leI rfl hi) (by rw [Int32.le_iff_toInt_le]; omega))
  rw [if_neg c2]
  by_cases c3 : j < 56
  · rw [if_pos c3]
    exact fin _ (own_orx (own_orx h3 (own_ltI hi rfl) (by rw [Int32.lt_iff_toInt_lt]; omega)) (own_leI rfl hi) (by rw [Int32.le_iff_toInt_le]; omega))
  rw [if_neg c3]
  exact fin _ (own_orx h4 (own_ltI hi rfl) (by rw [Int32.lt_iff_toInt_lt]; omega))

theorem pd__28I_29J : parseMethodDescriptor "(I)J" = some ⟨[.int], some .long⟩ := by decide +kernel
theorem ef_rm0 (m : MethodId) (q0 : Int64) (p1 : Int32) (p2 : Int32)  : entryFrame m #[(.long q0), (.int p1), (.int p2)] maxLocals = mkF m 0 #[.val (.long q0), .second, .val (.int p1), .val (.int p2), .unset, .unset, .unset] [] := by first |  (simp [entryFrame, mkF, argsToLocals, Value.category, maxLocals]; done) | rfl
def Q0 (Z : State) (q0 : Int64) (p1 : Int32) (p2 : Int32) (ca : Addr) (cb : Addr) (ka : ClassId) (kb : ClassId) (h0 : Heap) (n0 : Nat) (v : Option Value) (h : Heap) (L : List Loc) : Prop := v = some (.int (1 : Int32)) ∧ Fr n0 L
set_option maxRecDepth 65536 in
set_option maxHeartbeats 40000000 in
theorem rm0 (l : Launch) (Z : State) (a0 : Array Value) (hw : ∀ d ∈ tables_1, d.before a0 Z = true) (ws : List Jvm.Cond) (q0 : Int64) (p1 : Int32) (p2 : Int32) (ca : Addr) (cb : Addr) (ka : ClassId) (kb : ClassId) (h0 : Heap) (n0 : Nat) (Z0 : n0 ≤ h0.size) (S_LAST_BY_LEADING_ZEROS : Sta Z h0 "com/example/lexint/lexint/LengthEncodedInt" "LAST_BY_LEADING_ZEROS" "[J" (.ref ca)) (S_LENGTH_BY_LEADING_ZEROS : Sta Z h0 "com/example/lexint/lexint/LengthEncodedInt" "LENGTH_BY_LEADING_ZEROS" "[B" (.ref cb)) (V_ca : Arv Z h0 ca ka .long (65 : Int32) (own_last.map Value.long) (.long (0 : Int64))) (V_cb : Arv Z h0 cb kb .byte (65 : Int32) (own_lens.map Value.int) (.int (0 : Int32))) :
    MetFree l x (head1 (Jvm.Cond.code x code maxLocals ret :: ws) room_1) (fun a U => a = #[(.long q0), (.int p1), (.int p2)] ∧ Z.Warmed39 U.vm ∧ U.heap = h0) (fun _ _ _ _ _ => True) (fun _ U o U' => ∃ v L, o = .returned v ∧ Q0 Z q0 p1 p2 ca cb ka kb h0 n0 v U'.heap L ∧ FrameEnd U o U' L room_1.cells room_1.slots) := by
  refine MetFree.of_bodySF (plainFor_of_name pn_com_example_lexint_lexint_LengthEncodedIntEncodedLengthPinLaw) hisR ?_
  intro p e s m args below meth c s₁ Bd hml0 hP hK
  obtain ⟨rfl, hZ, hh⟩ := hP
  have hx := Bd.exec
  have hby := Bd.bytes
  have hml : c.maxLocals = 7 := hml0
  have hown : s.vm.findClass "com/example/lexint/lexint/LengthEncodedIntEncodedLengthPinLaw" = some m.cls := findClass_of_methodNamed Bd.named
  have hnm := (name_of_methodNamed Bd.named Bd.method).1
  have hlk := Bd.notSynchronized
  have X0 : Stand p l e room_1 s m #[(.long q0), (.int p1), (.int p2)] below meth c s₁ [] 0 0 := Stand.of_body Bd
  have e0 : s₁.heap = h0 := by rw [← hh, Bd.state]; rfl
  have N0 := Fr.nil n0
  show own_G p.tables e below s (Q0 Z q0 p1 p2 ca cb ka kb h0 n0) room_1.cells room_1.slots _
  refine own_thr (a := s₁.setTop (mkF m 0 #[.val (.long q0), .second, .val (.int p1), .val (.int p2), .unset, .unset, .unset] [])) (fun t kt => castTop (ef_rm0 m q0 p1 p2) kt) ?_
  have jn69 : ∀ (Tj1 : State) (lcj1 : List Loc) (Xj1 : Stand p l e room_1 s m #[(.long q0), (.int p1), (.int p2)] below meth c Tj1 lcj1 0 0) (Nj1 : Fr n0 lcj1) (ej1 : Tj1.heap = h0) (q5 : Int64), own_G p.tables e below s (Q0 Z q0 p1 p2 ca cb ka kb h0 n0) room_1.cells room_1.slots (Tj1.setTop (mkF m 69 #[.val (.long q0), .second, .val (.int p1), .val (.int p2), .val (.int (p1 &&& (3 : Int32))), .val (.long q5), .second] [])) := by
    intro Tj1 lcj1 Xj1 Nj1 ej1 q5
    refine own_thr (a := Tj1.setTop (mkF m 71 #[.val (.long q0), .second, .val (.int p1), .val (.int p2), .val (.int (p1 &&& (3 : Int32))), .val (.long q5), .second] [(.long q5)])) (fun t kt => ?_) ?_
    · show Steps p.tables e below (Tj1.setTop (mkF m 69 #[.val (.long q0), .second, .val (.int p1), .val (.int p2), .val (.int (p1 &&& (3 : Int32))), .val (.long q5), .second] [])) _
      refine XS.lload Xj1.here hx rfl (hb hby at_69) rfl ?_
      exact kt
    obtain ⟨_, _, ⟨T2, L2, k2, n2⟩, -, X2, ⟨Lc2, hQ2, l2, y2, z2⟩, st2⟩ := Jvm.LawKit.callS Xj1 hx (y := (⟨"com/example/lexint/lexint/LengthEncodedInt", "encodedLength", "(J)I"⟩ : MethodName)) hown (mvT hZ (hw _ (List.mem_of_getElem? (i := 4) rfl))) (mvT hZ (hw _ (List.mem_of_getElem? (i := 5) rfl))) (mvT hZ (hw _ (List.mem_of_getElem? (i := 6) rfl))) (mvT hZ (hw _ (List.mem_of_getElem? (i := 7) rfl))) (by decide) (backOf (W := 0) (rmE l Z a0 hw [] q5 ca cb ka kb h0 n0 Z0 V_ca V_cb S_LAST_BY_LEADING_ZEROS S_LENGTH_BY_LEADING_ZEROS) hZ (hw _ (List.mem_of_getElem? (i := 7) rfl)) (hw _ (List.mem_of_getElem? (i := 6) rfl)) (by decide) (by decide)) (g := (mkF m 71 #[.val (.long q0), .second, .val (.int p1), .val (.int p2), .val (.int (p1 &&& (3 : Int32))), .val (.long q5), .second] [(.long q5)])) rfl (by rw [hml]; rfl) (argsL := [(.long q5)]) (rest := []) (lenOf pd__28J_29I rfl) rfl (by show 2 * 0 + _ ≤ _; exact Nat.le_of_eq rfl) (hb hby at_71) (fun _ _ => ⟨rfl, ej1, (by decide : 0 + 0 ≤ _), (by decide : 0 + 0 ≤ _)⟩)
    dsimp only [Pt.U, Pt.locs, Pt.cells, Pt.slots] at X2 l2 y2 z2 st2 hQ2
    obtain ⟨rfl, N2q, e2⟩ := hQ2
    obtain ⟨lc2, X2, N2⟩ := own_pack X2 l2 y2 z2 Nj1 N2q (C := 0) (S' := 0) rfl rfl
    refine own_thr (a := T2.setTop (mkF m 74 #[.val (.long q0), .second, .val (.int p1), .val (.int p2), .val (.int (p1 &&& (3 : Int32))), .val (.long q5), .second] [(.int (f_rmE q5 ca cb ka kb))])) (fun t kt => st2 t kt) ?_
    refine own_thr (a := T2.setTop (mkF m 76 #[.val (.long q0), .second, .val (.int p1), .val (.int p2), .val (.int (p1 &&& (3 : Int32))), .val (.long q5), .second] [(.long q5), (.int (f_rmE q5 ca cb ka kb))])) (fun t kt => ?_) ?_
    · show Steps p.tables e below (T2.setTop (mkF m 74 #[.val (.long q0), .second, .val (.int p1), .val (.int p2), .val (.int (p1 &&& (3 : Int32))), .val (.long q5), .second] [(.int (f_rmE q5 ca cb ka kb))])) _
      refine XS.lload X2.here hx rfl (hb hby at_74) rfl ?_
      exact kt
    obtain ⟨_, _, ⟨T3, L3, k3, n3⟩, -, X3, ⟨Lc3, hQ3, l3, y3, z3⟩, st3⟩ := Jvm.LawKit.callS X2 hx (y := (⟨"com/example/lexint/lexint/LengthEncodedIntEncodedLengthPinLaw", "expected", "(J)I"⟩ : MethodName)) hown (mvT hZ (hw _ (List.mem_of_getElem? (i := 20) rfl))) (mvT hZ (hw _ (List.mem_of_getElem? (i := 21) rfl))) (mvT hZ (hw _ (List.mem_of_getElem? (i := 2) rfl))) (mvT hZ (hw _ (List.mem_of_getElem? (i := 22) rfl))) (by decide) (backOf (W := 1) (rmX l Z a0 hw [] q5 h0 n0 Z0) hZ (hw _ (List.mem_of_getElem? (i := 22) rfl)) (hw _ (List.mem_of_getElem? (i := 2) rfl)) (by decide) (by decide)) (g := (mkF m 76 #[.val (.long q0), .second, .val (.int p1), .val (.int p2), .val (.int (p1 &&& (3 : Int32))), .val (.long q5), .second] [(.long q5), (.int (f_rmE q5 ca cb ka kb))])) rfl (by rw [hml]; rfl) (argsL := [(.long q5)]) (rest := [(.int (f_rmE q5 ca cb ka kb))]) (lenOf pd__28J_29I rfl) rfl (by show 2 * 0 + _ ≤ _; exact Nat.le_of_eq rfl) (hb hby at_76) (fun _ _ => ⟨rfl, e2, (by decide : 0 + 0 ≤ _), (by decide : 0 + 0 ≤ _)⟩)
    dsimp only [Pt.U, Pt.locs, Pt.cells, Pt.slots] at X3 l3 y3 z3 st3 hQ3
    obtain ⟨rfl, N3q, e3⟩ := hQ3
    obtain ⟨lc3, X3, N3⟩ := own_pack X3 l3 y3 z3 N2 N3q (C := 0) (S' := 0) rfl rfl
    refine own_thr (a := T3.setTop (mkF m 79 #[.val (.long q0), .second, .val (.int p1), .val (.int p2), .val (.int (p1 &&& (3 : Int32))), .val (.long q5), .second] [(.int (f_rmX q5)), (.int (f_rmE q5 ca cb ka kb))])) (fun t kt => st3 t kt) ?_
    refine own_thr (a := T3.setTop (mkF m 87 #[.val (.long q0), .second, .val (.int p1), .val (.int p2), .val (.int (p1 &&& (3 : Int32))), .val (.long q5), .second] [(.int (1 : Int32))])) (fun t kt => ?_) ?_
    · show Steps p.tables e below (T3.setTop (mkF m 79 #[.val (.long q0), .second, .val (.int p1), .val (.int p2), .val (.int (p1 &&& (3 : Int32))), .val (.long q5), .second] [(.int (f_rmX q5)), (.int (f_rmE q5 ca cb ka kb))])) _
      refine XS.icmpNo X3.here hx rfl (hb hby at_79) rfl (teq (own_law q5 ca cb ka kb)).2 ?_
      show Steps p.tables e below (T3.setTop (mkF m 82 #[.val (.long q0), .second, .val (.int p1), .val (.int p2), .val (.int (p1 &&& (3 : Int32))), .val (.long q5), .second] [])) _
      refine XS.iconst X3.here hx rfl (hb hby at_82) ?_
      show Steps p.tables e below (T3.setTop (mkF m 83 #[.val (.long q0), .second, .val (.int p1), .val (.int p2), .val (.int (p1 &&& (3 : Int32))), .val (.long q5), .second] [(.int (1 : Int32))])) _
      refine XS.goto X3.here hx rfl (pc0 := 83) (pc' := 87) rfl (hb hby at_83) (by decide) (by decide) ?_
      exact kt
    exact own_end X3 hlk (v := some (.int (1 : Int32))) (fun h => by rw [Bd.returns] at h; cases h) (fun fs hr => retN X3 hx (t := .boolean) Bd.returns (by simp) (hb hby at_87) hr) ⟨rfl, N3⟩ (by decide : 0 ≤ _) (by decide : 0 ≤ _)
  refine own_thr (a := s₁.setTop (mkF m 7 #[.val (.long q0), .second, .val (.int p1), .val (.int p2), .val (.int (p1 &&& (3 : Int32))), .unset, .unset] [(.int (p1 &&& (3 : Int32)))])) (fun t kt => ?_) ?_
  · show Steps p.tables e below (s₁.setTop (mkF m 0 #[.val (.long q0), .second, .val (.int p1), .val (.int p2), .unset, .unset, .unset] [])) _
    refine XS.iloadN X0.here hx rfl (hb hby at_0) rfl ?_
    show Steps p.tables e below (s₁.setTop (mkF m 1 #[.val (.long q0), .second, .val (.int p1), .val (.int p2), .unset, .unset, .unset] [(.int p1)])) _
    refine XS.iconst X0.here hx rfl (hb hby at_1) ?_
    show Steps p.tables e below (s₁.setTop (mkF m 2 #[.val (.long q0), .second, .val (.int p1), .val (.int p2), .unset, .unset, .unset] [(.int (3 : Int32)), (.int p1)])) _
    refine XS.iand X0.here hx rfl (hb hby at_2) rfl ?_
    show Steps p.tables e below (s₁.setTop (mkF m 3 #[.val (.long q0), .second, .val (.int p1), .val (.int p2), .unset, .unset, .unset] [(.int (p1 &&& (3 : Int32)))])) _
    refine XS.istore X0.here hx rfl (hb hby at_3) rfl (l' := #[.val (.long q0), .second, .val (.int p1), .val (.int p2), .val (.int (p1 &&& (3 : Int32))), .unset, .unset]) rfl ?_
    show Steps p.tables e below (s₁.setTop (mkF m 5 #[.val (.long q0), .second, .val (.int p1), .val (.int p2), .val (.int (p1 &&& (3 : Int32))), .unset, .unset] [])) _
    refine XS.iload X0.here hx rfl (hb hby at_5) rfl ?_
    exact kt
  by_cases hc4 : (p1 &&& (3 : Int32)) = (0 : Int32)
  · refine own_thr (a := s₁.setTop (mkF m 69 #[.val (.long q0), .second, .val (.int p1), .val (.int p2), .val (.int (p1 &&& (3 : Int32))), .val (.long q0), .second] [])) (fun t kt => ?_) ?_
    · show Steps p.tables e below (s₁.setTop (mkF m 7 #[.val (.long q0), .second, .val (.int p1), .val (.int p2), .val (.int (p1 &&& (3 : Int32))), .unset, .unset] [(.int (p1 &&& (3 : Int32)))])) _
      refine XS.ifNo X0.here hx rfl (hb hby at_7) rfl ((if0 _ _).trans (teq hc4).2) ?_
      show Steps p.tables e below (s₁.setTop (mkF m 10 #[.val (.long q0), .second, .val (.int p1), .val (.int p2), .val (.int (p1 &&& (3 : Int32))), .unset, .unset] [])) _
      refine XS.lloadN X0.here hx rfl (hb hby at_10) rfl ?_
      show Steps p.tables e below (s₁.setTop (mkF m 11 #[.val (.long q0), .second, .val (.int p1), .val (.int p2), .val (.int (p1 &&& (3 : Int32))), .unset, .unset] [(.long q0)])) _
      refine XS.lstore X0.here hx rfl (hb hby at_11) rfl (l' := #[.val (.long q0), .second, .val (.int p1), .val (.int p2), .val (.int (p1 &&& (3 : Int32))), .val (.long q0), .second]) rfl ?_
      show Steps p.tables e below (s₁.setTop (mkF m 13 #[.val (.long q0), .second, .val (.int p1), .val (.int p2), .val (.int (p1 &&& (3 : Int32))), .val (.long q0), .second] [])) _
      refine XS.goto X0.here hx rfl (pc0 := 13) (pc' := 69) rfl (hb hby at_13) (by decide) (by decide) ?_
      exact kt
    exact jn69 _ _ X0 N0 e0 q0
  · refine own_thr (a := s₁.setTop (mkF m 19 #[.val (.long q0), .second, .val (.int p1), .val (.int p2), .val (.int (p1 &&& (3 : Int32))), .unset, .unset] [(.int (1 : Int32)), (.int (p1 &&& (3 : Int32)))])) (fun t kt => ?_) ?_
    · show Steps p.tables e below (s₁.setTop (mkF m 7 #[.val (.long q0), .second, .val (.int p1), .val (.int p2), .val (.int (p1 &&& (3 : Int32))), .unset, .unset] [(.int (p1 &&& (3 : Int32)))])) _
      refine XS.ifYes X0.here hx rfl (pc0 := 7) (pc' := 16) rfl (hb hby at_7) rfl ((if0 _ _).trans (feq hc4).2) (by decide) (by decide) ?_
      show Steps p.tables e below (s₁.setTop (mkF m 16 #[.val (.long q0), .second, .val (.int p1), .val (.int p2), .val (.int (p1 &&& (3 : Int32))), .unset, .unset] [])) _
      refine XS.iload X0.here hx rfl (hb hby at_16) rfl ?_
      show Steps p.tables e below (s₁.setTop (mkF m 18 #[.val (.long q0), .second, .val (.int p1), .val (.int p2), .val (.int (p1 &&& (3 : Int32))), .unset, .unset] [(.int (p1 &&& (3 : Int32)))])) _
      refine XS.iconst X0.here hx rfl (hb hby at_18) ?_
      exact kt
    by_cases hc5 : (p1 &&& (3 : Int32)) = (1 : Int32)
    · refine own_thr (a := s₁.setTop (mkF m 69 #[.val (.long q0), .second, .val (.int p1), .val (.int p2), .val (.int (p1 &&& (3 : Int32))), .val (.long ((q0.toUInt64 >>> ((p2 &&& (63 : Int32)) &&& 0x3f).toInt64.toUInt64).toInt64)), .second] [])) (fun t kt => ?_) ?_
      · show Steps p.tables e below (s₁.setTop (mkF m 19 #[.val (.long q0), .second, .val (.int p1), .val (.int p2), .val (.int (p1 &&& (3 : Int32))), .unset, .unset] [(.int (1 : Int32)), (.int (p1 &&& (3 : Int32)))])) _
        refine XS.icmpNo X0.here hx rfl (hb hby at_19) rfl (teq hc5).2 ?_
        show Steps p.tables e below (s₁.setTop (mkF m 22 #[.val (.long q0), .second, .val (.int p1), .val (.int p2), .val (.int (p1 &&& (3 : Int32))), .unset, .unset] [])) _
        refine XS.lloadN X0.here hx rfl (hb hby at_22) rfl ?_
        show Steps p.tables e below (s₁.setTop (mkF m 23 #[.val (.long q0), .second, .val (.int p1), .val (.int p2), .val (.int (p1 &&& (3 : Int32))), .unset, .unset] [(.long q0)])) _
        refine XS.iloadN X0.here hx rfl (hb hby at_23) rfl ?_
        show Steps p.tables e below (s₁.setTop (mkF m 24 #[.val (.long q0), .second, .val (.int p1), .val (.int p2), .val (.int (p1 &&& (3 : Int32))), .unset, .unset] [(.int p2), (.long q0)])) _
        refine XS.bipush X0.here hx rfl (hb hby at_24) ?_
        show Steps p.tables e below (s₁.setTop (mkF m 26 #[.val (.long q0), .second, .val (.int p1), .val (.int p2), .val (.int (p1 &&& (3 : Int32))), .unset, .unset] [(.int (63 : Int32)), (.int p2), (.long q0)])) _
        refine XS.iand X0.here hx rfl (hb hby at_26) rfl ?_
        show Steps p.tables e below (s₁.setTop (mkF m 27 #[.val (.long q0), .second, .val (.int p1), .val (.int p2), .val (.int (p1 &&& (3 : Int32))), .unset, .unset] [(.int (p2 &&& (63 : Int32))), (.long q0)])) _
        refine XS.lushr X0.here hx rfl (hb hby at_27) rfl ?_
        show Steps p.tables e below (s₁.setTop (mkF m 28 #[.val (.long q0), .second, .val (.int p1), .val (.int p2), .val (.int (p1 &&& (3 : Int32))), .unset, .unset] [(.long ((q0.toUInt64 >>> ((p2 &&& (63 : Int32)) &&& 0x3f).toInt64.toUInt64).toInt64))])) _
        refine XS.lstore X0.here hx rfl (hb hby at_28) rfl (l' := #[.val (.long q0), .second, .val (.int p1), .val (.int p2), .val (.int (p1 &&& (3 : Int32))), .val (.long ((q0.toUInt64 >>> ((p2 &&& (63 : Int32)) &&& 0x3f).toInt64.toUInt64).toInt64)), .second]) rfl ?_
        show Steps p.tables e below (s₁.setTop (mkF m 30 #[.val (.long q0), .second, .val (.int p1), .val (.int p2), .val (.int (p1 &&& (3 : Int32))), .val (.long ((q0.toUInt64 >>> ((p2 &&& (63 : Int32)) &&& 0x3f).toInt64.toUInt64).toInt64)), .second] [])) _
        refine XS.goto X0.here hx rfl (pc0 := 30) (pc' := 69) rfl (hb hby at_30) (by decide) (by decide) ?_
        exact kt
      exact jn69 _ _ X0 N0 e0 ((q0.toUInt64 >>> ((p2 &&& (63 : Int32)) &&& 0x3f).toInt64.toUInt64).toInt64)
    · refine own_thr (a := s₁.setTop (mkF m 36 #[.val (.long q0), .second, .val (.int p1), .val (.int p2), .val (.int (p1 &&& (3 : Int32))), .unset, .unset] [(.int (2 : Int32)), (.int (p1 &&& (3 : Int32)))])) (fun t kt => ?_) ?_
      · show Steps p.tables e below (s₁.setTop (mkF m 19 #[.val (.long q0), .second, .val (.int p1), .val (.int p2), .val (.int (p1 &&& (3 : Int32))), .unset, .unset] [(.int (1 : Int32)), (.int (p1 &&& (3 : Int32)))])) _
        refine XS.icmpYes X0.here hx rfl (pc0 := 19) (pc' := 33) rfl (hb hby at_19) rfl (feq hc5).2 (by decide) (by decide) ?_
        show Steps p.tables e below (s₁.setTop (mkF m 33 #[.val (.long q0), .second, .val (.int p1), .val (.int p2), .val (.int (p1 &&& (3 : Int32))), .unset, .unset] [])) _
        refine XS.iload X0.here hx rfl (hb hby at_33) rfl ?_
        show Steps p.tables e below (s₁.setTop (mkF m 35 #[.val (.long q0), .second, .val (.int p1), .val (.int p2), .val (.int (p1 &&& (3 : Int32))), .unset, .unset] [(.int (p1 &&& (3 : Int32)))])) _
        refine XS.iconst X0.here hx rfl (hb hby at_35) ?_
        exact kt
      by_cases hc6 : (p1 &&& (3 : Int32)) = (2 : Int32)
      · refine own_thr (a := s₁.setTop (mkF m 45 #[.val (.long q0), .second, .val (.int p1), .val (.int p2), .val (.int (p1 &&& (3 : Int32))), .unset, .unset] [(.int (((p2.toUInt32 >>> ((4 : Int32) &&& 31).toUInt32).toInt32) &&& (7 : Int32)))])) (fun t kt => ?_) ?_
        · show Steps p.tables e below (s₁.setTop (mkF m 36 #[.val (.long q0), .second, .val (.int p1), .val (.int p2), .val (.int (p1 &&& (3 : Int32))), .unset, .unset] [(.int (2 : Int32)), (.int (p1 &&& (3 : Int32)))])) _
          refine XS.icmpNo X0.here hx rfl (hb hby at_36) rfl (teq hc6).2 ?_
          show Steps p.tables e below (s₁.setTop (mkF m 39 #[.val (.long q0), .second, .val (.int p1), .val (.int p2), .val (.int (p1 &&& (3 : Int32))), .unset, .unset] [])) _
          refine XS.iloadN X0.here hx rfl (hb hby at_39) rfl ?_
          show Steps p.tables e below (s₁.setTop (mkF m 40 #[.val (.long q0), .second, .val (.int p1), .val (.int p2), .val (.int (p1 &&& (3 : Int32))), .unset, .unset] [(.int p2)])) _
          refine XS.iconst X0.here hx rfl (hb hby at_40) ?_
          show Steps p.tables e below (s₁.setTop (mkF m 41 #[.val (.long q0), .second, .val (.int p1), .val (.int p2), .val (.int (p1 &&& (3 : Int32))), .unset, .unset] [(.int (4 : Int32)), (.int p2)])) _
          refine XS.iushr X0.here hx rfl (hb hby at_41) rfl ?_
          show Steps p.tables e below (s₁.setTop (mkF m 42 #[.val (.long q0), .second, .val (.int p1), .val (.int p2), .val (.int (p1 &&& (3 : Int32))), .unset, .unset] [(.int ((p2.toUInt32 >>> ((4 : Int32) &&& 31).toUInt32).toInt32))])) _
          refine XS.bipush X0.here hx rfl (hb hby at_42) ?_
          show Steps p.tables e below (s₁.setTop (mkF m 44 #[.val (.long q0), .second, .val (.int p1), .val (.int p2), .val (.int (p1 &&& (3 : Int32))), .unset, .unset] [(.int (7 : Int32)), (.int ((p2.toUInt32 >>> ((4 : Int32) &&& 31).toUInt32).toInt32))])) _
          refine XS.iand X0.here hx rfl (hb hby at_44) rfl ?_
          exact kt
        obtain ⟨_, _, ⟨T7, L7, k7, n7⟩, -, X7, ⟨Lc7, hQ7, l7, y7, z7⟩, st7⟩ := Jvm.LawKit.callS X0 hx (y := (⟨"com/example/lexint/lexint/LengthEncodedIntEncodedLengthPinLaw", "base", "(I)J"⟩ : MethodName)) hown (mvT hZ (hw _ (List.mem_of_getElem? (i := 0) rfl))) (mvT hZ (hw _ (List.mem_of_getElem? (i := 1) rfl))) (mvT hZ (hw _ (List.mem_of_getElem? (i := 2) rfl))) (mvT hZ (hw _ (List.mem_of_getElem? (i := 3) rfl))) (by decide) (backOf (W := 0) (rmB l Z a0 hw [] (((p2.toUInt32 >>> ((4 : Int32) &&& 31).toUInt32).toInt32) &&& (7 : Int32)) h0 n0 Z0) hZ (hw _ (List.mem_of_getElem? (i := 3) rfl)) (hw _ (List.mem_of_getElem? (i := 2) rfl)) (by decide) (by decide)) (g := (mkF m 45 #[.val (.long q0), .second, .val (.int p1), .val (.int p2), .val (.int (p1 &&& (3 : Int32))), .unset, .unset] [(.int (((p2.toUInt32 >>> ((4 : Int32) &&& 31).toUInt32).toInt32) &&& (7 : Int32)))])) rfl (by rw [hml]; rfl) (argsL := [(.int (((p2.toUInt32 >>> ((4 : Int32) &&& 31).toUInt32).toInt32) &&& (7 : Int32)))]) (rest := []) (lenOf pd__28I_29J rfl) rfl (by show 2 * 0 + _ ≤ _; exact Nat.le_of_eq rfl) (hb hby at_45) (fun _ _ => ⟨rfl, e0, (by decide : 0 + 0 ≤ _), (by decide : 0 + 0 ≤ _)⟩)
        dsimp only [Pt.U, Pt.locs, Pt.cells, Pt.slots] at X7 l7 y7 z7 st7 hQ7
        obtain ⟨rfl, N7q, e7⟩ := hQ7
        obtain ⟨lc7, X7, N7⟩ := own_pack X7 l7 y7 z7 N0 N7q (C := 0) (S' := 0) rfl rfl
        refine own_thr (a := T7.setTop (mkF m 48 #[.val (.long q0), .second, .val (.int p1), .val (.int p2), .val (.int (p1 &&& (3 : Int32))), .unset, .unset] [(.long (f_rmB (((p2.toUInt32 >>> ((4 : Int32) &&& 31).toUInt32).toInt32) &&& (7 : Int32))))])) (fun t kt => st7 t kt) ?_
        refine own_thr (a := T7.setTop (mkF m 69 #[.val (.long q0), .second, .val (.int p1), .val (.int p2), .val (.int (p1 &&& (3 : Int32))), .val (.long ((f_rmB (((p2.toUInt32 >>> ((4 : Int32) &&& 31).toUInt32).toInt32) &&& (7 : Int32))) + (((p2 &&& (15 : Int32)) - (8 : Int32)).toInt64))), .second] [])) (fun t kt => ?_) ?_
        · show Steps p.tables e below (T7.setTop (mkF m 48 #[.val (.long q0), .second, .val (.int p1), .val (.int p2), .val (.int (p1 &&& (3 : Int32))), .unset, .unset] [(.long (f_rmB (((p2.toUInt32 >>> ((4 : Int32) &&& 31).toUInt32).toInt32) &&& (7 : Int32))))])) _
          refine XS.iloadN X7.here hx rfl (hb hby at_48) rfl ?_
          show Steps p.tables e below (T7.setTop (mkF m 49 #[.val (.long q0), .second, .val (.int p1), .val (.int p2), .val (.int (p1 &&& (3 : Int32))), .unset, .unset] [(.int p2), (.long (f_rmB (((p2.toUInt32 >>> ((4 : Int32) &&& 31).toUInt32).toInt32) &&& (7 : Int32))))])) _
          refine XS.bipush X7.here hx rfl (hb hby at_49) ?_
          show Steps p.tables e below (T7.setTop (mkF m 51 #[.val (.long q0), .second, .val (.int p1), .val (.int p2), .val (.int (p1 &&& (3 : Int32))), .unset, .unset] [(.int (15 : Int32)), (.int p2), (.long (f_rmB (((p2.toUInt32 >>> ((4 : Int32) &&& 31).toUInt32).toInt32) &&& (7 : Int32))))])) _
          refine XS.iand X7.here hx rfl (hb hby at_51) rfl ?_
          show Steps p.tables e below (T7.setTop (mkF m 52 #[.val (.long q0), .second, .val (.int p1), .val (.int p2), .val (.int (p1 &&& (3 : Int32))), .unset, .unset] [(.int (p2 &&& (15 : Int32))), (.long (f_rmB (((p2.toUInt32 >>> ((4 : Int32) &&& 31).toUInt32).toInt32) &&& (7 : Int32))))])) _
          refine XS.bipush X7.here hx rfl (hb hby at_52) ?_
          show Steps p.tables e below (T7.setTop (mkF m 54 #[.val (.long q0), .second, .val (.int p1), .val (.int p2), .val (.int (p1 &&& (3 : Int32))), .unset, .unset] [(.int (8 : Int32)), (.int (p2 &&& (15 : Int32))), (.long (f_rmB (((p2.toUInt32 >>> ((4 : Int32) &&& 31).toUInt32).toInt32) &&& (7 : Int32))))])) _
          refine XS.isub X7.here hx rfl (hb hby at_54) rfl ?_
          show Steps p.tables e below (T7.setTop (mkF m 55 #[.val (.long q0), .second, .val (.int p1), .val (.int p2), .val (.int (p1 &&& (3 : Int32))), .unset, .unset] [(.int ((p2 &&& (15 : Int32)) - (8 : Int32))), (.long (f_rmB (((p2.toUInt32 >>> ((4 : Int32) &&& 31).toUInt32).toInt32) &&& (7 : Int32))))])) _
          refine XS.i2l X7.here hx rfl (hb hby at_55) rfl ?_
          show Steps p.tables e below (T7.setTop (mkF m 56 #[.val (.long q0), .second, .val (.int p1), .val (.int p2), .val (.int (p1 &&& (3 : Int32))), .unset, .unset] [(.long (((p2 &&& (15 : Int32)) - (8 : Int32)).toInt64)), (.long (f_rmB (((p2.toUInt32 >>> ((4 : Int32) &&& 31).toUInt32).toInt32) &&& (7 : Int32))))])) _
          refine XS.ladd X7.here hx rfl (hb hby at_56) rfl ?_
          show Steps p.tables e below (T7.setTop (mkF m 57 #[.val (.long q0), .second, .val (.int p1), .val (.int p2), .val (.int (p1 &&& (3 : Int32))), .unset, .unset] [(.long ((f_rmB (((p2.toUInt32 >>> ((4 : Int32) &&& 31).toUInt32).toInt32) &&& (7 : Int32))) + (((p2 &&& (15 : Int32)) - (8 : Int32)).toInt64)))])) _
          refine XS.lstore X7.here hx rfl (hb hby at_57) rfl (l' := #[.val (.long q0), .second, .val (.int p1), .val (.int p2), .val (.int (p1 &&& (3 : Int32))), .val (.long ((f_rmB (((p2.toUInt32 >>> ((4 : Int32) &&& 31).toUInt32).toInt32) &&& (7 : Int32))) + (((p2 &&& (15 : Int32)) - (8 : Int32)).toInt64))), .second]) rfl ?_
          show Steps p.tables e below (T7.setTop (mkF m 59 #[.val (.long q0), .second, .val (.int p1), .val (.int p2), .val (.int (p1 &&& (3 : Int32))), .val (.long ((f_rmB (((p2.toUInt32 >>> ((4 : Int32) &&& 31).toUInt32).toInt32) &&& (7 : Int32))) + (((p2 &&& (15 : Int32)) - (8 : Int32)).toInt64))), .second] [])) _
          refine XS.goto X7.here hx rfl (pc0 := 59) (pc' := 69) rfl (hb hby at_59) (by decide) (by decide) ?_
          exact kt
        exact jn69 _ _ X7 N7 e7 ((f_rmB (((p2.toUInt32 >>> ((4 : Int32) &&& 31).toUInt32).toInt32) &&& (7 : Int32))) + (((p2 &&& (15 : Int32)) - (8 : Int32)).toInt64))
      · refine own_thr (a := s₁.setTop (mkF m 69 #[.val (.long q0), .second, .val (.int p1), .val (.int p2), .val (.int (p1 &&& (3 : Int32))), .val (.long (q0 &&& (33554431 : Int64))), .second] [])) (fun t kt => ?_) ?_
        · show Steps p.tables e below (s₁.setTop (mkF m 36 #[.val (.long q0), .second, .val (.int p1), .val (.int p2), .val (.int (p1 &&& (3 : Int32))), .unset, .unset] [(.int (2 : Int32)), (.int (p1 &&& (3 : Int32)))])) _
          refine XS.icmpYes X0.here hx rfl (pc0 := 36) (pc' := 62) rfl (hb hby at_36) rfl (feq hc6).2 (by decide) (by decide) ?_
          show Steps p.tables e below (s₁.setTop (mkF m 62 #[.val (.long q0), .second, .val (.int p1), .val (.int p2), .val (.int (p1 &&& (3 : Int32))), .unset, .unset] [])) _
          refine XS.lloadN X0.here hx rfl (hb hby at_62) rfl ?_
          show Steps p.tables e below (s₁.setTop (mkF m 63 #[.val (.long q0), .second, .val (.int p1), .val (.int p2), .val (.int (p1 &&& (3 : Int32))), .unset, .unset] [(.long q0)])) _
          refine X0.ldc2Long hx hown (mvT hZ (hw _ (List.mem_of_getElem? (i := 28) rfl))) (g := (mkF m 63 #[.val (.long q0), .second, .val (.int p1), .val (.int p2), .val (.int (p1 &&& (3 : Int32))), .unset, .unset] [(.long q0)])) rfl (hb hby at_63) _ ?_
          show Steps p.tables e below (s₁.setTop (mkF m 66 #[.val (.long q0), .second, .val (.int p1), .val (.int p2), .val (.int (p1 &&& (3 : Int32))), .unset, .unset] [(.long (33554431 : Int64)), (.long q0)])) _
          refine XS.land X0.here hx rfl (hb hby at_66) rfl ?_
          show Steps p.tables e below (s₁.setTop (mkF m 67 #[.val (.long q0), .second, .val (.int p1), .val (.int p2), .val (.int (p1 &&& (3 : Int32))), .unset, .unset] [(.long (q0 &&& (33554431 : Int64)))])) _
          refine XS.lstore X0.here hx rfl (hb hby at_67) rfl (l' := #[.val (.long q0), .second, .val (.int p1), .val (.int p2), .val (.int (p1 &&& (3 : Int32))), .val (.long (q0 &&& (33554431 : Int64))), .second]) rfl ?_
          exact kt
        exact jn69 _ _ X0 N0 e0 (q0 &&& (33554431 : Int64))
set_option maxRecDepth 65536 in
set_option maxHeartbeats 40000000 in
theorem comes_1 {Post : Tables → Env → Array Value → State → Outcome → State → Prop} (hpost : ∀ tb e args s v u, (limb_1_1.after args s (.returned v) u = true ∧ limb_1_2.after args s (.returned v) u = true ∧ True) → FrameEnd s (.returned v) u (Jvm.fieldLocs frame_1_writes args s ++ Jvm.arrayLocs frame_1_arrays args s ++ Jvm.staticLocs frame_1_statics s) 0 0 → Post tb e args s (.returned v) u) :
    ArmFor flags0 classFile x code maxLocals ret World_1 tables_1 room_1 Calls_1 rest_1 Pre_1 Post := by
  intro l hfl _ _ p e ha hc hk s m args below hf hA hF happ hP
  obtain ⟨hcalls, hrest, hpre⟩ := hP
  obtain ⟨-, -, -, hnamed, -, -, -, hat⟩ := (Spec.applies_iff hf).mp happ
  obtain ⟨hg, hn⟩ := and_e (Cond.before_iff.mp (show (Jvm.Cond.and given_1 narrow_1).before args s = true from hpre))
  obtain ⟨g1, g2⟩ := and_e hg
  obtain ⟨g3, g4⟩ := and_e g2
  obtain ⟨g5, g6⟩ := and_e g4
  obtain ⟨w0, w1, w2, rfl⟩ : ∃ w0 w1 w2 : Value, args = #[w0, w1, w2] := by
    have hs : args.size = 3 := by simpa [Cond.value, given_1] using g1
    obtain ⟨L⟩ := args
    match L, hs with
    | [w0, w1, w2], _ => exact ⟨w0, w1, w2, rfl⟩
  have hw := fun d (hd : d ∈ tables_1) => atoms_spec (ws := Jvm.Cond.code x code maxLocals ret :: tables_1) hat d (List.mem_cons_of_mem _ hd)
  have hfit : Fit s := fun {y c} hc i hi => by
    obtain ⟨ha, rfl⟩ := Array.getElem?_eq_some_iff.mp hc
    have q := List.all_eq_true.mp ((Array.all_eq_true_iff_forall_mem.mp hF) _ (Array.getElem_mem ha)) i (List.mem_range.mpr hi)
    simpa [Array.getElem?_eq_getElem hi] using q
  obtain ⟨i0, ei0⟩ := isL_v g3
  obtain rfl : w0 = (.long i0) := Option.some.inj ei0
  obtain ⟨i1, ei1⟩ := is_v g5
  obtain rfl : w1 = (.int i1) := Option.some.inj ei1
  obtain ⟨i2, ei2⟩ := is_v g6
  obtain rfl : w2 = (.int i2) := Option.some.inj ei2
  unfold narrow_1 at hn
  obtain ⟨m1, hn⟩ := and_e hn
  obtain ⟨m2, hn⟩ := and_e hn
  obtain ⟨m3, hn⟩ := and_e hn
  obtain ⟨m4, hn⟩ := and_e hn
  obtain ⟨x0, hn⟩ := and_e hn
  obtain ⟨x1, hn⟩ := and_e hn
  obtain ⟨x2, hn⟩ := and_e hn
  obtain ⟨x3, hn⟩ := and_e hn
  obtain ⟨x4, hn⟩ := and_e hn
  obtain ⟨x5, hn⟩ := and_e hn
  obtain ⟨x6, hn⟩ := and_e hn
  obtain ⟨x7, hn⟩ := and_e hn
  obtain ⟨x8, hn⟩ := and_e hn
  obtain ⟨x9, hn⟩ := and_e hn
  obtain ⟨x10, hn⟩ := and_e hn
  obtain ⟨x11, hn⟩ := and_e hn
  obtain ⟨x12, hn⟩ := and_e hn
  obtain ⟨x13, hn⟩ := and_e hn
  obtain ⟨x14, hn⟩ := and_e hn
  obtain ⟨x15, hn⟩ := and_e hn
  obtain ⟨x16, hn⟩ := and_e hn
  obtain ⟨x17, hn⟩ := and_e hn
  obtain ⟨x18, hn⟩ := and_e hn
  obtain ⟨x19, hn⟩ := and_e hn
  obtain ⟨x20, hn⟩ := and_e hn
  obtain ⟨x21, hn⟩ := and_e hn
  obtain ⟨x22, hn⟩ := and_e hn
  obtain ⟨x23, hn⟩ := and_e hn
  obtain ⟨x24, hn⟩ := and_e hn
  obtain ⟨x25, hn⟩ := and_e hn
  obtain ⟨x26, hn⟩ := and_e hn
  obtain ⟨x27, hn⟩ := and_e hn
  obtain ⟨x28, hn⟩ := and_e hn
  obtain ⟨x29, hn⟩ := and_e hn
  obtain ⟨x30, hn⟩ := and_e hn
  obtain ⟨x31, hn⟩ := and_e hn
  obtain ⟨x32, hn⟩ := and_e hn
  obtain ⟨x33, hn⟩ := and_e hn
  obtain ⟨x34, hn⟩ := and_e hn
  obtain ⟨x35, hn⟩ := and_e hn
  obtain ⟨x36, hn⟩ := and_e hn
  obtain ⟨x37, hn⟩ := and_e hn
  obtain ⟨x38, hn⟩ := and_e hn
  obtain ⟨x39, hn⟩ := and_e hn
  obtain ⟨x40, hn⟩ := and_e hn
  obtain ⟨x41, hn⟩ := and_e hn
  obtain ⟨x42, hn⟩ := and_e hn
  obtain ⟨x43, hn⟩ := and_e hn
  obtain ⟨x44, hn⟩ := and_e hn
  obtain ⟨x45, hn⟩ := and_e hn
  obtain ⟨x46, hn⟩ := and_e hn
  obtain ⟨x47, hn⟩ := and_e hn
  obtain ⟨x48, hn⟩ := and_e hn
  obtain ⟨x49, hn⟩ := and_e hn
  obtain ⟨x50, hn⟩ := and_e hn
  obtain ⟨x51, hn⟩ := and_e hn
  obtain ⟨x52, hn⟩ := and_e hn
  obtain ⟨x53, hn⟩ := and_e hn
  obtain ⟨x54, hn⟩ := and_e hn
  obtain ⟨x55, hn⟩ := and_e hn
  obtain ⟨x56, hn⟩ := and_e hn
  obtain ⟨x57, hn⟩ := and_e hn
  obtain ⟨x58, hn⟩ := and_e hn
  obtain ⟨x59, hn⟩ := and_e hn
  obtain ⟨x60, hn⟩ := and_e hn
  obtain ⟨x61, hn⟩ := and_e hn
  obtain ⟨x62, hn⟩ := and_e hn
  obtain ⟨x63, hn⟩ := and_e hn
  obtain ⟨x64, hn⟩ := and_e hn
  obtain ⟨u1, hn⟩ := and_e hn
  obtain ⟨u2, hn⟩ := and_e hn
  obtain ⟨u3, hn⟩ := and_e hn
  have u4 := hn
  obtain ⟨ca, eca⟩ := arr_v m1
  obtain ⟨cla, Aa⟩ := Arr.start eca m1
  obtain ⟨cb, ecb⟩ := arr_v m3
  obtain ⟨clb, Ab⟩ := Arr.start ecb m3
  have Sa : Sta s s.heap "com/example/lexint/lexint/LengthEncodedInt" "LAST_BY_LEADING_ZEROS" "[J" (.ref ca) := Sta.start eca (Or.inr ⟨(hw _ (List.mem_of_getElem? (i := 6) rfl)), (hw _ (List.mem_of_getElem? (i := 17) rfl))⟩)
  have Sb : Sta s s.heap "com/example/lexint/lexint/LengthEncodedInt" "LENGTH_BY_LEADING_ZEROS" "[B" (.ref cb) := Sta.start ecb (Or.inr ⟨(hw _ (List.mem_of_getElem? (i := 6) rfl)), (hw _ (List.mem_of_getElem? (i := 19) rfl))⟩)
  obtain ⟨la1, la2⟩ := own_len eca Aa m2
  obtain ⟨lb1, lb2⟩ := own_len ecb Ab m4
  have Va : Arv s s.heap ca cla.cls .long (65 : Int32) (own_last.map Value.long) (.long (0 : Int64)) := Arv.start hfit Aa la2 la1 (by decide) rfl ⟨own_elJ x0 eca Aa, own_elJ x1 eca Aa, own_elJ x2 eca Aa, own_elJ x3 eca Aa, own_elJ x4 eca Aa, own_elJ x5 eca Aa, own_elJ x6 eca Aa, own_elJ x7 eca Aa, own_elJ x8 eca Aa, own_elJ x9 eca Aa, own_elJ x10 eca Aa, own_elJ x11 eca Aa, own_elJ x12 eca Aa, own_elJ x13 eca Aa, own_elJ x14 eca Aa, own_elJ x15 eca Aa, own_elJ x16 eca Aa, own_elJ x17 eca Aa, own_elJ x18 eca Aa, own_elJ x19 eca Aa, own_elJ x20 eca Aa, own_elJ x21 eca Aa, own_elJ x22 eca Aa, own_elJ x23 eca Aa, own_elJ x24 eca Aa, own_elJ x25 eca Aa, own_elJ x26 eca Aa, own_elJ x27 eca Aa, own_elJ x28 eca Aa, own_elJ x29 eca Aa, own_elJ x30 eca Aa, own_elJ x31 eca Aa, own_elJ x32 eca Aa, own_elJ x33 eca Aa, own_elJ x34 eca Aa, own_elJ x35 eca Aa, own_elJ x36 eca Aa, own_elJ x37 eca Aa, own_elJ x38 eca Aa, own_elJ x39 eca Aa, own_elJ x40 eca Aa, own_elJ x41 eca Aa, own_elJ x42 eca Aa, own_elJ x43 eca Aa, own_elJ x44 eca Aa, own_elJ x45 eca Aa, own_elJ x46 eca Aa, own_elJ x47 eca Aa, own_elJ x48 eca Aa, own_elJ x49 eca Aa, own_elJ x50 eca Aa, own_elJ x51 eca Aa, own_elJ x52 eca Aa, own_elJ x53 eca Aa, own_elJ x54 eca Aa, own_elJ x55 eca Aa, own_elJ x56 eca Aa, own_elJ x57 eca Aa, own_elJ x58 eca Aa, own_elJ x59 eca Aa, own_elJ x60 eca Aa, own_elJ x61 eca Aa, own_elJ x62 eca Aa, own_elJ x63 eca Aa, own_elJ x64 eca Aa, trivial⟩
  have Vb : Arv s s.heap cb clb.cls .byte (65 : Int32) (own_lens.map Value.int) (.int (0 : Int32)) := Arv.start hfit Ab lb2 lb1 (by decide) rfl (own_hasL (own_lens) 0 (own_lb ecb Ab (own_lenN ecb Ab m4 65 rfl) u1 u2 u3 u4))
  obtain ⟨n, o, h1, h2, h3, _, L, rfl, ⟨rfl, N⟩, hq⟩ := rm0 l s _ hw tables_1 i0 i1 i2 ca cb _ _ s.heap s.heap.size (Nat.le_refl _) Sa Sb Va Vb p e ha hc hk s m _ below hf ((Spec.applies_iff_loose hf).mp happ).1 ⟨rfl, State.Warmed39.refl s, rfl⟩ trivial
  refine ⟨n, _, h1, h2, h3, hpost _ _ _ _ _ _ ⟨Cond.after_iff.mpr rfl, Cond.after_iff.mpr (eq_i res_at (Term.int_eval (1)) rfl), trivial⟩ ⟨hq.1, hq.2.1, (hq.2.2.sift fun y hy => Or.inr (N y hy)).mono (by decide) (by decide)⟩⟩
theorem main_1_1 : Claimed_1_1 := comes_1 fun _ _ _ _ _ _ h hF => ⟨h.1, hF⟩
theorem main_1_2 : Claimed_1_2 := comes_1 fun _ _ _ _ _ _ h hF => ⟨h.2.1, hF⟩
end Jvm.Pilot.@@N@@
namespace Jvm.Pilot.@@N@@
open Jvm Jvm.ClassFile Sem Op Lib Jvm.Free Jvm.Stand Jvm.Pilot.@@N@@.Jvm.D
/-! MADE BY PROGRAM (witnessworld.py) out of the Statement's table words and the real class files: 17 classes; the members and pool entries that the words name. The judged class is class 1, her method 3. -/
namespace start1
open Jvm.ClassFile
def u (s : String) : CpInfo := .utf8 (stringToUtf16 s)
/-- a pool by its gaps: so many unusable entries, then the entry; so many at the end -/
def gap : Nat → List CpInfo → List CpInfo
  | 0, r => r
  | n + 1, r => .unusable :: gap n r
def poolList (es : List (Nat × CpInfo)) (last : Nat) : List CpInfo := es.foldr (fun e r => gap e.1 (e.2 :: r)) (gap last [])
def pool (es : List (Nat × CpInfo)) (last : Nat) : Array CpInfo := ⟨poolList es last⟩
def fileOf (pool : Array CpInfo) (this : Nat) (attrs : Array Attribute := #[]) (ms : Array MethodInfo := #[]) (fl : Nat := 33) (sup : Nat := 0) (ifs : Array Nat := #[]) (fds : Array FieldInfo := #[]) : ClassFile where
  minorVersion := 0
  majorVersion := 65
  constantPool := pool
  accessFlags := fl
  thisClass := this
  superClass := sup
  interfaces := ifs
  fields := fds
  methods := ms
  attributes := attrs
def plain (name : String) (sup : Option ClassId) : Class where
  name := name
  kind := .ordinary
  loader := none
  accessFlags := 33
  super := sup
  interfaces := #[]
  cf := none
  fields := #[]
  methods := #[]
  instanceTypes := #[]
  staticTypes := #[]
  resolved := #[]
  callSites := []
  init := .initialized
  statics := none
  mirror := none

def pool0 : Array CpInfo := pool [(5, u "<init>"), (0, u "()V"), (1, .class_ 10), (1, u "java/lang/Object")] 113

def k0m0 : Method := { name := "<init>", desc := "()V", sig := { parameters := [], returnType := none }, accessFlags := 1, code := none }
/-- java/lang/Object -/
def k0 : Class := { plain "java/lang/Object" none with
  accessFlags := 33
  interfaces := #[]
  cf := some (fileOf pool0 8 #[] #[{ accessFlags := 1, nameIndex := 5, descriptorIndex := 6, attributes := #[] }] 33 0 #[] #[])
  fields := #[]
  methods := #[k0m0]
  instanceTypes := #[]
  staticTypes := #[]
  resolved := Array.replicate 124 none
  statics := none }

def pool1 : Array CpInfo := pool [(2, .class_ 4), (1, u "java/lang/Object"), (0, u "<init>"), (0, u "()V"), (0, .long 250), (1, .long 65535), (1, .long 16777215), (3, .long 9223372036854775807), (1, .long 255), (1, .long 4294967295), (1, .long 128), (1, .methodref 24 25), (0, .class_ 26), (0, .nameAndType 27 28), (0, u "com/example/lexint/lexint/LengthEncodedIntEncodedLengthPinLaw"), (0, u "base"), (0, u "(I)J"), (0, .long 33554431), (1, .methodref 32 33), (0, .class_ 34), (0, .nameAndType 35 36), (0, u "com/example/lexint/lexint/LengthEncodedInt"), (0, u "encodedLength"), (0, u "(J)I"), (0, .methodref 24 38), (0, .nameAndType 39 36), (0, u "expected"), (3, u "law"), (0, u "(JII)Z")] 2

def k1m0 : Method := { name := "<init>", desc := "()V", sig := { parameters := [], returnType := none }, accessFlags := 2, code := none }
def k1c1 : Code := { maxStack := 2, maxLocals := 1, code := method_2_code, exceptionTable := #[], attributes := #[] }
def k1m1 : Method := { name := "base", desc := "(I)J", sig := { parameters := [.int], returnType := some .long }, accessFlags := 10, code := some k1c1 }
def k1c2 : Code := { maxStack := 4, maxLocals := 2, code := method_3_code, exceptionTable := #[], attributes := #[] }
def k1m2 : Method := { name := "expected", desc := "(J)I", sig := { parameters := [.long], returnType := some .int }, accessFlags := 10, code := some k1c2 }
def k1c3 : Code := { maxStack := 4, maxLocals := 7, code := code, exceptionTable := #[], attributes := #[] }
def k1m3 : Method := { name := "law", desc := "(JII)Z", sig := { parameters := [.long, .int, .int], returnType := some .boolean }, accessFlags := 9, code := some k1c3 }
/-- com/example/lexint/lexint/LengthEncodedIntEncodedLengthPinLaw -/
def k1 : Class := { plain "com/example/lexint/lexint/LengthEncodedIntEncodedLengthPinLaw" (some 0) with
  accessFlags := 49
  interfaces := #[]
  cf := some (fileOf pool1 24 #[] #[{ accessFlags := 2, nameIndex := 5, descriptorIndex := 6, attributes := #[] }, { accessFlags := 10, nameIndex := 27, descriptorIndex := 28, attributes := #[] }, { accessFlags := 10, nameIndex := 39, descriptorIndex := 36, attributes := #[] }, { accessFlags := 9, nameIndex := 43, descriptorIndex := 44, attributes := #[] }] 49 2 #[] #[])
  fields := #[]
  methods := #[k1m0, k1m1, k1m2, k1m3]
  instanceTypes := #[]
  staticTypes := #[]
  resolved := Array.replicate 47 none
  statics := none }

def pool2 : Array CpInfo := pool [(4, .class_ 6), (1, u "java/lang/Object"), (0, u "<init>"), (0, u "()V"), (1, .class_ 12), (1, u "com/example/lexint/lexint/LengthEncodedInt"), (0, u "encodedLength"), (0, u "(J)I"), (59, .methodref 75 76), (0, .class_ 77), (0, .nameAndType 78 14), (0, u "java/lang/Long"), (0, u "numberOfLeadingZeros"), (0, .fieldref 10 80), (0, .nameAndType 81 82), (0, u "LAST_BY_LEADING_ZEROS"), (0, u "[J"), (0, .fieldref 10 84), (0, .nameAndType 85 86), (0, u "LENGTH_BY_LEADING_ZEROS"), (0, u "[B"), (37, u "MARK_BY_LENGTH"), (5, u "OWN_BYTE_MASK_BY_LENGTH"), (19, u "ONE_BYTE_MAX"), (0, u "I"), (2, u "THREE_BYTE_MAX"), (1, u "FOUR_BYTE_MAX"), (1, u "THREE_BYTE_MARK"), (1, u "FOUR_BYTE_MARK"), (1, u "NINE_BYTE_MARK"), (1, u "FILE_OR_NULL_MARK"), (1, u "ERROR_MARK"), (1, u "MAX_LENGTH")] 23

def k2m0 : Method := { name := "<init>", desc := "()V", sig := { parameters := [], returnType := none }, accessFlags := 2, code := none }
def k2c1 : Code := { maxStack := 4, maxLocals := 5, code := prog_2_method_9_code, exceptionTable := #[], attributes := #[] }
def k2m1 : Method := { name := "encodedLength", desc := "(J)I", sig := { parameters := [.long], returnType := some .int }, accessFlags := 9, code := some k2c1 }
/-- com/example/lexint/lexint/LengthEncodedInt -/
def k2 : Class := { plain "com/example/lexint/lexint/LengthEncodedInt" (some 0) with
  accessFlags := 49
  interfaces := #[]
  cf := some (fileOf pool2 10 #[] #[{ accessFlags := 2, nameIndex := 7, descriptorIndex := 8, attributes := #[] }, { accessFlags := 9, nameIndex := 13, descriptorIndex := 14, attributes := #[] }] 49 4 #[] #[{ accessFlags := 26, nameIndex := 150, descriptorIndex := 151, attributes := #[] }, { accessFlags := 26, nameIndex := 154, descriptorIndex := 151, attributes := #[] }, { accessFlags := 26, nameIndex := 156, descriptorIndex := 151, attributes := #[] }, { accessFlags := 26, nameIndex := 158, descriptorIndex := 151, attributes := #[] }, { accessFlags := 26, nameIndex := 160, descriptorIndex := 151, attributes := #[] }, { accessFlags := 26, nameIndex := 162, descriptorIndex := 151, attributes := #[] }, { accessFlags := 26, nameIndex := 164, descriptorIndex := 151, attributes := #[] }, { accessFlags := 26, nameIndex := 166, descriptorIndex := 151, attributes := #[] }, { accessFlags := 26, nameIndex := 168, descriptorIndex := 151, attributes := #[] }, { accessFlags := 26, nameIndex := 124, descriptorIndex := 82, attributes := #[] }, { accessFlags := 26, nameIndex := 130, descriptorIndex := 82, attributes := #[] }, { accessFlags := 26, nameIndex := 85, descriptorIndex := 86, attributes := #[] }, { accessFlags := 26, nameIndex := 81, descriptorIndex := 82, attributes := #[] }])
  fields := #[{ name := "ONE_BYTE_MAX", type := .int, accessFlags := 26, slot := 0, constantValue := 0 }, { name := "THREE_BYTE_MAX", type := .int, accessFlags := 26, slot := 1, constantValue := 0 }, { name := "FOUR_BYTE_MAX", type := .int, accessFlags := 26, slot := 2, constantValue := 0 }, { name := "THREE_BYTE_MARK", type := .int, accessFlags := 26, slot := 3, constantValue := 0 }, { name := "FOUR_BYTE_MARK", type := .int, accessFlags := 26, slot := 4, constantValue := 0 }, { name := "NINE_BYTE_MARK", type := .int, accessFlags := 26, slot := 5, constantValue := 0 }, { name := "FILE_OR_NULL_MARK", type := .int, accessFlags := 26, slot := 6, constantValue := 0 }, { name := "ERROR_MARK", type := .int, accessFlags := 26, slot := 7, constantValue := 0 }, { name := "MAX_LENGTH", type := .int, accessFlags := 26, slot := 8, constantValue := 0 }, { name := "MARK_BY_LENGTH", type := (.array .long), accessFlags := 26, slot := 9, constantValue := 0 }, { name := "OWN_BYTE_MASK_BY_LENGTH", type := (.array .long), accessFlags := 26, slot := 10, constantValue := 0 }, { name := "LENGTH_BY_LEADING_ZEROS", type := (.array .byte), accessFlags := 26, slot := 11, constantValue := 0 }, { name := "LAST_BY_LEADING_ZEROS", type := (.array .long), accessFlags := 26, slot := 12, constantValue := 0 }]
  methods := #[k2m0, k2m1]
  instanceTypes := #[]
  staticTypes := #[.int, .int, .int, .int, .int, .int, .int, .int, .int, (.array .long), (.array .long), (.array .byte), (.array .long)]
  resolved := Array.replicate 192 none
  statics := some 0 }

def pool3 : Array CpInfo := pool [(1, .class_ 2), (0, u "java/io/Serializable"), (0, .class_ 4), (0, u "java/lang/Object")] 2

/-- java/io/Serializable -/
def k3 : Class := { plain "java/io/Serializable" (some 0) with
  accessFlags := 1537
  interfaces := #[]
  cf := some (fileOf pool3 1 #[] #[] 1537 3 #[] #[])
  fields := #[]
  methods := #[]
  instanceTypes := #[]
  staticTypes := #[]
  resolved := Array.replicate 7 none
  statics := none }

def pool4 : Array CpInfo := pool [(2, .class_ 4), (1, u "java/lang/Object"), (0, u "<init>"), (0, u "()V"), (1, .class_ 10), (1, u "java/lang/Number"), (2, .class_ 14), (0, u "java/io/Serializable"), (0, u "serialVersionUID"), (0, u "J")] 20

def k4m0 : Method := { name := "<init>", desc := "()V", sig := { parameters := [], returnType := none }, accessFlags := 1, code := none }
/-- java/lang/Number -/
def k4 : Class := { plain "java/lang/Number" (some 0) with
  accessFlags := 1057
  interfaces := #[3]
  cf := some (fileOf pool4 8 #[] #[{ accessFlags := 1, nameIndex := 5, descriptorIndex := 6, attributes := #[] }] 1057 2 #[13] #[{ accessFlags := 26, nameIndex := 15, descriptorIndex := 16, attributes := #[] }])
  fields := #[{ name := "serialVersionUID", type := .long, accessFlags := 26, slot := 0, constantValue := 0 }]
  methods := #[k4m0]
  instanceTypes := #[]
  staticTypes := #[.long]
  resolved := Array.replicate 37 none
  statics := none }

def pool5 : Array CpInfo := pool [(1, .class_ 2), (0, u "java/lang/Comparable"), (0, .class_ 4), (0, u "java/lang/Object")] 7

/-- java/lang/Comparable -/
def k5 : Class := { plain "java/lang/Comparable" (some 0) with
  accessFlags := 1537
  interfaces := #[]
  cf := some (fileOf pool5 1 #[] #[] 1537 3 #[] #[])
  fields := #[]
  methods := #[]
  instanceTypes := #[]
  staticTypes := #[]
  resolved := Array.replicate 12 none
  statics := none }

def pool6 : Array CpInfo := pool [(1, .class_ 2), (0, u "java/lang/constant/Constable"), (0, .class_ 4), (0, u "java/lang/Object")] 6

/-- java/lang/constant/Constable -/
def k6 : Class := { plain "java/lang/constant/Constable" (some 0) with
  accessFlags := 1537
  interfaces := #[]
  cf := some (fileOf pool6 1 #[] #[] 1537 3 #[] #[])
  fields := #[]
  methods := #[]
  instanceTypes := #[]
  staticTypes := #[]
  resolved := Array.replicate 11 none
  statics := none }

def pool7 : Array CpInfo := pool [(1, .class_ 2), (0, u "java/lang/constant/ConstantDesc"), (0, .class_ 4), (0, u "java/lang/Object")] 32

/-- java/lang/constant/ConstantDesc -/
def k7 : Class := { plain "java/lang/constant/ConstantDesc" (some 0) with
  accessFlags := 1537
  interfaces := #[]
  cf := some (fileOf pool7 1 #[] #[] 1537 3 #[] #[])
  fields := #[]
  methods := #[]
  instanceTypes := #[]
  staticTypes := #[]
  resolved := Array.replicate 37 none
  statics := none }

def pool8 : Array CpInfo := pool [(1, .class_ 2), (0, u "java/lang/Long"), (15, .class_ 20), (1, u "java/lang/Integer"), (79, u "numberOfLeadingZeros"), (0, u "(J)I"), (133, .class_ 237), (1, u "java/lang/Long$LongCache"), (33, .class_ 272), (0, u "java/lang/Number"), (2, u "value"), (0, u "J"), (31, .methodref 18 309), (0, .nameAndType 100 310), (0, u "(I)I"), (50, u "TYPE"), (0, u "Ljava/lang/Class;"), (0, .class_ 364), (0, u "java/lang/Comparable"), (0, .class_ 366), (0, u "java/lang/constant/Constable"), (0, .class_ 368), (0, u "java/lang/constant/ConstantDesc"), (0, u "MIN_VALUE"), (1, u "MAX_VALUE"), (4, u "SIZE"), (0, u "I"), (1, u "BYTES"), (1, u "serialVersionUID")] 142

def k8c0 : Code := { maxStack := 3, maxLocals := 3, code := jdk_35_method_48_code, exceptionTable := #[], attributes := #[] }
def k8m0 : Method := { name := "numberOfLeadingZeros", desc := "(J)I", sig := { parameters := [.long], returnType := some .int }, accessFlags := 9, code := some k8c0 }
/-- java/lang/Long -/
def k8 : Class := { plain "java/lang/Long" (some 4) with
  accessFlags := 49
  interfaces := #[5, 6, 7]
  cf := some (fileOf pool8 1 #[.nestMembers #[235]] #[{ accessFlags := 9, nameIndex := 100, descriptorIndex := 101, attributes := #[] }] 49 271 #[363, 365, 367] #[{ accessFlags := 25, nameIndex := 369, descriptorIndex := 276, attributes := #[] }, { accessFlags := 25, nameIndex := 371, descriptorIndex := 276, attributes := #[] }, { accessFlags := 25, nameIndex := 361, descriptorIndex := 362, attributes := #[] }, { accessFlags := 18, nameIndex := 275, descriptorIndex := 276, attributes := #[] }, { accessFlags := 25, nameIndex := 376, descriptorIndex := 377, attributes := #[] }, { accessFlags := 25, nameIndex := 379, descriptorIndex := 377, attributes := #[] }, { accessFlags := 26, nameIndex := 381, descriptorIndex := 276, attributes := #[] }])
  fields := #[{ name := "MIN_VALUE", type := .long, accessFlags := 25, slot := 0, constantValue := 0 }, { name := "MAX_VALUE", type := .long, accessFlags := 25, slot := 1, constantValue := 0 }, { name := "TYPE", type := (.object "java/lang/Class"), accessFlags := 25, slot := 2, constantValue := 0 }, { name := "value", type := .long, accessFlags := 18, slot := 0, constantValue := 0 }, { name := "SIZE", type := .int, accessFlags := 25, slot := 3, constantValue := 0 }, { name := "BYTES", type := .int, accessFlags := 25, slot := 4, constantValue := 0 }, { name := "serialVersionUID", type := .long, accessFlags := 26, slot := 5, constantValue := 0 }]
  methods := #[k8m0]
  instanceTypes := #[.long]
  staticTypes := #[.long, .long, (.object "java/lang/Class"), .int, .int, .long]
  resolved := Array.replicate 524 none
  statics := none }

def pool9 : Array CpInfo := pool [(1, .class_ 2), (0, u "java/lang/Integer"), (16, u "digits"), (0, u "[C"), (32, u "numberOfLeadingZeros"), (0, u "(I)I"), (30, u "DigitOnes"), (0, u "[B"), (2, u "DigitTens"), (99, .class_ 190), (0, u "java/lang/Integer$IntegerCache"), (3, u "I"), (8, .class_ 204), (0, u "java/lang/Number"), (2, u "value"), (56, .integer 65536), (37, u "TYPE"), (0, u "Ljava/lang/Class;"), (0, .class_ 305), (0, u "java/lang/Comparable"), (0, .class_ 307), (0, u "java/lang/constant/Constable"), (0, .class_ 309), (0, u "java/lang/constant/ConstantDesc"), (0, u "MIN_VALUE"), (1, u "MAX_VALUE"), (3, u "SIZE"), (1, u "BYTES"), (1, u "serialVersionUID"), (0, u "J")] 131

def k9c0 : Code := { maxStack := 3, maxLocals := 2, code := jdk_33_method_47_code, exceptionTable := #[], attributes := #[] }
def k9m0 : Method := { name := "numberOfLeadingZeros", desc := "(I)I", sig := { parameters := [.int], returnType := some .int }, accessFlags := 9, code := some k9c0 }
/-- java/lang/Integer -/
def k9 : Class := { plain "java/lang/Integer" (some 4) with
  accessFlags := 49
  interfaces := #[5, 6, 7]
  cf := some (fileOf pool9 1 #[.nestMembers #[189]] #[{ accessFlags := 9, nameIndex := 53, descriptorIndex := 54, attributes := #[] }] 49 203 #[304, 306, 308] #[{ accessFlags := 25, nameIndex := 310, descriptorIndex := 194, attributes := #[] }, { accessFlags := 25, nameIndex := 312, descriptorIndex := 194, attributes := #[] }, { accessFlags := 25, nameIndex := 302, descriptorIndex := 303, attributes := #[] }, { accessFlags := 24, nameIndex := 19, descriptorIndex := 20, attributes := #[] }, { accessFlags := 24, nameIndex := 89, descriptorIndex := 86, attributes := #[] }, { accessFlags := 24, nameIndex := 85, descriptorIndex := 86, attributes := #[] }, { accessFlags := 18, nameIndex := 207, descriptorIndex := 194, attributes := #[] }, { accessFlags := 25, nameIndex := 316, descriptorIndex := 194, attributes := #[] }, { accessFlags := 25, nameIndex := 318, descriptorIndex := 194, attributes := #[] }, { accessFlags := 26, nameIndex := 320, descriptorIndex := 321, attributes := #[] }])
  fields := #[{ name := "MIN_VALUE", type := .int, accessFlags := 25, slot := 0, constantValue := 0 }, { name := "MAX_VALUE", type := .int, accessFlags := 25, slot := 1, constantValue := 0 }, { name := "TYPE", type := (.object "java/lang/Class"), accessFlags := 25, slot := 2, constantValue := 0 }, { name := "digits", type := (.array .char), accessFlags := 24, slot := 3, constantValue := 0 }, { name := "DigitTens", type := (.array .byte), accessFlags := 24, slot := 4, constantValue := 0 }, { name := "DigitOnes", type := (.array .byte), accessFlags := 24, slot := 5, constantValue := 0 }, { name := "value", type := .int, accessFlags := 18, slot := 0, constantValue := 0 }, { name := "SIZE", type := .int, accessFlags := 25, slot := 6, constantValue := 0 }, { name := "BYTES", type := .int, accessFlags := 25, slot := 7, constantValue := 0 }, { name := "serialVersionUID", type := .long, accessFlags := 26, slot := 8, constantValue := 0 }]
  methods := #[k9m0]
  instanceTypes := #[.int]
  staticTypes := #[.int, .int, (.object "java/lang/Class"), (.array .char), (.array .byte), (.array .byte), .int, .int, .long]
  resolved := Array.replicate 453 none
  statics := none }

def pool10 : Array CpInfo := pool [(1, u "java/lang/Cloneable"), (0, .class_ 1), (0, u "java/lang/Object"), (0, .class_ 3)] 3

/-- java/lang/Cloneable -/
def k10 : Class := { plain "java/lang/Cloneable" (some 0) with
  accessFlags := 1537
  interfaces := #[]
  cf := some (fileOf pool10 2 #[] #[] 1537 4 #[] #[])
  fields := #[]
  methods := #[]
  instanceTypes := #[]
  staticTypes := #[]
  resolved := Array.replicate 8 none
  statics := none }

/-- the primitive byte -/
def k11 : Class := { plain "byte" none with kind := .primitive 'B', accessFlags := 0x411 }
/-- [B -/
def k12 : Class := { plain "[B" (some 0) with kind := .array 11 .byte, interfaces := #[10, 3], accessFlags := 1041 }

/-- the primitive int -/
def k13 : Class := { plain "int" none with kind := .primitive 'I', accessFlags := 0x411 }
/-- [I -/
def k14 : Class := { plain "[I" (some 0) with kind := .array 13 .int, interfaces := #[10, 3], accessFlags := 1041 }

/-- the primitive long -/
def k15 : Class := { plain "long" none with kind := .primitive 'J', accessFlags := 0x411 }
/-- [J -/
def k16 : Class := { plain "[J" (some 0) with kind := .array 15 .long, interfaces := #[10, 3], accessFlags := 1041 }

def heap : Heap := #[{ cls := 2, slots := #[.int 0, .int 0, .int 0, .int 0, .int 0, .int 0, .int 0, .int 0, .int 0, .null, .null, .ref 2, .ref 1], vm := .statics 2 },
  { cls := 16, slots := #[.long (-1), .long (9223372036854775807), .long (4611686018427387903), .long (2305843009213693951), .long (1152921504606846975), .long (576460752303423487), .long (288230376151711743), .long (144115188075855871), .long (72057594037927935), .long (36028797018963967), .long (18014398509481983), .long (9007199254740991), .long (4503599627370495), .long (2251799813685247), .long (1125899906842623), .long (562949953421311), .long (281474976710655), .long (140737488355327), .long (70368744177663), .long (35184372088831), .long (17592186044415), .long (8796093022207), .long (4398046511103), .long (2199023255551), .long (1099511627775), .long (549755813887), .long (274877906943), .long (137438953471), .long (68719476735), .long (34359738367), .long (17179869183), .long (8589934591), .long (4294967295), .long (2147483647), .long (1073741823), .long (536870911), .long (268435455), .long (134217727), .long (67108863), .long (33554431), .long (16777215), .long (8388607), .long (4194303), .long (2097151), .long (1048575), .long (524287), .long (262143), .long (131071), .long (65535), .long (32767), .long (16383), .long (8191), .long (4095), .long (2047), .long (1023), .long (511), .long (250), .long (127), .long (63), .long (31), .long (15), .long (7), .long (3), .long (1), .long (0)], vm := .none },
  { cls := 12, slots := #[.int 9, .int 9, .int 9, .int 9, .int 9, .int 9, .int 9, .int 9, .int 9, .int 9, .int 9, .int 9, .int 9, .int 9, .int 9, .int 9, .int 9, .int 9, .int 9, .int 9, .int 9, .int 9, .int 9, .int 9, .int 9, .int 9, .int 9, .int 9, .int 9, .int 9, .int 9, .int 9, .int 9, .int 9, .int 9, .int 9, .int 9, .int 9, .int 9, .int 9, .int 4, .int 4, .int 4, .int 4, .int 4, .int 4, .int 4, .int 4, .int 3, .int 3, .int 3, .int 3, .int 3, .int 3, .int 3, .int 3, .int 1, .int 1, .int 1, .int 1, .int 1, .int 1, .int 1, .int 1, .int 1], vm := .none }]
def classes : Array Class := #[k0, k1, k2, k3, k4, k5, k6, k7, k8, k9, k10, k11, k12, k13, k14, k15, k16]
def interned : List (Array UInt16 × Addr) := []
def slotsUsed : Nat := 143
def theMethod : MethodId := ⟨1, 3⟩
def args0 : Array Value := #[.long 5, .int 3, .int 7]
def aboutOver (below : List Frame) : State where
  vm := { classes := classes, interned := interned.toArray }
  heap := heap
  slotsUsed := slotsUsed
  threads := #[{ frames := .invoking theMethod args0 :: below }]
def below0 : List Frame := [.native { method := ⟨0, 0⟩, args := #[] }]
def about1 : State := aboutOver below0
def p0 : Program := .bare "" "" ""
def e0 : Env := launch0.env 0 0 0
theorem w_frames : about1.frames = Frame.invoking theMethod args0 :: below0 := rfl
set_option maxRecDepth 65536 in
theorem w_args : argsFit about1.vm theMethod args0 = true := by decide +kernel
set_option maxRecDepth 65536 in
theorem w_heap : heapFits about1 = true := by decide +kernel
set_option maxRecDepth 65536 in
theorem w_runnable : about1.curStatus? = some .runnable := by decide +kernel
set_option maxRecDepth 65536 in
theorem w_alone : about1.alone = true := by decide +kernel
set_option maxRecDepth 65536 in
theorem w_named : about1.methodNamed? x = some theMethod := by decide +kernel
set_option maxRecDepth 65536 in
theorem w_hears : about1.hears theMethod below0 = true := by decide +kernel
set_option maxRecDepth 65536 in
theorem w_ripe : about1.ripe theMethod args0 below0 = true := by decide +kernel
theorem w_running : about1.status = .running := rfl
set_option maxRecDepth 65536 in
theorem w_room : about1.hasRoom e0.platform room_1 = true :=
  launch0.hasRoom_least _ room_1 (by decide +kernel) (by decide +kernel) (by decide +kernel) (by decide +kernel) (by decide +kernel) (by decide +kernel)
theorem allAtoms_all (ts : List Jvm.Cond) (a : Array Jvm.Value) (st : Jvm.State) : (allAtoms ts).before a st = ts.all (fun c => c.before a st) := by
  induction ts with
  | nil => rfl
  | cons c t ih =>
    show (Jvm.Cond.and c (allAtoms t)).before a st = _
    rw [Jvm.Cond.before_and, ih, List.all_cons]
def words1 : List Jvm.Cond := Jvm.Cond.code x code maxLocals ret :: tables_1
/-- a 'code' word, met by the world's own term for the bytes: nothing is compared byte by byte -/
theorem code_word {y : MethodName} {bytes : ByteArray} {mx : Nat} {rt : Option FieldType} {a : Array Value} {s : State} {m : MethodId} {meth : Method} {c : Code} (h1 : s.methodNamed? y = some m) (h2 : s.vm.method? m = some meth) (h3 : meth.code = some c) (h4 : c.code = bytes)
    (h5 : (c.maxLocals == mx && c.exceptionTable.isEmpty && decide (c.maxStack ≤ mostOperands) && decide (meth.sig.returnType = rt) && !meth.locks && decide (parseMethodDescriptor y.desc = some meth.sig)) = true) : (Jvm.Cond.code y bytes mx rt).before a s = true := by
  simp only [Bool.and_eq_true, beq_iff_eq, Bool.not_eq_true', decide_eq_true_eq] at h5
  obtain ⟨⟨⟨⟨⟨g1, g2⟩, g3⟩, g4⟩, g5⟩, g6⟩ := h5
  simp [Cond.before, Cond.holds, Cond.value, h1, h2, h3, h4, g1, g2, g3, g4, g5, g6]
def isCode : Jvm.Cond → Bool
  | .code _ _ _ _ => true
  | _ => false
theorem all_split {L : List Jvm.Cond} {P : Jvm.Cond → Bool} (h1 : L.all (fun c => isCode c || P c) = true) (h2 : ∀ c ∈ L.filter isCode, P c = true) : L.all P = true := by
  refine List.all_eq_true.mpr fun c hc => ?_
  have h := List.all_eq_true.mp h1 c hc
  rcases Bool.eq_false_or_eq_true (isCode c) with hi | hi
  · exact h2 c (List.mem_filter.mpr ⟨hc, hi⟩)
  · simpa [hi] using h
set_option maxRecDepth 65536 in
theorem w_c0 : (Jvm.Cond.code x code maxLocals ret).before args0 about1 = true := code_word (m := ⟨1, 3⟩) (meth := k1m3) (c := k1c3) (by decide +kernel) rfl rfl rfl (by decide +kernel)
set_option maxRecDepth 65536 in
theorem w_c1 : (Jvm.Cond.code ({ cls := "com/example/lexint/lexint/LengthEncodedIntEncodedLengthPinLaw", name := "base", desc := "(I)J" } : Jvm.MethodName) method_2_code (1 : Nat) (Option.some Jvm.ClassFile.FieldType.long)).before args0 about1 = true := code_word (m := ⟨1, 1⟩) (meth := k1m1) (c := k1c1) (by decide +kernel) rfl rfl rfl (by decide +kernel)
set_option maxRecDepth 65536 in
theorem w_c2 : (Jvm.Cond.code ({ cls := "com/example/lexint/lexint/LengthEncodedInt", name := "encodedLength", desc := "(J)I" } : Jvm.MethodName) prog_2_method_9_code (5 : Nat) (Option.some Jvm.ClassFile.FieldType.int)).before args0 about1 = true := code_word (m := ⟨2, 1⟩) (meth := k2m1) (c := k2c1) (by decide +kernel) rfl rfl rfl (by decide +kernel)
set_option maxRecDepth 65536 in
theorem w_c3 : (Jvm.Cond.code ({ cls := "java/lang/Long", name := "numberOfLeadingZeros", desc := "(J)I" } : Jvm.MethodName) jdk_35_method_48_code (3 : Nat) (Option.some Jvm.ClassFile.FieldType.int)).before args0 about1 = true := code_word (m := ⟨8, 0⟩) (meth := k8m0) (c := k8c0) (by decide +kernel) rfl rfl rfl (by decide +kernel)
set_option maxRecDepth 65536 in
theorem w_c4 : (Jvm.Cond.code ({ cls := "java/lang/Integer", name := "numberOfLeadingZeros", desc := "(I)I" } : Jvm.MethodName) jdk_33_method_47_code (2 : Nat) (Option.some Jvm.ClassFile.FieldType.int)).before args0 about1 = true := code_word (m := ⟨9, 0⟩) (meth := k9m0) (c := k9c0) (by decide +kernel) rfl rfl rfl (by decide +kernel)
set_option maxRecDepth 65536 in
theorem w_c5 : (Jvm.Cond.code ({ cls := "com/example/lexint/lexint/LengthEncodedIntEncodedLengthPinLaw", name := "expected", desc := "(J)I" } : Jvm.MethodName) method_3_code (2 : Nat) (Option.some Jvm.ClassFile.FieldType.int)).before args0 about1 = true := code_word (m := ⟨1, 2⟩) (meth := k1m2) (c := k1c2) (by decide +kernel) rfl rfl rfl (by decide +kernel)
def codes1 : List Jvm.Cond := [Jvm.Cond.code x code maxLocals ret, Jvm.Cond.code ({ cls := "com/example/lexint/lexint/LengthEncodedIntEncodedLengthPinLaw", name := "base", desc := "(I)J" } : Jvm.MethodName) method_2_code (1 : Nat) (Option.some Jvm.ClassFile.FieldType.long), Jvm.Cond.code ({ cls := "com/example/lexint/lexint/LengthEncodedInt", name := "encodedLength", desc := "(J)I" } : Jvm.MethodName) prog_2_method_9_code (5 : Nat) (Option.some Jvm.ClassFile.FieldType.int), Jvm.Cond.code ({ cls := "java/lang/Long", name := "numberOfLeadingZeros", desc := "(J)I" } : Jvm.MethodName) jdk_35_method_48_code (3 : Nat) (Option.some Jvm.ClassFile.FieldType.int), Jvm.Cond.code ({ cls := "java/lang/Integer", name := "numberOfLeadingZeros", desc := "(I)I" } : Jvm.MethodName) jdk_33_method_47_code (2 : Nat) (Option.some Jvm.ClassFile.FieldType.int), Jvm.Cond.code ({ cls := "com/example/lexint/lexint/LengthEncodedIntEncodedLengthPinLaw", name := "expected", desc := "(J)I" } : Jvm.MethodName) method_3_code (2 : Nat) (Option.some Jvm.ClassFile.FieldType.int)]
set_option maxRecDepth 65536 in
theorem codes_eq : words1.filter isCode = codes1 := rfl
theorem w_codes : ∀ c ∈ words1.filter isCode, c.before args0 about1 = true := by
  rw [codes_eq]
  intro c hc
  simp only [codes1, List.mem_cons, List.not_mem_nil, or_false] at hc
  rcases hc with rfl | rfl | rfl | rfl | rfl | rfl
  · exact w_c0
  · exact w_c1
  · exact w_c2
  · exact w_c3
  · exact w_c4
  · exact w_c5
set_option maxRecDepth 65536 in
theorem w_t1 : (words1.take 24).all (fun c => isCode c || c.before args0 about1) = true := by decide +kernel
set_option maxRecDepth 65536 in
theorem w_t2 : (words1.drop 24).all (fun c => isCode c || c.before args0 about1) = true := by decide +kernel
theorem w_tables : (allAtoms (Jvm.Cond.code x code maxLocals ret :: tables_1)).before args0 about1 = true := by
  rw [allAtoms_all]
  show words1.all (fun c => c.before args0 about1) = true
  refine all_split ?_ w_codes
  rw [← List.take_append_drop 24 words1, List.all_append, w_t1, w_t2]
  rfl
set_option maxRecDepth 65536 in
theorem w_case : (Jvm.Cond.and given_1 narrow_1).before args0 about1 = true := by decide +kernel
theorem w_applies : (headSpec (Jvm.Cond.code x code maxLocals ret :: tables_1) room_1).applies x e0.platform about1 = true :=
  (Spec.applies_iff w_frames).mpr ⟨w_running, w_runnable, w_alone, w_named, w_hears, w_ripe, w_room, w_tables⟩
theorem atStart : AtStart classFile x code maxLocals ret World_1 tables_1 room_1 Calls_1 rest_1 Pre_1 launch0 p0 e0 about1 theMethod args0 below0 :=
  ⟨lists_1, trivial, launch0.admits_env _ _ _, launch0.least_env, fairChoices_fair.cas, fairChoices_fair.clock, w_frames, w_args, w_heap, w_applies, trivial, trivial, w_case⟩
end start1
theorem witness_1 : WitnessClaimed_1 := ⟨start1.p0, start1.e0, start1.about1, start1.theMethod, start1.args0, start1.below0, start1.atStart⟩
end Jvm.Pilot.@@N@@
