import JvmDerived
import JvmDerived.Pilot.@@N@@Statement
import JvmDerived.Pilot.@@N@@Code
set_option linter.unusedVariables false
set_option linter.unusedSimpArgs false
namespace Jvm.RoadKit
open Sem ClassFile Op Lib Jvm.Stand Jvm.Free Jvm.LawKit
section New
variable {p : Program} {l : Launch} {e : Env} {R : Room} {s : State} {m : MethodId} {args : Array Value} {below : List Frame} {meth : Method} {c : Code} {T : State} {locs : List Loc} {cells slots : Nat}
theorem retI (X : Stand p l e R s m args below meth c T locs cells slots) (hx : p.tables.exec = Jvm.exec) {pc : Nat} {Ls : Array Slot} {z : Int32} {rest : List Value} (hret : meth.sig.returnType = some .int) (hd : decode c.code pc = .ok (.ireturn, 1)) {fs : List Frame}
    (hl : ∀ (f : JFrame) (acts : List Action), f.method = m → f.locked = none → f.entered = [] → (doReturn e (T.setTop f) acts (some (.int z))).1 = T.setFrames fs) : Steps p.tables e below (T.setTop (mkF m pc Ls (.int z :: rest))) (T.setFrames fs) :=
  retOut X hx hret rfl (Or.inl ⟨rfl, Or.inl rfl, z, rfl⟩) hd hl
theorem retJ (X : Stand p l e R s m args below meth c T locs cells slots) (hx : p.tables.exec = Jvm.exec) {pc : Nat} {Ls : Array Slot} {z : Int64} {rest : List Value} (hret : meth.sig.returnType = some .long) (hd : decode c.code pc = .ok (.lreturn, 1)) {fs : List Frame}
    (hl : ∀ (f : JFrame) (acts : List Action), f.method = m → f.locked = none → f.entered = [] → (doReturn e (T.setTop f) acts (some (.long z))).1 = T.setFrames fs) : Steps p.tables e below (T.setTop (mkF m pc Ls (.long z :: rest))) (T.setFrames fs) :=
  retOut X hx hret rfl (Or.inr (Or.inl ⟨rfl, rfl, z, rfl⟩)) hd hl
theorem narA {t : FieldType} {w : Value} (ht : t.isReference = true) (hw : w.isRef = true) : narrow t w = w := by
  rcases ref_cases hw with rfl | ⟨z, rfl⟩ <;> cases t <;> first | rfl | (simp [FieldType.isReference] at ht)
theorem retA (X : Stand p l e R s m args below meth c T locs cells slots) (hx : p.tables.exec = Jvm.exec) {pc : Nat} {Ls : Array Slot} {t : FieldType} {w : Value} {rest : List Value} (hret : meth.sig.returnType = some t) (ht : t.isReference = true) (hw : w.isRef = true) (hd : decode c.code pc = .ok (.areturn, 1)) {fs : List Frame}
    (hl : ∀ (f : JFrame) (acts : List Action), f.method = m → f.locked = none → f.entered = [] → (doReturn e (T.setTop f) acts (some w)).1 = T.setFrames fs) : Steps p.tables e below (T.setTop (mkF m pc Ls (w :: rest))) (T.setFrames fs) :=
  retOut X hx hret (narA ht hw) (Or.inr (Or.inr (Or.inr (Or.inr ⟨rfl, ht, hw⟩)))) hd hl
theorem own_pack {n0 : Nat} {L Lc : List Loc} {k n rc rs C S' : Nat} (X : Stand p l e R s m args below meth c T L k n) (hl : L = locs ++ Lc) (hk : k = cells + rc) (hn : n = slots + rs) (N : Fr n0 locs) (Nq : Fr n0 Lc) (hC : cells + rc = C) (hS : slots + rs = S') : ∃ lc, Stand p l e R s m args below meth c T lc C S' ∧ Fr n0 lc := by
  subst hl hk hn hC hS; exact ⟨_, X, N.app Nq⟩
theorem own_pack1 {n0 : Nat} {a : Addr} {sl : Nat} (X : Stand p l e R s m args below meth c T (locs ++ [⟨a, sl⟩]) cells slots) (N : Fr n0 locs) (q : n0 ≤ a) : ∃ lc, Stand p l e R s m args below meth c T lc cells slots ∧ Fr n0 lc := ⟨_, X, Fr.snoc X N q⟩
/-- the run from a comes to an end that Q allows -/
def own_G (tb : Tables) (e : Env) (below : List Frame) (s : State) (Q : Option Value → Heap → List Loc → Prop) (C S : Nat) (a : State) : Prop :=
  ∃ (t : State) (o : Outcome), Steps tb e below a t ∧ t.status = .running ∧ Ended t below o ∧ ∃ v L, o = .returned v ∧ Q v t.heap L ∧ FrameEnd s o t L C S
theorem own_thr {tb : Tables} {Q : Option Value → Heap → List Loc → Prop} {C S : Nat} {a b : State} (h : ∀ t, Steps tb e below a t → Steps tb e below b t) (g : own_G tb e below s Q C S a) : own_G tb e below s Q C S b := by
  obtain ⟨t, o, h1, h2⟩ := g; exact ⟨t, o, h t h1, h2⟩
theorem own_end (X : Stand p l e R s m args below meth c T locs cells slots) (hlk : meth.locks = false) {v : Option Value} (hv : meth.sig.returnType = none → v = none) {g : JFrame} {Q : Option Value → Heap → List Loc → Prop} {C S : Nat}
    (hr : ∀ fs, (∀ (f : JFrame) (acts : List Action), f.method = m → f.locked = none → f.entered = [] → (doReturn e (T.setTop f) acts v).1 = T.setFrames fs) → Steps p.tables e below (T.setTop g) (T.setFrames fs))
    (hQ : Q v T.heap locs) (hC : cells ≤ C) (hS : slots ≤ S) : own_G p.tables e below s Q C S (T.setTop g) := by
  obtain ⟨fs, hr', hrun, hended, hW, hsame⟩ := X.leave (v := v) hv hlk
  exact ⟨_, _, hr fs hr', hrun, hended, _, _, rfl, hQ, ⟨_, rfl⟩, hW, hsame.mono hC hS⟩
def own_GW (tb : Tables) (e : Env) (below : List Frame) (s : State) (Q : Option Value → Heap → List Loc → Prop) (C S : Nat) (a : State) : Prop :=
  ∃ (t : State) (o : Outcome), Steps tb e below a t ∧ t.status = .running ∧ Ended t below o ∧ ∃ v L, o = .returned v ∧ Q v t.heap L ∧ ReturnedEndW s o t L C S
theorem own_thrW {tb : Tables} {Q : Option Value → Heap → List Loc → Prop} {C S : Nat} {a b : State} (h : ∀ t, Steps tb e below a t → Steps tb e below b t) (g : own_GW tb e below s Q C S a) : own_GW tb e below s Q C S b := by
  obtain ⟨t, o, h1, h2⟩ := g; exact ⟨t, o, h t h1, h2⟩
theorem own_endW {vm₁ : Vm} {k : Nat} (X : Stand p l e R (s.setVm vm₁) m args below meth c T locs cells slots) (hS : s.Since vm₁ k) (hk : k ≤ T.heap.size) (hlk : meth.locks = false) {v : Option Value} (hv : meth.sig.returnType = none → v = none) {g : JFrame} {Q : Option Value → Heap → List Loc → Prop} {C S : Nat}
    (hr : ∀ fs, (∀ (f : JFrame) (acts : List Action), f.method = m → f.locked = none → f.entered = [] → (doReturn e (T.setTop f) acts v).1 = T.setFrames fs) → Steps p.tables e below (T.setTop g) (T.setFrames fs))
    (hQ : Q v T.heap locs) (hC : cells ≤ C) (hSl : slots ≤ S) : own_GW p.tables e below s Q C S (T.setTop g) := by
  obtain ⟨fs, hr', hrun, hended, hret, hW, hint, hsame⟩ := X.leaveW hS hk (v := v) hv hlk
  exact ⟨_, _, hr fs hr', hrun, hended, _, _, rfl, hQ, ⟨_, rfl⟩, hW, hint, hsame.mono hC hSl⟩
end New
end Jvm.RoadKit
namespace Jvm.Pilot.@@N@@
open Jvm Jvm.ClassFile Sem Op Lib Jvm.Free Jvm.Stand Jvm.LawKit Jvm.RoadKit Bundle Jvm.Pilot.@@N@@.Jvm.D
theorem d1_0 : decode method_2_code 0 = .ok (.iload_n 2, 1) := by decide +kernel
theorem d1_1 : decode method_2_code 1 = .ok (.iload_n 3, 1) := by decide +kernel
theorem d1_2 : decode method_2_code 2 = .ok (.iushr, 1) := by decide +kernel
theorem d1_3 : decode method_2_code 3 = .ok (.iconst 1, 1) := by decide +kernel
theorem d1_4 : decode method_2_code 4 = .ok (.iand, 1) := by decide +kernel
theorem d1_5 : decode method_2_code 5 = .ok (.ifCond .eq 8, 3) := by decide +kernel
theorem d1_13 : decode method_2_code 13 = .ok (.lload_n 0, 1) := by decide +kernel
theorem d1_14 : decode method_2_code 14 = .ok (.bipush 8, 2) := by decide +kernel
theorem d1_16 : decode method_2_code 16 = .ok (.iload_n 3, 1) := by decide +kernel
theorem d1_17 : decode method_2_code 17 = .ok (.imul, 1) := by decide +kernel
theorem d1_18 : decode method_2_code 18 = .ok (.lushr, 1) := by decide +kernel
theorem d1_19 : decode method_2_code 19 = .ok (.l2i, 1) := by decide +kernel
theorem d1_20 : decode method_2_code 20 = .ok (.i2b, 1) := by decide +kernel
theorem d1_21 : decode method_2_code 21 = .ok (.ireturn, 1) := by decide +kernel
theorem d1_8 : decode method_2_code 8 = .ok (.bipush 10, 2) := by decide +kernel
theorem d1_10 : decode method_2_code 10 = .ok (.goto 11, 3) := by decide +kernel
theorem pn_com_example_tideline_tideline_store_CommitLogLinesPinLaw : plainName "com/example/tideline/tideline/store/CommitLogLinesPinLaw" = true := by first | (simp [plainName, overriddenIn]; done) | decide +kernel
theorem ef_rmA (m : MethodId) (q0 : Int64) (p1 : Int32) (p2 : Int32)  : entryFrame m #[(.long q0), (.int p1), (.int p2)] 4 = mkF m 0 #[.val (.long q0), .second, .val (.int p1), .val (.int p2)] [] := by first |  (simp [entryFrame, mkF, argsToLocals, Value.category]; done) | rfl
def f_rmA (q0 : Int64) (p1 : Int32) (p2 : Int32) : Int32 := if (((p1.toUInt32 >>> (p2 &&& 31).toUInt32).toInt32) &&& (1 : Int32)) = (0 : Int32) then (nar .byte ((((q0.toUInt64 >>> (((8 : Int32) * p2) &&& 0x3f).toInt64.toUInt64).toInt64).toInt32).toInt8.toInt32)) else (10 : Int32)
def Q_rmA (Z : State) (q0 : Int64) (p1 : Int32) (p2 : Int32) (h0 : Heap) (n0 : Nat) (v : Option Value) (h : Heap) (L : List Loc) : Prop := v = some (.int (f_rmA q0 p1 p2)) ∧ Fr n0 L ∧ h = h0
set_option maxRecDepth 65536 in
set_option maxHeartbeats 40000000 in
theorem rmA (l : Launch) (Z : State) (a0 : Array Value) (hw : ∀ d ∈ tables_1, d.before a0 Z = true) (ws : List Jvm.Cond) (q0 : Int64) (p1 : Int32) (p2 : Int32) (h0 : Heap) (n0 : Nat) (Z0 : n0 ≤ h0.size) :
    MetFree l (⟨"com/example/tideline/tideline/store/CommitLogLinesPinLaw", "at", "(JII)B"⟩ : MethodName) (head1 (Jvm.Cond.code (⟨"com/example/tideline/tideline/store/CommitLogLinesPinLaw", "at", "(JII)B"⟩ : MethodName) method_2_code 4 (some .byte) :: ws) ({ frames := 0, cells := 0, slots := 0, locals := 0 } : Room)) (fun a U => a = #[(.long q0), (.int p1), (.int p2)] ∧ Z.Warmed39 U.vm ∧ U.heap = h0) (fun _ _ _ _ _ => True) (fun _ U o U' => ∃ v L, o = .returned v ∧ Q_rmA Z q0 p1 p2 h0 n0 v U'.heap L ∧ FrameEnd U o U' L ({ frames := 0, cells := 0, slots := 0, locals := 0 } : Room).cells ({ frames := 0, cells := 0, slots := 0, locals := 0 } : Room).slots) := by
  refine MetFree.of_bodySF (plainFor_of_name pn_com_example_tideline_tideline_store_CommitLogLinesPinLaw) hisR ?_
  intro p e s m args below meth c s₁ Bd hml0 hP hK
  obtain ⟨rfl, hZ, hh⟩ := hP
  have hx := Bd.exec
  have hby := Bd.bytes
  have hml : c.maxLocals = 4 := hml0
  have hown : s.vm.findClass "com/example/tideline/tideline/store/CommitLogLinesPinLaw" = some m.cls := findClass_of_methodNamed Bd.named
  have hnm := (name_of_methodNamed Bd.named Bd.method).1
  have hlk := Bd.notSynchronized
  have X0 : Stand p l e ({ frames := 0, cells := 0, slots := 0, locals := 0 } : Room) s m #[(.long q0), (.int p1), (.int p2)] below meth c s₁ [] 0 0 := Stand.of_body Bd
  have e0 : s₁.heap = h0 := by rw [← hh, Bd.state]; rfl
  have N0 := Fr.nil n0
  show own_G p.tables e below s (Q_rmA Z q0 p1 p2 h0 n0) ({ frames := 0, cells := 0, slots := 0, locals := 0 } : Room).cells ({ frames := 0, cells := 0, slots := 0, locals := 0 } : Room).slots _
  refine own_thr (a := s₁.setTop (mkF m 0 #[.val (.long q0), .second, .val (.int p1), .val (.int p2)] [])) (fun t kt => castTop (ef_rmA m q0 p1 p2) kt) ?_
  refine own_thr (a := s₁.setTop (mkF m 5 #[.val (.long q0), .second, .val (.int p1), .val (.int p2)] [(.int (((p1.toUInt32 >>> (p2 &&& 31).toUInt32).toInt32) &&& (1 : Int32)))])) (fun t kt => ?_) ?_
  · show Steps p.tables e below (s₁.setTop (mkF m 0 #[.val (.long q0), .second, .val (.int p1), .val (.int p2)] [])) _
    refine XS.iloadN X0.here hx rfl (hb hby d1_0) rfl ?_
    show Steps p.tables e below (s₁.setTop (mkF m 1 #[.val (.long q0), .second, .val (.int p1), .val (.int p2)] [(.int p1)])) _
    refine XS.iloadN X0.here hx rfl (hb hby d1_1) rfl ?_
    show Steps p.tables e below (s₁.setTop (mkF m 2 #[.val (.long q0), .second, .val (.int p1), .val (.int p2)] [(.int p2), (.int p1)])) _
    refine XS.iushr X0.here hx rfl (hb hby d1_2) rfl ?_
    show Steps p.tables e below (s₁.setTop (mkF m 3 #[.val (.long q0), .second, .val (.int p1), .val (.int p2)] [(.int ((p1.toUInt32 >>> (p2 &&& 31).toUInt32).toInt32))])) _
    refine XS.iconst X0.here hx rfl (hb hby d1_3) ?_
    show Steps p.tables e below (s₁.setTop (mkF m 4 #[.val (.long q0), .second, .val (.int p1), .val (.int p2)] [(.int (1 : Int32)), (.int ((p1.toUInt32 >>> (p2 &&& 31).toUInt32).toInt32))])) _
    refine XS.iand X0.here hx rfl (hb hby d1_4) rfl ?_
    exact kt
  by_cases hc1 : (((p1.toUInt32 >>> (p2 &&& 31).toUInt32).toInt32) &&& (1 : Int32)) = (0 : Int32)
  · refine own_thr (a := s₁.setTop (mkF m 21 #[.val (.long q0), .second, .val (.int p1), .val (.int p2)] [(.int ((((q0.toUInt64 >>> (((8 : Int32) * p2) &&& 0x3f).toInt64.toUInt64).toInt64).toInt32).toInt8.toInt32))])) (fun t kt => ?_) ?_
    · show Steps p.tables e below (s₁.setTop (mkF m 5 #[.val (.long q0), .second, .val (.int p1), .val (.int p2)] [(.int (((p1.toUInt32 >>> (p2 &&& 31).toUInt32).toInt32) &&& (1 : Int32)))])) _
      refine XS.ifYes X0.here hx rfl (pc0 := 5) (pc' := 13) rfl (hb hby d1_5) rfl ((if0 _ _).trans (teq hc1).1) (by decide) (by decide) ?_
      show Steps p.tables e below (s₁.setTop (mkF m 13 #[.val (.long q0), .second, .val (.int p1), .val (.int p2)] [])) _
      refine XS.lloadN X0.here hx rfl (hb hby d1_13) rfl ?_
      show Steps p.tables e below (s₁.setTop (mkF m 14 #[.val (.long q0), .second, .val (.int p1), .val (.int p2)] [(.long q0)])) _
      refine XS.bipush X0.here hx rfl (hb hby d1_14) ?_
      show Steps p.tables e below (s₁.setTop (mkF m 16 #[.val (.long q0), .second, .val (.int p1), .val (.int p2)] [(.int (8 : Int32)), (.long q0)])) _
      refine XS.iloadN X0.here hx rfl (hb hby d1_16) rfl ?_
      show Steps p.tables e below (s₁.setTop (mkF m 17 #[.val (.long q0), .second, .val (.int p1), .val (.int p2)] [(.int p2), (.int (8 : Int32)), (.long q0)])) _
      refine XS.imul X0.here hx rfl (hb hby d1_17) rfl ?_
      show Steps p.tables e below (s₁.setTop (mkF m 18 #[.val (.long q0), .second, .val (.int p1), .val (.int p2)] [(.int ((8 : Int32) * p2)), (.long q0)])) _
      refine XS.lushr X0.here hx rfl (hb hby d1_18) rfl ?_
      show Steps p.tables e below (s₁.setTop (mkF m 19 #[.val (.long q0), .second, .val (.int p1), .val (.int p2)] [(.long ((q0.toUInt64 >>> (((8 : Int32) * p2) &&& 0x3f).toInt64.toUInt64).toInt64))])) _
      refine XS.l2i X0.here hx rfl (hb hby d1_19) rfl ?_
      show Steps p.tables e below (s₁.setTop (mkF m 20 #[.val (.long q0), .second, .val (.int p1), .val (.int p2)] [(.int (((q0.toUInt64 >>> (((8 : Int32) * p2) &&& 0x3f).toInt64.toUInt64).toInt64).toInt32))])) _
      refine XS.i2b X0.here hx rfl (hb hby d1_20) rfl ?_
      exact kt
    exact own_end X0 hlk (v := some (.int (nar .byte ((((q0.toUInt64 >>> (((8 : Int32) * p2) &&& 0x3f).toInt64.toUInt64).toInt64).toInt32).toInt8.toInt32)))) (fun h => by rw [Bd.returns] at h; cases h) (fun fs hr => retN X0 hx (t := .byte) Bd.returns (by simp) (hb hby d1_21) hr) (by rw [e0]; exact ⟨(by rw [f_rmA, if_pos hc1]), N0, rfl⟩) (by decide : 0 ≤ _) (by decide : 0 ≤ _)
  · refine own_thr (a := s₁.setTop (mkF m 21 #[.val (.long q0), .second, .val (.int p1), .val (.int p2)] [(.int (10 : Int32))])) (fun t kt => ?_) ?_
    · show Steps p.tables e below (s₁.setTop (mkF m 5 #[.val (.long q0), .second, .val (.int p1), .val (.int p2)] [(.int (((p1.toUInt32 >>> (p2 &&& 31).toUInt32).toInt32) &&& (1 : Int32)))])) _
      refine XS.ifNo X0.here hx rfl (hb hby d1_5) rfl ((if0 _ _).trans (feq hc1).1) ?_
      show Steps p.tables e below (s₁.setTop (mkF m 8 #[.val (.long q0), .second, .val (.int p1), .val (.int p2)] [])) _
      refine XS.bipush X0.here hx rfl (hb hby d1_8) ?_
      show Steps p.tables e below (s₁.setTop (mkF m 10 #[.val (.long q0), .second, .val (.int p1), .val (.int p2)] [(.int (10 : Int32))])) _
      refine XS.goto X0.here hx rfl (pc0 := 10) (pc' := 21) rfl (hb hby d1_10) (by decide) (by decide) ?_
      exact kt
    exact own_end X0 hlk (v := some (.int (10 : Int32))) (fun h => by rw [Bd.returns] at h; cases h) (fun fs hr => retN X0 hx (t := .byte) Bd.returns (by simp) (hb hby d1_21) hr) (by rw [e0]; exact ⟨(by rw [f_rmA, if_neg hc1]), N0, rfl⟩) (by decide : 0 ≤ _) (by decide : 0 ≤ _)
theorem d2_0 : decode method_3_code 0 = .ok (.iload_n 2, 1) := by decide +kernel
theorem d2_1 : decode method_3_code 1 = .ok (.iload_n 3, 1) := by decide +kernel
theorem d2_2 : decode method_3_code 2 = .ok (.iushr, 1) := by decide +kernel
theorem d2_3 : decode method_3_code 3 = .ok (.iconst 1, 1) := by decide +kernel
theorem d2_4 : decode method_3_code 4 = .ok (.iand, 1) := by decide +kernel
theorem d2_5 : decode method_3_code 5 = .ok (.ifCond .eq 7, 3) := by decide +kernel
theorem d2_12 : decode method_3_code 12 = .ok (.iconst 0, 1) := by decide +kernel
theorem d2_13 : decode method_3_code 13 = .ok (.istore 4, 2) := by decide +kernel
theorem d2_15 : decode method_3_code 15 = .ok (.lload_n 0, 1) := by decide +kernel
theorem d2_16 : decode method_3_code 16 = .ok (.bipush 8, 2) := by decide +kernel
theorem d2_18 : decode method_3_code 18 = .ok (.iload_n 3, 1) := by decide +kernel
theorem d2_19 : decode method_3_code 19 = .ok (.imul, 1) := by decide +kernel
theorem d2_20 : decode method_3_code 20 = .ok (.lushr, 1) := by decide +kernel
theorem d2_21 : decode method_3_code 21 = .ok (.ldc2_w 7, 3) := by decide +kernel
theorem d2_24 : decode method_3_code 24 = .ok (.land, 1) := by decide +kernel
theorem d2_25 : decode method_3_code 25 = .ok (.ldc2_w 9, 3) := by decide +kernel
theorem d2_28 : decode method_3_code 28 = .ok (.lcmp, 1) := by decide +kernel
theorem d2_29 : decode method_3_code 29 = .ok (.ifCond .ne 7, 3) := by decide +kernel
theorem d2_32 : decode method_3_code 32 = .ok (.iconst 1, 1) := by decide +kernel
theorem d2_33 : decode method_3_code 33 = .ok (.goto 4, 3) := by decide +kernel
theorem d2_37 : decode method_3_code 37 = .ok (.istore 5, 2) := by decide +kernel
theorem d2_39 : decode method_3_code 39 = .ok (.iload 4, 2) := by decide +kernel
theorem d2_41 : decode method_3_code 41 = .ok (.ifCond .ne 8, 3) := by decide +kernel
theorem d2_44 : decode method_3_code 44 = .ok (.iload 5, 2) := by decide +kernel
theorem d2_46 : decode method_3_code 46 = .ok (.ifCond .eq 7, 3) := by decide +kernel
theorem d2_49 : decode method_3_code 49 = .ok (.lconst 1, 1) := by decide +kernel
theorem d2_50 : decode method_3_code 50 = .ok (.goto 4, 3) := by decide +kernel
theorem d2_54 : decode method_3_code 54 = .ok (.lreturn, 1) := by decide +kernel
theorem d2_36 : decode method_3_code 36 = .ok (.iconst 0, 1) := by decide +kernel
theorem d2_53 : decode method_3_code 53 = .ok (.lconst 0, 1) := by decide +kernel
theorem d2_8 : decode method_3_code 8 = .ok (.iconst 1, 1) := by decide +kernel
theorem d2_9 : decode method_3_code 9 = .ok (.goto 4, 3) := by decide +kernel
theorem ef_rmW (m : MethodId) (q0 : Int64) (p1 : Int32) (p2 : Int32)  : entryFrame m #[(.long q0), (.int p1), (.int p2)] 6 = mkF m 0 #[.val (.long q0), .second, .val (.int p1), .val (.int p2), .unset, .unset] [] := by first |  (simp [entryFrame, mkF, argsToLocals, Value.category]; done) | rfl
def f_rmW (q0 : Int64) (p1 : Int32) (p2 : Int32) : Int64 := if (((p1.toUInt32 >>> (p2 &&& 31).toUInt32).toInt32) &&& (1 : Int32)) = (0 : Int32) then (if (((q0.toUInt64 >>> (((8 : Int32) * p2) &&& 0x3f).toInt64.toUInt64).toInt64) &&& (255 : Int64)) = (10 : Int64) then (1 : Int64) else (0 : Int64)) else if (((q0.toUInt64 >>> (((8 : Int32) * p2) &&& 0x3f).toInt64.toUInt64).toInt64) &&& (255 : Int64)) = (10 : Int64) then (1 : Int64) else (1 : Int64)
def Q_rmW (Z : State) (q0 : Int64) (p1 : Int32) (p2 : Int32) (h0 : Heap) (n0 : Nat) (v : Option Value) (h : Heap) (L : List Loc) : Prop := v = some (.long (f_rmW q0 p1 p2)) ∧ Fr n0 L ∧ h = h0
set_option maxRecDepth 65536 in
set_option maxHeartbeats 40000000 in
theorem rmW (l : Launch) (Z : State) (a0 : Array Value) (hw : ∀ d ∈ tables_1, d.before a0 Z = true) (ws : List Jvm.Cond) (q0 : Int64) (p1 : Int32) (p2 : Int32) (h0 : Heap) (n0 : Nat) (Z0 : n0 ≤ h0.size) :
    MetFree l (⟨"com/example/tideline/tideline/store/CommitLogLinesPinLaw", "want", "(JII)J"⟩ : MethodName) (head1 (Jvm.Cond.code (⟨"com/example/tideline/tideline/store/CommitLogLinesPinLaw", "want", "(JII)J"⟩ : MethodName) method_3_code 6 (some .long) :: ws) ({ frames := 0, cells := 0, slots := 0, locals := 0 } : Room)) (fun a U => a = #[(.long q0), (.int p1), (.int p2)] ∧ Z.Warmed39 U.vm ∧ U.heap = h0) (fun _ _ _ _ _ => True) (fun _ U o U' => ∃ v L, o = .returned v ∧ Q_rmW Z q0 p1 p2 h0 n0 v U'.heap L ∧ FrameEnd U o U' L ({ frames := 0, cells := 0, slots := 0, locals := 0 } : Room).cells ({ frames := 0, cells := 0, slots := 0, locals := 0 } : Room).slots) := by
  refine MetFree.of_bodySF (plainFor_of_name pn_com_example_tideline_tideline_store_CommitLogLinesPinLaw) hisR ?_
  intro p e s m args below meth c s₁ Bd hml0 hP hK
  obtain ⟨rfl, hZ, hh⟩ := hP
  have hx := Bd.exec
  have hby := Bd.bytes
  have hml : c.maxLocals = 6 := hml0
  have hown : s.vm.findClass "com/example/tideline/tideline/store/CommitLogLinesPinLaw" = some m.cls := findClass_of_methodNamed Bd.named
  have hnm := (name_of_methodNamed Bd.named Bd.method).1
  have hlk := Bd.notSynchronized
  have X0 : Stand p l e ({ frames := 0, cells := 0, slots := 0, locals := 0 } : Room) s m #[(.long q0), (.int p1), (.int p2)] below meth c s₁ [] 0 0 := Stand.of_body Bd
  have e0 : s₁.heap = h0 := by rw [← hh, Bd.state]; rfl
  have N0 := Fr.nil n0
  show own_G p.tables e below s (Q_rmW Z q0 p1 p2 h0 n0) ({ frames := 0, cells := 0, slots := 0, locals := 0 } : Room).cells ({ frames := 0, cells := 0, slots := 0, locals := 0 } : Room).slots _
  refine own_thr (a := s₁.setTop (mkF m 0 #[.val (.long q0), .second, .val (.int p1), .val (.int p2), .unset, .unset] [])) (fun t kt => castTop (ef_rmW m q0 p1 p2) kt) ?_
  refine own_thr (a := s₁.setTop (mkF m 5 #[.val (.long q0), .second, .val (.int p1), .val (.int p2), .unset, .unset] [(.int (((p1.toUInt32 >>> (p2 &&& 31).toUInt32).toInt32) &&& (1 : Int32)))])) (fun t kt => ?_) ?_
  · show Steps p.tables e below (s₁.setTop (mkF m 0 #[.val (.long q0), .second, .val (.int p1), .val (.int p2), .unset, .unset] [])) _
    refine XS.iloadN X0.here hx rfl (hb hby d2_0) rfl ?_
    show Steps p.tables e below (s₁.setTop (mkF m 1 #[.val (.long q0), .second, .val (.int p1), .val (.int p2), .unset, .unset] [(.int p1)])) _
    refine XS.iloadN X0.here hx rfl (hb hby d2_1) rfl ?_
    show Steps p.tables e below (s₁.setTop (mkF m 2 #[.val (.long q0), .second, .val (.int p1), .val (.int p2), .unset, .unset] [(.int p2), (.int p1)])) _
    refine XS.iushr X0.here hx rfl (hb hby d2_2) rfl ?_
    show Steps p.tables e below (s₁.setTop (mkF m 3 #[.val (.long q0), .second, .val (.int p1), .val (.int p2), .unset, .unset] [(.int ((p1.toUInt32 >>> (p2 &&& 31).toUInt32).toInt32))])) _
    refine XS.iconst X0.here hx rfl (hb hby d2_3) ?_
    show Steps p.tables e below (s₁.setTop (mkF m 4 #[.val (.long q0), .second, .val (.int p1), .val (.int p2), .unset, .unset] [(.int (1 : Int32)), (.int ((p1.toUInt32 >>> (p2 &&& 31).toUInt32).toInt32))])) _
    refine XS.iand X0.here hx rfl (hb hby d2_4) rfl ?_
    exact kt
  by_cases hc1 : (((p1.toUInt32 >>> (p2 &&& 31).toUInt32).toInt32) &&& (1 : Int32)) = (0 : Int32)
  · refine own_thr (a := s₁.setTop (mkF m 29 #[.val (.long q0), .second, .val (.int p1), .val (.int p2), .val (.int (0 : Int32)), .unset] [(.int (lcmpW (((q0.toUInt64 >>> (((8 : Int32) * p2) &&& 0x3f).toInt64.toUInt64).toInt64) &&& (255 : Int64)) (10 : Int64)))])) (fun t kt => ?_) ?_
    · show Steps p.tables e below (s₁.setTop (mkF m 5 #[.val (.long q0), .second, .val (.int p1), .val (.int p2), .unset, .unset] [(.int (((p1.toUInt32 >>> (p2 &&& 31).toUInt32).toInt32) &&& (1 : Int32)))])) _
      refine XS.ifYes X0.here hx rfl (pc0 := 5) (pc' := 12) rfl (hb hby d2_5) rfl ((if0 _ _).trans (teq hc1).1) (by decide) (by decide) ?_
      show Steps p.tables e below (s₁.setTop (mkF m 12 #[.val (.long q0), .second, .val (.int p1), .val (.int p2), .unset, .unset] [])) _
      refine XS.iconst X0.here hx rfl (hb hby d2_12) ?_
      show Steps p.tables e below (s₁.setTop (mkF m 13 #[.val (.long q0), .second, .val (.int p1), .val (.int p2), .unset, .unset] [(.int (0 : Int32))])) _
      refine XS.istore X0.here hx rfl (hb hby d2_13) rfl (l' := #[.val (.long q0), .second, .val (.int p1), .val (.int p2), .val (.int (0 : Int32)), .unset]) rfl ?_
      show Steps p.tables e below (s₁.setTop (mkF m 15 #[.val (.long q0), .second, .val (.int p1), .val (.int p2), .val (.int (0 : Int32)), .unset] [])) _
      refine XS.lloadN X0.here hx rfl (hb hby d2_15) rfl ?_
      show Steps p.tables e below (s₁.setTop (mkF m 16 #[.val (.long q0), .second, .val (.int p1), .val (.int p2), .val (.int (0 : Int32)), .unset] [(.long q0)])) _
      refine XS.bipush X0.here hx rfl (hb hby d2_16) ?_
      show Steps p.tables e below (s₁.setTop (mkF m 18 #[.val (.long q0), .second, .val (.int p1), .val (.int p2), .val (.int (0 : Int32)), .unset] [(.int (8 : Int32)), (.long q0)])) _
      refine XS.iloadN X0.here hx rfl (hb hby d2_18) rfl ?_
      show Steps p.tables e below (s₁.setTop (mkF m 19 #[.val (.long q0), .second, .val (.int p1), .val (.int p2), .val (.int (0 : Int32)), .unset] [(.int p2), (.int (8 : Int32)), (.long q0)])) _
      refine XS.imul X0.here hx rfl (hb hby d2_19) rfl ?_
      show Steps p.tables e below (s₁.setTop (mkF m 20 #[.val (.long q0), .second, .val (.int p1), .val (.int p2), .val (.int (0 : Int32)), .unset] [(.int ((8 : Int32) * p2)), (.long q0)])) _
      refine XS.lushr X0.here hx rfl (hb hby d2_20) rfl ?_
      show Steps p.tables e below (s₁.setTop (mkF m 21 #[.val (.long q0), .second, .val (.int p1), .val (.int p2), .val (.int (0 : Int32)), .unset] [(.long ((q0.toUInt64 >>> (((8 : Int32) * p2) &&& 0x3f).toInt64.toUInt64).toInt64))])) _
      refine X0.ldc2Long hx hown (mvT hZ (hw _ (List.mem_of_getElem? (i := 8) rfl))) (g := (mkF m 21 #[.val (.long q0), .second, .val (.int p1), .val (.int p2), .val (.int (0 : Int32)), .unset] [(.long ((q0.toUInt64 >>> (((8 : Int32) * p2) &&& 0x3f).toInt64.toUInt64).toInt64))])) rfl (hb hby d2_21) _ ?_
      show Steps p.tables e below (s₁.setTop (mkF m 24 #[.val (.long q0), .second, .val (.int p1), .val (.int p2), .val (.int (0 : Int32)), .unset] [(.long (255 : Int64)), (.long ((q0.toUInt64 >>> (((8 : Int32) * p2) &&& 0x3f).toInt64.toUInt64).toInt64))])) _
      refine XS.land X0.here hx rfl (hb hby d2_24) rfl ?_
      show Steps p.tables e below (s₁.setTop (mkF m 25 #[.val (.long q0), .second, .val (.int p1), .val (.int p2), .val (.int (0 : Int32)), .unset] [(.long (((q0.toUInt64 >>> (((8 : Int32) * p2) &&& 0x3f).toInt64.toUInt64).toInt64) &&& (255 : Int64)))])) _
      refine X0.ldc2Long hx hown (mvT hZ (hw _ (List.mem_of_getElem? (i := 9) rfl))) (g := (mkF m 25 #[.val (.long q0), .second, .val (.int p1), .val (.int p2), .val (.int (0 : Int32)), .unset] [(.long (((q0.toUInt64 >>> (((8 : Int32) * p2) &&& 0x3f).toInt64.toUInt64).toInt64) &&& (255 : Int64)))])) rfl (hb hby d2_25) _ ?_
      show Steps p.tables e below (s₁.setTop (mkF m 28 #[.val (.long q0), .second, .val (.int p1), .val (.int p2), .val (.int (0 : Int32)), .unset] [(.long (10 : Int64)), (.long (((q0.toUInt64 >>> (((8 : Int32) * p2) &&& 0x3f).toInt64.toUInt64).toInt64) &&& (255 : Int64)))])) _
      refine XS.lcmp X0.here hx rfl (hb hby d2_28) rfl ?_
      exact kt
    by_cases hc2 : (((q0.toUInt64 >>> (((8 : Int32) * p2) &&& 0x3f).toInt64.toUInt64).toInt64) &&& (255 : Int64)) = (10 : Int64)
    · refine own_thr (a := s₁.setTop (mkF m 54 #[.val (.long q0), .second, .val (.int p1), .val (.int p2), .val (.int (0 : Int32)), .val (.int (1 : Int32))] [(.long (1 : Int64))])) (fun t kt => ?_) ?_
      · show Steps p.tables e below (s₁.setTop (mkF m 29 #[.val (.long q0), .second, .val (.int p1), .val (.int p2), .val (.int (0 : Int32)), .unset] [(.int (lcmpW (((q0.toUInt64 >>> (((8 : Int32) * p2) &&& 0x3f).toInt64.toUInt64).toInt64) &&& (255 : Int64)) (10 : Int64)))])) _
        refine XS.ifNo X0.here hx rfl (hb hby d2_29) rfl ((if0 _ _).trans (teq ((lw_eq (((q0.toUInt64 >>> (((8 : Int32) * p2) &&& 0x3f).toInt64.toUInt64).toInt64) &&& (255 : Int64)) (10 : Int64)).mpr hc2)).2) ?_
        show Steps p.tables e below (s₁.setTop (mkF m 32 #[.val (.long q0), .second, .val (.int p1), .val (.int p2), .val (.int (0 : Int32)), .unset] [])) _
        refine XS.iconst X0.here hx rfl (hb hby d2_32) ?_
        show Steps p.tables e below (s₁.setTop (mkF m 33 #[.val (.long q0), .second, .val (.int p1), .val (.int p2), .val (.int (0 : Int32)), .unset] [(.int (1 : Int32))])) _
        refine XS.goto X0.here hx rfl (pc0 := 33) (pc' := 37) rfl (hb hby d2_33) (by decide) (by decide) ?_
        show Steps p.tables e below (s₁.setTop (mkF m 37 #[.val (.long q0), .second, .val (.int p1), .val (.int p2), .val (.int (0 : Int32)), .unset] [(.int (1 : Int32))])) _
        refine XS.istore X0.here hx rfl (hb hby d2_37) rfl (l' := #[.val (.long q0), .second, .val (.int p1), .val (.int p2), .val (.int (0 : Int32)), .val (.int (1 : Int32))]) rfl ?_
        show Steps p.tables e below (s₁.setTop (mkF m 39 #[.val (.long q0), .second, .val (.int p1), .val (.int p2), .val (.int (0 : Int32)), .val (.int (1 : Int32))] [])) _
        refine XS.iload X0.here hx rfl (hb hby d2_39) rfl ?_
        show Steps p.tables e below (s₁.setTop (mkF m 41 #[.val (.long q0), .second, .val (.int p1), .val (.int p2), .val (.int (0 : Int32)), .val (.int (1 : Int32))] [(.int (0 : Int32))])) _
        refine XS.ifNo X0.here hx rfl (hb hby d2_41) rfl ((if0 _ _).trans (teq rfl).2) ?_
        show Steps p.tables e below (s₁.setTop (mkF m 44 #[.val (.long q0), .second, .val (.int p1), .val (.int p2), .val (.int (0 : Int32)), .val (.int (1 : Int32))] [])) _
        refine XS.iload X0.here hx rfl (hb hby d2_44) rfl ?_
        show Steps p.tables e below (s₁.setTop (mkF m 46 #[.val (.long q0), .second, .val (.int p1), .val (.int p2), .val (.int (0 : Int32)), .val (.int (1 : Int32))] [(.int (1 : Int32))])) _
        refine XS.ifNo X0.here hx rfl (hb hby d2_46) rfl ((if0 _ _).trans (feq (by decide)).1) ?_
        show Steps p.tables e below (s₁.setTop (mkF m 49 #[.val (.long q0), .second, .val (.int p1), .val (.int p2), .val (.int (0 : Int32)), .val (.int (1 : Int32))] [])) _
        refine XS.lconst X0.here hx rfl (hb hby d2_49) ?_
        show Steps p.tables e below (s₁.setTop (mkF m 50 #[.val (.long q0), .second, .val (.int p1), .val (.int p2), .val (.int (0 : Int32)), .val (.int (1 : Int32))] [(.long (1 : Int64))])) _
        refine XS.goto X0.here hx rfl (pc0 := 50) (pc' := 54) rfl (hb hby d2_50) (by decide) (by decide) ?_
        exact kt
      exact own_end X0 hlk (v := some (.long (1 : Int64))) (fun h => by rw [Bd.returns] at h; cases h) (fun fs hr => retJ X0 hx Bd.returns (hb hby d2_54) hr) (by rw [e0]; exact ⟨(by rw [f_rmW, if_pos hc1, if_pos hc2]), N0, rfl⟩) (by decide : 0 ≤ _) (by decide : 0 ≤ _)
    · refine own_thr (a := s₁.setTop (mkF m 54 #[.val (.long q0), .second, .val (.int p1), .val (.int p2), .val (.int (0 : Int32)), .val (.int (0 : Int32))] [(.long (0 : Int64))])) (fun t kt => ?_) ?_
      · show Steps p.tables e below (s₁.setTop (mkF m 29 #[.val (.long q0), .second, .val (.int p1), .val (.int p2), .val (.int (0 : Int32)), .unset] [(.int (lcmpW (((q0.toUInt64 >>> (((8 : Int32) * p2) &&& 0x3f).toInt64.toUInt64).toInt64) &&& (255 : Int64)) (10 : Int64)))])) _
        refine XS.ifYes X0.here hx rfl (pc0 := 29) (pc' := 36) rfl (hb hby d2_29) rfl ((if0 _ _).trans (feq (fun q => hc2 ((lw_eq (((q0.toUInt64 >>> (((8 : Int32) * p2) &&& 0x3f).toInt64.toUInt64).toInt64) &&& (255 : Int64)) (10 : Int64)).mp q))).2) (by decide) (by decide) ?_
        show Steps p.tables e below (s₁.setTop (mkF m 36 #[.val (.long q0), .second, .val (.int p1), .val (.int p2), .val (.int (0 : Int32)), .unset] [])) _
        refine XS.iconst X0.here hx rfl (hb hby d2_36) ?_
        show Steps p.tables e below (s₁.setTop (mkF m 37 #[.val (.long q0), .second, .val (.int p1), .val (.int p2), .val (.int (0 : Int32)), .unset] [(.int (0 : Int32))])) _
        refine XS.istore X0.here hx rfl (hb hby d2_37) rfl (l' := #[.val (.long q0), .second, .val (.int p1), .val (.int p2), .val (.int (0 : Int32)), .val (.int (0 : Int32))]) rfl ?_
        show Steps p.tables e below (s₁.setTop (mkF m 39 #[.val (.long q0), .second, .val (.int p1), .val (.int p2), .val (.int (0 : Int32)), .val (.int (0 : Int32))] [])) _
        refine XS.iload X0.here hx rfl (hb hby d2_39) rfl ?_
        show Steps p.tables e below (s₁.setTop (mkF m 41 #[.val (.long q0), .second, .val (.int p1), .val (.int p2), .val (.int (0 : Int32)), .val (.int (0 : Int32))] [(.int (0 : Int32))])) _
        refine XS.ifNo X0.here hx rfl (hb hby d2_41) rfl ((if0 _ _).trans (teq rfl).2) ?_
        show Steps p.tables e below (s₁.setTop (mkF m 44 #[.val (.long q0), .second, .val (.int p1), .val (.int p2), .val (.int (0 : Int32)), .val (.int (0 : Int32))] [])) _
        refine XS.iload X0.here hx rfl (hb hby d2_44) rfl ?_
        show Steps p.tables e below (s₁.setTop (mkF m 46 #[.val (.long q0), .second, .val (.int p1), .val (.int p2), .val (.int (0 : Int32)), .val (.int (0 : Int32))] [(.int (0 : Int32))])) _
        refine XS.ifYes X0.here hx rfl (pc0 := 46) (pc' := 53) rfl (hb hby d2_46) rfl ((if0 _ _).trans (teq rfl).1) (by decide) (by decide) ?_
        show Steps p.tables e below (s₁.setTop (mkF m 53 #[.val (.long q0), .second, .val (.int p1), .val (.int p2), .val (.int (0 : Int32)), .val (.int (0 : Int32))] [])) _
        refine XS.lconst X0.here hx rfl (hb hby d2_53) ?_
        exact kt
      exact own_end X0 hlk (v := some (.long (0 : Int64))) (fun h => by rw [Bd.returns] at h; cases h) (fun fs hr => retJ X0 hx Bd.returns (hb hby d2_54) hr) (by rw [e0]; exact ⟨(by rw [f_rmW, if_pos hc1, if_neg hc2]), N0, rfl⟩) (by decide : 0 ≤ _) (by decide : 0 ≤ _)
  · refine own_thr (a := s₁.setTop (mkF m 29 #[.val (.long q0), .second, .val (.int p1), .val (.int p2), .val (.int (1 : Int32)), .unset] [(.int (lcmpW (((q0.toUInt64 >>> (((8 : Int32) * p2) &&& 0x3f).toInt64.toUInt64).toInt64) &&& (255 : Int64)) (10 : Int64)))])) (fun t kt => ?_) ?_
    · show Steps p.tables e below (s₁.setTop (mkF m 5 #[.val (.long q0), .second, .val (.int p1), .val (.int p2), .unset, .unset] [(.int (((p1.toUInt32 >>> (p2 &&& 31).toUInt32).toInt32) &&& (1 : Int32)))])) _
      refine XS.ifNo X0.here hx rfl (hb hby d2_5) rfl ((if0 _ _).trans (feq hc1).1) ?_
      show Steps p.tables e below (s₁.setTop (mkF m 8 #[.val (.long q0), .second, .val (.int p1), .val (.int p2), .unset, .unset] [])) _
      refine XS.iconst X0.here hx rfl (hb hby d2_8) ?_
      show Steps p.tables e below (s₁.setTop (mkF m 9 #[.val (.long q0), .second, .val (.int p1), .val (.int p2), .unset, .unset] [(.int (1 : Int32))])) _
      refine XS.goto X0.here hx rfl (pc0 := 9) (pc' := 13) rfl (hb hby d2_9) (by decide) (by decide) ?_
      show Steps p.tables e below (s₁.setTop (mkF m 13 #[.val (.long q0), .second, .val (.int p1), .val (.int p2), .unset, .unset] [(.int (1 : Int32))])) _
      refine XS.istore X0.here hx rfl (hb hby d2_13) rfl (l' := #[.val (.long q0), .second, .val (.int p1), .val (.int p2), .val (.int (1 : Int32)), .unset]) rfl ?_
      show Steps p.tables e below (s₁.setTop (mkF m 15 #[.val (.long q0), .second, .val (.int p1), .val (.int p2), .val (.int (1 : Int32)), .unset] [])) _
      refine XS.lloadN X0.here hx rfl (hb hby d2_15) rfl ?_
      show Steps p.tables e below (s₁.setTop (mkF m 16 #[.val (.long q0), .second, .val (.int p1), .val (.int p2), .val (.int (1 : Int32)), .unset] [(.long q0)])) _
      refine XS.bipush X0.here hx rfl (hb hby d2_16) ?_
      show Steps p.tables e below (s₁.setTop (mkF m 18 #[.val (.long q0), .second, .val (.int p1), .val (.int p2), .val (.int (1 : Int32)), .unset] [(.int (8 : Int32)), (.long q0)])) _
      refine XS.iloadN X0.here hx rfl (hb hby d2_18) rfl ?_
      show Steps p.tables e below (s₁.setTop (mkF m 19 #[.val (.long q0), .second, .val (.int p1), .val (.int p2), .val (.int (1 : Int32)), .unset] [(.int p2), (.int (8 : Int32)), (.long q0)])) _
      refine XS.imul X0.here hx rfl (hb hby d2_19) rfl ?_
      show Steps p.tables e below (s₁.setTop (mkF m 20 #[.val (.long q0), .second, .val (.int p1), .val (.int p2), .val (.int (1 : Int32)), .unset] [(.int ((8 : Int32) * p2)), (.long q0)])) _
      refine XS.lushr X0.here hx rfl (hb hby d2_20) rfl ?_
      show Steps p.tables e below (s₁.setTop (mkF m 21 #[.val (.long q0), .second, .val (.int p1), .val (.int p2), .val (.int (1 : Int32)), .unset] [(.long ((q0.toUInt64 >>> (((8 : Int32) * p2) &&& 0x3f).toInt64.toUInt64).toInt64))])) _
      refine X0.ldc2Long hx hown (mvT hZ (hw _ (List.mem_of_getElem? (i := 8) rfl))) (g := (mkF m 21 #[.val (.long q0), .second, .val (.int p1), .val (.int p2), .val (.int (1 : Int32)), .unset] [(.long ((q0.toUInt64 >>> (((8 : Int32) * p2) &&& 0x3f).toInt64.toUInt64).toInt64))])) rfl (hb hby d2_21) _ ?_
      show Steps p.tables e below (s₁.setTop (mkF m 24 #[.val (.long q0), .second, .val (.int p1), .val (.int p2), .val (.int (1 : Int32)), .unset] [(.long (255 : Int64)), (.long ((q0.toUInt64 >>> (((8 : Int32) * p2) &&& 0x3f).toInt64.toUInt64).toInt64))])) _
      refine XS.land X0.here hx rfl (hb hby d2_24) rfl ?_
      show Steps p.tables e below (s₁.setTop (mkF m 25 #[.val (.long q0), .second, .val (.int p1), .val (.int p2), .val (.int (1 : Int32)), .unset] [(.long (((q0.toUInt64 >>> (((8 : Int32) * p2) &&& 0x3f).toInt64.toUInt64).toInt64) &&& (255 : Int64)))])) _
      refine X0.ldc2Long hx hown (mvT hZ (hw _ (List.mem_of_getElem? (i := 9) rfl))) (g := (mkF m 25 #[.val (.long q0), .second, .val (.int p1), .val (.int p2), .val (.int (1 : Int32)), .unset] [(.long (((q0.toUInt64 >>> (((8 : Int32) * p2) &&& 0x3f).toInt64.toUInt64).toInt64) &&& (255 : Int64)))])) rfl (hb hby d2_25) _ ?_
      show Steps p.tables e below (s₁.setTop (mkF m 28 #[.val (.long q0), .second, .val (.int p1), .val (.int p2), .val (.int (1 : Int32)), .unset] [(.long (10 : Int64)), (.long (((q0.toUInt64 >>> (((8 : Int32) * p2) &&& 0x3f).toInt64.toUInt64).toInt64) &&& (255 : Int64)))])) _
      refine XS.lcmp X0.here hx rfl (hb hby d2_28) rfl ?_
      exact kt
    by_cases hc3 : (((q0.toUInt64 >>> (((8 : Int32) * p2) &&& 0x3f).toInt64.toUInt64).toInt64) &&& (255 : Int64)) = (10 : Int64)
    · refine own_thr (a := s₁.setTop (mkF m 54 #[.val (.long q0), .second, .val (.int p1), .val (.int p2), .val (.int (1 : Int32)), .val (.int (1 : Int32))] [(.long (1 : Int64))])) (fun t kt => ?_) ?_
      · show Steps p.tables e below (s₁.setTop (mkF m 29 #[.val (.long q0), .second, .val (.int p1), .val (.int p2), .val (.int (1 : Int32)), .unset] [(.int (lcmpW (((q0.toUInt64 >>> (((8 : Int32) * p2) &&& 0x3f).toInt64.toUInt64).toInt64) &&& (255 : Int64)) (10 : Int64)))])) _
        refine XS.ifNo X0.here hx rfl (hb hby d2_29) rfl ((if0 _ _).trans (teq ((lw_eq (((q0.toUInt64 >>> (((8 : Int32) * p2) &&& 0x3f).toInt64.toUInt64).toInt64) &&& (255 : Int64)) (10 : Int64)).mpr hc3)).2) ?_
        show Steps p.tables e below (s₁.setTop (mkF m 32 #[.val (.long q0), .second, .val (.int p1), .val (.int p2), .val (.int (1 : Int32)), .unset] [])) _
        refine XS.iconst X0.here hx rfl (hb hby d2_32) ?_
        show Steps p.tables e below (s₁.setTop (mkF m 33 #[.val (.long q0), .second, .val (.int p1), .val (.int p2), .val (.int (1 : Int32)), .unset] [(.int (1 : Int32))])) _
        refine XS.goto X0.here hx rfl (pc0 := 33) (pc' := 37) rfl (hb hby d2_33) (by decide) (by decide) ?_
        show Steps p.tables e below (s₁.setTop (mkF m 37 #[.val (.long q0), .second, .val (.int p1), .val (.int p2), .val (.int (1 : Int32)), .unset] [(.int (1 : Int32))])) _
        refine XS.istore X0.here hx rfl (hb hby d2_37) rfl (l' := #[.val (.long q0), .second, .val (.int p1), .val (.int p2), .val (.int (1 : Int32)), .val (.int (1 : Int32))]) rfl ?_
        show Steps p.tables e below (s₁.setTop (mkF m 39 #[.val (.long q0), .second, .val (.int p1), .val (.int p2), .val (.int (1 : Int32)), .val (.int (1 : Int32))] [])) _
        refine XS.iload X0.here hx rfl (hb hby d2_39) rfl ?_
        show Steps p.tables e below (s₁.setTop (mkF m 41 #[.val (.long q0), .second, .val (.int p1), .val (.int p2), .val (.int (1 : Int32)), .val (.int (1 : Int32))] [(.int (1 : Int32))])) _
        refine XS.ifYes X0.here hx rfl (pc0 := 41) (pc' := 49) rfl (hb hby d2_41) rfl ((if0 _ _).trans (feq (by decide)).2) (by decide) (by decide) ?_
        show Steps p.tables e below (s₁.setTop (mkF m 49 #[.val (.long q0), .second, .val (.int p1), .val (.int p2), .val (.int (1 : Int32)), .val (.int (1 : Int32))] [])) _
        refine XS.lconst X0.here hx rfl (hb hby d2_49) ?_
        show Steps p.tables e below (s₁.setTop (mkF m 50 #[.val (.long q0), .second, .val (.int p1), .val (.int p2), .val (.int (1 : Int32)), .val (.int (1 : Int32))] [(.long (1 : Int64))])) _
        refine XS.goto X0.here hx rfl (pc0 := 50) (pc' := 54) rfl (hb hby d2_50) (by decide) (by decide) ?_
        exact kt
      exact own_end X0 hlk (v := some (.long (1 : Int64))) (fun h => by rw [Bd.returns] at h; cases h) (fun fs hr => retJ X0 hx Bd.returns (hb hby d2_54) hr) (by rw [e0]; exact ⟨(by rw [f_rmW, if_neg hc1, if_pos hc3]), N0, rfl⟩) (by decide : 0 ≤ _) (by decide : 0 ≤ _)
    · refine own_thr (a := s₁.setTop (mkF m 54 #[.val (.long q0), .second, .val (.int p1), .val (.int p2), .val (.int (1 : Int32)), .val (.int (0 : Int32))] [(.long (1 : Int64))])) (fun t kt => ?_) ?_
      · show Steps p.tables e below (s₁.setTop (mkF m 29 #[.val (.long q0), .second, .val (.int p1), .val (.int p2), .val (.int (1 : Int32)), .unset] [(.int (lcmpW (((q0.toUInt64 >>> (((8 : Int32) * p2) &&& 0x3f).toInt64.toUInt64).toInt64) &&& (255 : Int64)) (10 : Int64)))])) _
        refine XS.ifYes X0.here hx rfl (pc0 := 29) (pc' := 36) rfl (hb hby d2_29) rfl ((if0 _ _).trans (feq (fun q => hc3 ((lw_eq (((q0.toUInt64 >>> (((8 : Int32) * p2) &&& 0x3f).toInt64.toUInt64).toInt64) &&& (255 : Int64)) (10 : Int64)).mp q))).2) (by decide) (by decide) ?_
        show Steps p.tables e below (s₁.setTop (mkF m 36 #[.val (.long q0), .second, .val (.int p1), .val (.int p2), .val (.int (1 : Int32)), .unset] [])) _
        refine XS.iconst X0.here hx rfl (hb hby d2_36) ?_
        show Steps p.tables e below (s₁.setTop (mkF m 37 #[.val (.long q0), .second, .val (.int p1), .val (.int p2), .val (.int (1 : Int32)), .unset] [(.int (0 : Int32))])) _
        refine XS.istore X0.here hx rfl (hb hby d2_37) rfl (l' := #[.val (.long q0), .second, .val (.int p1), .val (.int p2), .val (.int (1 : Int32)), .val (.int (0 : Int32))]) rfl ?_
        show Steps p.tables e below (s₁.setTop (mkF m 39 #[.val (.long q0), .second, .val (.int p1), .val (.int p2), .val (.int (1 : Int32)), .val (.int (0 : Int32))] [])) _
        refine XS.iload X0.here hx rfl (hb hby d2_39) rfl ?_
        show Steps p.tables e below (s₁.setTop (mkF m 41 #[.val (.long q0), .second, .val (.int p1), .val (.int p2), .val (.int (1 : Int32)), .val (.int (0 : Int32))] [(.int (1 : Int32))])) _
        refine XS.ifYes X0.here hx rfl (pc0 := 41) (pc' := 49) rfl (hb hby d2_41) rfl ((if0 _ _).trans (feq (by decide)).2) (by decide) (by decide) ?_
        show Steps p.tables e below (s₁.setTop (mkF m 49 #[.val (.long q0), .second, .val (.int p1), .val (.int p2), .val (.int (1 : Int32)), .val (.int (0 : Int32))] [])) _
        refine XS.lconst X0.here hx rfl (hb hby d2_49) ?_
        show Steps p.tables e below (s₁.setTop (mkF m 50 #[.val (.long q0), .second, .val (.int p1), .val (.int p2), .val (.int (1 : Int32)), .val (.int (0 : Int32))] [(.long (1 : Int64))])) _
        refine XS.goto X0.here hx rfl (pc0 := 50) (pc' := 54) rfl (hb hby d2_50) (by decide) (by decide) ?_
        exact kt
      exact own_end X0 hlk (v := some (.long (1 : Int64))) (fun h => by rw [Bd.returns] at h; cases h) (fun fs hr => retJ X0 hx Bd.returns (hb hby d2_54) hr) (by rw [e0]; exact ⟨(by rw [f_rmW, if_neg hc1, if_neg hc3]), N0, rfl⟩) (by decide : 0 ≤ _) (by decide : 0 ≤ _)
theorem own_succ (i : Nat) : i.toInt32 + (1 : Int32) = (i + 1).toInt32 := by
  show Int32.ofNat i + Int32.ofNat 1 = Int32.ofNat (i + 1)
  rw [← Int32.ofNat_add]
theorem own_ix {i n : Nat} (hi : i < n) (hn : n < 2 ^ 31) : ¬ i.toInt32 < 0 ∧ i.toInt32 < n.toInt32 := by
  have h1 : i.toInt32.toInt = i := len_toInt (by omega)
  have h2 : n.toInt32.toInt = n := len_toInt hn
  have h0 : (0 : Int32).toInt = 0 := rfl
  constructor <;> rw [Int32.lt_iff_toInt_lt] <;> omega
theorem own_nx {i n : Nat} (hi : n ≤ i) (hn : i < 2 ^ 31) : ¬ i.toInt32 < n.toInt32 := by
  have h1 : i.toInt32.toInt = i := len_toInt hn
  have h2 : n.toInt32.toInt = n := len_toInt (by omega)
  rw [Int32.lt_iff_toInt_lt]; omega
theorem own_nat {i : Nat} (hi : i < 2 ^ 31) : i.toInt32.toNatClampNeg = i := by
  have h1 : i.toInt32.toInt = i := len_toInt hi
  show i.toInt32.toInt.toNat = i
  omega
theorem own_getD (xs : List Int32) (i : Nat) (hi : i < 2 ^ 31) : (xs.map Value.int).getD i.toInt32.toNatClampNeg (.int 0) = .int (xs.getD i 0) := by
  rw [own_nat hi, List.getD_eq_getElem?_getD, List.getD_eq_getElem?_getD, List.getElem?_map]
  cases xs[i]? <;> rfl
def own_cnt : List Int32 → Int64
  | [] => 0
  | x :: r => (if x = (10 : Int32) then (1 : Int64) else (0 : Int64)) + own_cnt r
theorem own_drop (xs : List Int32) (i : Nat) (hi : i < xs.length) : own_cnt (xs.drop i) = (if xs.getD i 0 = (10 : Int32) then (1 : Int64) else (0 : Int64)) + own_cnt (xs.drop (i + 1)) := by
  rw [List.drop_eq_getElem_cons hi, List.getD_eq_getElem?_getD, List.getElem?_eq_getElem hi]
  rfl
theorem own_end0 (xs : List Int32) (i : Nat) (hi : i + 0 = xs.length) : own_cnt (xs.drop i) = 0 := by
  rw [List.drop_eq_nil_of_le (by omega)]; rfl
theorem d3_11 : decode prog_39_method_3_code 11 = .ok (.iload 5, 2) := by decide +kernel
theorem d3_13 : decode prog_39_method_3_code 13 = .ok (.iload 4, 2) := by decide +kernel
theorem d3_15 : decode prog_39_method_3_code 15 = .ok (.if_icmp .ge 30, 3) := by decide +kernel
theorem d3_45 : decode prog_39_method_3_code 45 = .ok (.lload_n 1, 1) := by decide +kernel
theorem d3_46 : decode prog_39_method_3_code 46 = .ok (.lreturn, 1) := by decide +kernel
theorem d3_18 : decode prog_39_method_3_code 18 = .ok (.aload_n 3, 1) := by decide +kernel
theorem d3_19 : decode prog_39_method_3_code 19 = .ok (.iload 5, 2) := by decide +kernel
theorem d3_21 : decode prog_39_method_3_code 21 = .ok (.baload, 1) := by decide +kernel
theorem d3_22 : decode prog_39_method_3_code 22 = .ok (.istore 6, 2) := by decide +kernel
theorem d3_24 : decode prog_39_method_3_code 24 = .ok (.lload_n 1, 1) := by decide +kernel
theorem d3_25 : decode prog_39_method_3_code 25 = .ok (.iload 6, 2) := by decide +kernel
theorem d3_27 : decode prog_39_method_3_code 27 = .ok (.bipush 10, 2) := by decide +kernel
theorem d3_29 : decode prog_39_method_3_code 29 = .ok (.if_icmp .ne 7, 3) := by decide +kernel
theorem d3_32 : decode prog_39_method_3_code 32 = .ok (.lconst 1, 1) := by decide +kernel
theorem d3_33 : decode prog_39_method_3_code 33 = .ok (.goto 4, 3) := by decide +kernel
theorem d3_37 : decode prog_39_method_3_code 37 = .ok (.ladd, 1) := by decide +kernel
theorem d3_38 : decode prog_39_method_3_code 38 = .ok (.lstore_n 1, 1) := by decide +kernel
theorem d3_39 : decode prog_39_method_3_code 39 = .ok (.iinc 5 1, 3) := by decide +kernel
theorem d3_42 : decode prog_39_method_3_code 42 = .ok (.goto (-31), 3) := by decide +kernel
theorem d3_36 : decode prog_39_method_3_code 36 = .ok (.lconst 0, 1) := by decide +kernel
theorem d3_0 : decode prog_39_method_3_code 0 = .ok (.lconst 0, 1) := by decide +kernel
theorem d3_1 : decode prog_39_method_3_code 1 = .ok (.lstore_n 1, 1) := by decide +kernel
theorem d3_2 : decode prog_39_method_3_code 2 = .ok (.aload_n 0, 1) := by decide +kernel
theorem d3_3 : decode prog_39_method_3_code 3 = .ok (.astore_n 3, 1) := by decide +kernel
theorem d3_4 : decode prog_39_method_3_code 4 = .ok (.aload_n 3, 1) := by decide +kernel
theorem d3_5 : decode prog_39_method_3_code 5 = .ok (.arraylength, 1) := by decide +kernel
theorem d3_6 : decode prog_39_method_3_code 6 = .ok (.istore 4, 2) := by decide +kernel
theorem d3_8 : decode prog_39_method_3_code 8 = .ok (.iconst 0, 1) := by decide +kernel
theorem d3_9 : decode prog_39_method_3_code 9 = .ok (.istore 5, 2) := by decide +kernel
theorem pn_com_example_tideline_tideline_store_CommitLog : plainName "com/example/tideline/tideline/store/CommitLog" = true := by first | (simp [plainName, overriddenIn]; done) | decide +kernel
theorem ef_rmL (m : MethodId) (o0 : Addr)  : entryFrame m #[(.ref o0)] 7 = mkF m 0 #[.val (.ref o0), .unset, .unset, .unset, .unset, .unset, .unset] [] := by first |  (simp [entryFrame, mkF, argsToLocals, Value.category]; done) | rfl
def Q_rmL (Z : State) (o0 : Addr) (k : ClassId) (xs : List Int32) (h0 : Heap) (n0 : Nat) (v : Option Value) (h : Heap) (L : List Loc) : Prop := v = some (.long (own_cnt xs)) ∧ Fr n0 L ∧ h = h0
set_option maxRecDepth 65536 in
set_option maxHeartbeats 40000000 in
theorem rmL (l : Launch) (Z : State) (a0 : Array Value) (hw : ∀ d ∈ tables_1, d.before a0 Z = true) (ws : List Jvm.Cond) (o0 : Addr) (k : ClassId) (xs : List Int32) (h0 : Heap) (n0 : Nat) (Z0 : n0 ≤ h0.size) (V_o0 : Arv Z h0 o0 k .byte xs.length.toInt32 (xs.map Value.int) (.int (0 : Int32))) (hN : xs.length < 2 ^ 31) :
    MetFree l (⟨"com/example/tideline/tideline/store/CommitLog", "lines", "([B)J"⟩ : MethodName) (head1 (Jvm.Cond.code (⟨"com/example/tideline/tideline/store/CommitLog", "lines", "([B)J"⟩ : MethodName) prog_39_method_3_code 7 (some .long) :: ws) ({ frames := 0, cells := 0, slots := 0, locals := 0 } : Room)) (fun a U => a = #[(.ref o0)] ∧ Z.Warmed39 U.vm ∧ U.heap = h0) (fun _ _ _ _ _ => True) (fun _ U o U' => ∃ v L, o = .returned v ∧ Q_rmL Z o0 k xs h0 n0 v U'.heap L ∧ FrameEnd U o U' L ({ frames := 0, cells := 0, slots := 0, locals := 0 } : Room).cells ({ frames := 0, cells := 0, slots := 0, locals := 0 } : Room).slots) := by
  refine MetFree.of_bodySF (plainFor_of_name pn_com_example_tideline_tideline_store_CommitLog) hisR ?_
  intro p e s m args below meth c s₁ Bd hml0 hP hK
  obtain ⟨rfl, hZ, hh⟩ := hP
  have hx := Bd.exec
  have hby := Bd.bytes
  have hml : c.maxLocals = 7 := hml0
  have hown : s.vm.findClass "com/example/tideline/tideline/store/CommitLog" = some m.cls := findClass_of_methodNamed Bd.named
  have hnm := (name_of_methodNamed Bd.named Bd.method).1
  have hlk := Bd.notSynchronized
  have X0 : Stand p l e ({ frames := 0, cells := 0, slots := 0, locals := 0 } : Room) s m #[(.ref o0)] below meth c s₁ [] 0 0 := Stand.of_body Bd
  have e0 : s₁.heap = h0 := by rw [← hh, Bd.state]; rfl
  have N0 := Fr.nil n0
  show own_G p.tables e below s (Q_rmL Z o0 k xs h0 n0) ({ frames := 0, cells := 0, slots := 0, locals := 0 } : Room).cells ({ frames := 0, cells := 0, slots := 0, locals := 0 } : Room).slots _
  refine own_thr (a := s₁.setTop (mkF m 0 #[.val (.ref o0), .unset, .unset, .unset, .unset, .unset, .unset] [])) (fun t kt => castTop (ef_rmL m o0) kt) ?_
  have loop : ∀ (k' i : Nat) (acc : Int64) (s6 : Slot) (hs6 : One s6), i + k' = xs.length → acc + own_cnt (xs.drop i) = own_cnt xs → own_G p.tables e below s (Q_rmL Z o0 k xs h0 n0) ({ frames := 0, cells := 0, slots := 0, locals := 0 } : Room).cells ({ frames := 0, cells := 0, slots := 0, locals := 0 } : Room).slots (s₁.setTop (mkF m 11 #[.val (.ref o0), .val (.long acc), .second, .val (.ref o0), .val (.int xs.length.toInt32), .val (.int i.toInt32), s6] [])) := by
    intro k'
    induction k' with
    | zero =>
      intro i acc s6 hs6 hi ha
      refine own_thr (a := s₁.setTop (mkF m 46 #[.val (.ref o0), .val (.long acc), .second, .val (.ref o0), .val (.int xs.length.toInt32), .val (.int i.toInt32), s6] [(.long acc)])) (fun t kt => ?_) ?_
      · show Steps p.tables e below (s₁.setTop (mkF m 11 #[.val (.ref o0), .val (.long acc), .second, .val (.ref o0), .val (.int xs.length.toInt32), .val (.int i.toInt32), s6] [])) _
        refine XS.iload X0.here hx rfl (hb hby d3_11) rfl ?_
        show Steps p.tables e below (s₁.setTop (mkF m 13 #[.val (.ref o0), .val (.long acc), .second, .val (.ref o0), .val (.int xs.length.toInt32), .val (.int i.toInt32), s6] [(.int i.toInt32)])) _
        refine XS.iload X0.here hx rfl (hb hby d3_13) rfl ?_
        show Steps p.tables e below (s₁.setTop (mkF m 15 #[.val (.ref o0), .val (.long acc), .second, .val (.ref o0), .val (.int xs.length.toInt32), .val (.int i.toInt32), s6] [(.int xs.length.toInt32), (.int i.toInt32)])) _
        refine XS.icmpYes X0.here hx rfl (pc0 := 15) (pc' := 45) rfl (hb hby d3_15) rfl (flt (own_nx (Nat.le_of_eq hi.symm) (by omega))).2.1 (by decide) (by decide) ?_
        show Steps p.tables e below (s₁.setTop (mkF m 45 #[.val (.ref o0), .val (.long acc), .second, .val (.ref o0), .val (.int xs.length.toInt32), .val (.int i.toInt32), s6] [])) _
        refine XS.lloadN X0.here hx rfl (hb hby d3_45) rfl ?_
        exact kt
      exact own_end X0 hlk (v := some (.long acc)) (fun h => by rw [Bd.returns] at h; cases h) (fun fs hr => retJ X0 hx Bd.returns (hb hby d3_46) hr) (by rw [e0]; exact ⟨by rw [own_end0 xs i hi] at ha; rw [← ha]; simp, N0, rfl⟩) (by decide : 0 ≤ _) (by decide : 0 ≤ _)
    | succ k' ih =>
      intro i acc s6 hs6 hi ha
      have hi' : i < xs.length := by omega
      rw [own_drop xs i hi'] at ha
      refine own_thr (a := s₁.setTop (mkF m 21 #[.val (.ref o0), .val (.long acc), .second, .val (.ref o0), .val (.int xs.length.toInt32), .val (.int i.toInt32), s6] [(.int i.toInt32), (.ref o0)])) (fun t kt => ?_) ?_
      · show Steps p.tables e below (s₁.setTop (mkF m 11 #[.val (.ref o0), .val (.long acc), .second, .val (.ref o0), .val (.int xs.length.toInt32), .val (.int i.toInt32), s6] [])) _
        refine XS.iload X0.here hx rfl (hb hby d3_11) rfl ?_
        show Steps p.tables e below (s₁.setTop (mkF m 13 #[.val (.ref o0), .val (.long acc), .second, .val (.ref o0), .val (.int xs.length.toInt32), .val (.int i.toInt32), s6] [(.int i.toInt32)])) _
        refine XS.iload X0.here hx rfl (hb hby d3_13) rfl ?_
        show Steps p.tables e below (s₁.setTop (mkF m 15 #[.val (.ref o0), .val (.long acc), .second, .val (.ref o0), .val (.int xs.length.toInt32), .val (.int i.toInt32), s6] [(.int xs.length.toInt32), (.int i.toInt32)])) _
        refine XS.icmpNo X0.here hx rfl (hb hby d3_15) rfl (tlt ((own_ix hi' hN).2)).2.1 ?_
        show Steps p.tables e below (s₁.setTop (mkF m 18 #[.val (.ref o0), .val (.long acc), .second, .val (.ref o0), .val (.int xs.length.toInt32), .val (.int i.toInt32), s6] [])) _
        refine XS.aloadN X0.here hx rfl (hb hby d3_18) rfl rfl ?_
        show Steps p.tables e below (s₁.setTop (mkF m 19 #[.val (.ref o0), .val (.long acc), .second, .val (.ref o0), .val (.int xs.length.toInt32), .val (.int i.toInt32), s6] [(.ref o0)])) _
        refine XS.iload X0.here hx rfl (hb hby d3_19) rfl ?_
        exact kt
      obtain ⟨cl1, Ar1, -, S1, M1, H1, -⟩ := id V_o0
      have hin1 : ¬ (i.toInt32 < 0 ∨ cl1.slots.size ≤ (i.toInt32).toNatClampNeg) := inb_of S1 (own_ix hi' hN)
      have hat1 : cl1.slots[(i.toInt32).toNatClampNeg]? = some (.int (xs.getD i 0)) := Has.at H1 hin1 (own_getD xs i (by omega))
      refine own_thr (a := s₁.setTop (mkF m 29 #[.val (.ref o0), .val (.long acc), .second, .val (.ref o0), .val (.int xs.length.toInt32), .val (.int i.toInt32), .val (.int (xs.getD i 0))] [(.int (10 : Int32)), (.int (xs.getD i 0)), (.long acc)])) (fun t kt => ?_) ?_
      · show Steps p.tables e below (s₁.setTop (mkF m 21 #[.val (.ref o0), .val (.long acc), .second, .val (.ref o0), .val (.int xs.length.toInt32), .val (.int i.toInt32), s6] [(.int i.toInt32), (.ref o0)])) _
        refine X0.baloadBytes hx (j := i.toInt32) (v := (.int (xs.getD i 0))) (by rw [e0]; exact Ar1.1) (State.isArrayOf_alike hZ.alike Ar1.2.1) Ar1.2.2 hin1 hat1 (g := (mkF m 21 #[.val (.ref o0), .val (.long acc), .second, .val (.ref o0), .val (.int xs.length.toInt32), .val (.int i.toInt32), s6] [(.int i.toInt32), (.ref o0)])) rfl rfl (hb hby d3_21) _ ?_
        show Steps p.tables e below (s₁.setTop (mkF m 22 #[.val (.ref o0), .val (.long acc), .second, .val (.ref o0), .val (.int xs.length.toInt32), .val (.int i.toInt32), s6] [(.int (xs.getD i 0))])) _
        refine XS.istore X0.here hx rfl (hb hby d3_22) rfl (l' := #[.val (.ref o0), .val (.long acc), .second, .val (.ref o0), .val (.int xs.length.toInt32), .val (.int i.toInt32), .val (.int (xs.getD i 0))]) (by rcases hs6 with hq_ | ⟨wq_, hq_, hw_⟩ <;> rw [hq_] <;> first | rfl | (cases wq_ <;> first | rfl | (simp [Value.category] at hw_))) ?_
        show Steps p.tables e below (s₁.setTop (mkF m 24 #[.val (.ref o0), .val (.long acc), .second, .val (.ref o0), .val (.int xs.length.toInt32), .val (.int i.toInt32), .val (.int (xs.getD i 0))] [])) _
        refine XS.lloadN X0.here hx rfl (hb hby d3_24) rfl ?_
        show Steps p.tables e below (s₁.setTop (mkF m 25 #[.val (.ref o0), .val (.long acc), .second, .val (.ref o0), .val (.int xs.length.toInt32), .val (.int i.toInt32), .val (.int (xs.getD i 0))] [(.long acc)])) _
        refine XS.iload X0.here hx rfl (hb hby d3_25) rfl ?_
        show Steps p.tables e below (s₁.setTop (mkF m 27 #[.val (.ref o0), .val (.long acc), .second, .val (.ref o0), .val (.int xs.length.toInt32), .val (.int i.toInt32), .val (.int (xs.getD i 0))] [(.int (xs.getD i 0)), (.long acc)])) _
        refine XS.bipush X0.here hx rfl (hb hby d3_27) ?_
        exact kt
      by_cases hc2 : (xs.getD i 0) = (10 : Int32)
      · refine own_thr (a := s₁.setTop (mkF m 11 #[.val (.ref o0), .val (.long (acc + (1 : Int64))), .second, .val (.ref o0), .val (.int xs.length.toInt32), .val (.int (i.toInt32 + (1 : Int32))), .val (.int (xs.getD i 0))] [])) (fun t kt => ?_) ?_
        · show Steps p.tables e below (s₁.setTop (mkF m 29 #[.val (.ref o0), .val (.long acc), .second, .val (.ref o0), .val (.int xs.length.toInt32), .val (.int i.toInt32), .val (.int (xs.getD i 0))] [(.int (10 : Int32)), (.int (xs.getD i 0)), (.long acc)])) _
          refine XS.icmpNo X0.here hx rfl (hb hby d3_29) rfl (teq hc2).2 ?_
          show Steps p.tables e below (s₁.setTop (mkF m 32 #[.val (.ref o0), .val (.long acc), .second, .val (.ref o0), .val (.int xs.length.toInt32), .val (.int i.toInt32), .val (.int (xs.getD i 0))] [(.long acc)])) _
          refine XS.lconst X0.here hx rfl (hb hby d3_32) ?_
          show Steps p.tables e below (s₁.setTop (mkF m 33 #[.val (.ref o0), .val (.long acc), .second, .val (.ref o0), .val (.int xs.length.toInt32), .val (.int i.toInt32), .val (.int (xs.getD i 0))] [(.long (1 : Int64)), (.long acc)])) _
          refine XS.goto X0.here hx rfl (pc0 := 33) (pc' := 37) rfl (hb hby d3_33) (by decide) (by decide) ?_
          show Steps p.tables e below (s₁.setTop (mkF m 37 #[.val (.ref o0), .val (.long acc), .second, .val (.ref o0), .val (.int xs.length.toInt32), .val (.int i.toInt32), .val (.int (xs.getD i 0))] [(.long (1 : Int64)), (.long acc)])) _
          refine XS.ladd X0.here hx rfl (hb hby d3_37) rfl ?_
          show Steps p.tables e below (s₁.setTop (mkF m 38 #[.val (.ref o0), .val (.long acc), .second, .val (.ref o0), .val (.int xs.length.toInt32), .val (.int i.toInt32), .val (.int (xs.getD i 0))] [(.long (acc + (1 : Int64)))])) _
          refine XS.lstoreN X0.here hx rfl (hb hby d3_38) rfl (l' := #[.val (.ref o0), .val (.long (acc + (1 : Int64))), .second, .val (.ref o0), .val (.int xs.length.toInt32), .val (.int i.toInt32), .val (.int (xs.getD i 0))]) rfl ?_
          show Steps p.tables e below (s₁.setTop (mkF m 39 #[.val (.ref o0), .val (.long (acc + (1 : Int64))), .second, .val (.ref o0), .val (.int xs.length.toInt32), .val (.int i.toInt32), .val (.int (xs.getD i 0))] [])) _
          refine XS.iinc X0.here hx rfl (hb hby d3_39) rfl (l' := #[.val (.ref o0), .val (.long (acc + (1 : Int64))), .second, .val (.ref o0), .val (.int xs.length.toInt32), .val (.int (i.toInt32 + (1 : Int32))), .val (.int (xs.getD i 0))]) rfl ?_
          show Steps p.tables e below (s₁.setTop (mkF m 42 #[.val (.ref o0), .val (.long (acc + (1 : Int64))), .second, .val (.ref o0), .val (.int xs.length.toInt32), .val (.int (i.toInt32 + (1 : Int32))), .val (.int (xs.getD i 0))] [])) _
          refine XS.goto X0.here hx rfl (pc0 := 42) (pc' := 11) rfl (hb hby d3_42) (by decide) (by decide) ?_
          exact kt
        rw [own_succ]
        rw [if_pos hc2, ← Int64.add_assoc] at ha
        exact ih (i + 1) (acc + (1 : Int64)) (.val (.int (xs.getD i 0))) (One.val rfl) (by omega) ha
      · refine own_thr (a := s₁.setTop (mkF m 11 #[.val (.ref o0), .val (.long (acc + (0 : Int64))), .second, .val (.ref o0), .val (.int xs.length.toInt32), .val (.int (i.toInt32 + (1 : Int32))), .val (.int (xs.getD i 0))] [])) (fun t kt => ?_) ?_
        · show Steps p.tables e below (s₁.setTop (mkF m 29 #[.val (.ref o0), .val (.long acc), .second, .val (.ref o0), .val (.int xs.length.toInt32), .val (.int i.toInt32), .val (.int (xs.getD i 0))] [(.int (10 : Int32)), (.int (xs.getD i 0)), (.long acc)])) _
          refine XS.icmpYes X0.here hx rfl (pc0 := 29) (pc' := 36) rfl (hb hby d3_29) rfl (feq hc2).2 (by decide) (by decide) ?_
          show Steps p.tables e below (s₁.setTop (mkF m 36 #[.val (.ref o0), .val (.long acc), .second, .val (.ref o0), .val (.int xs.length.toInt32), .val (.int i.toInt32), .val (.int (xs.getD i 0))] [(.long acc)])) _
          refine XS.lconst X0.here hx rfl (hb hby d3_36) ?_
          show Steps p.tables e below (s₁.setTop (mkF m 37 #[.val (.ref o0), .val (.long acc), .second, .val (.ref o0), .val (.int xs.length.toInt32), .val (.int i.toInt32), .val (.int (xs.getD i 0))] [(.long (0 : Int64)), (.long acc)])) _
          refine XS.ladd X0.here hx rfl (hb hby d3_37) rfl ?_
          show Steps p.tables e below (s₁.setTop (mkF m 38 #[.val (.ref o0), .val (.long acc), .second, .val (.ref o0), .val (.int xs.length.toInt32), .val (.int i.toInt32), .val (.int (xs.getD i 0))] [(.long (acc + (0 : Int64)))])) _
          refine XS.lstoreN X0.here hx rfl (hb hby d3_38) rfl (l' := #[.val (.ref o0), .val (.long (acc + (0 : Int64))), .second, .val (.ref o0), .val (.int xs.length.toInt32), .val (.int i.toInt32), .val (.int (xs.getD i 0))]) rfl ?_
          show Steps p.tables e below (s₁.setTop (mkF m 39 #[.val (.ref o0), .val (.long (acc + (0 : Int64))), .second, .val (.ref o0), .val (.int xs.length.toInt32), .val (.int i.toInt32), .val (.int (xs.getD i 0))] [])) _
          refine XS.iinc X0.here hx rfl (hb hby d3_39) rfl (l' := #[.val (.ref o0), .val (.long (acc + (0 : Int64))), .second, .val (.ref o0), .val (.int xs.length.toInt32), .val (.int (i.toInt32 + (1 : Int32))), .val (.int (xs.getD i 0))]) rfl ?_
          show Steps p.tables e below (s₁.setTop (mkF m 42 #[.val (.ref o0), .val (.long (acc + (0 : Int64))), .second, .val (.ref o0), .val (.int xs.length.toInt32), .val (.int (i.toInt32 + (1 : Int32))), .val (.int (xs.getD i 0))] [])) _
          refine XS.goto X0.here hx rfl (pc0 := 42) (pc' := 11) rfl (hb hby d3_42) (by decide) (by decide) ?_
          exact kt
        rw [own_succ]
        rw [if_neg hc2, ← Int64.add_assoc] at ha
        exact ih (i + 1) (acc + (0 : Int64)) (.val (.int (xs.getD i 0))) (One.val rfl) (by omega) ha
  refine own_thr (a := s₁.setTop (mkF m 5 #[.val (.ref o0), .val (.long (0 : Int64)), .second, .val (.ref o0), .unset, .unset, .unset] [(.ref o0)])) (fun t kt => ?_) ?_
  · show Steps p.tables e below (s₁.setTop (mkF m 0 #[.val (.ref o0), .unset, .unset, .unset, .unset, .unset, .unset] [])) _
    refine XS.lconst X0.here hx rfl (hb hby d3_0) ?_
    show Steps p.tables e below (s₁.setTop (mkF m 1 #[.val (.ref o0), .unset, .unset, .unset, .unset, .unset, .unset] [(.long (0 : Int64))])) _
    refine XS.lstoreN X0.here hx rfl (hb hby d3_1) rfl (l' := #[.val (.ref o0), .val (.long (0 : Int64)), .second, .unset, .unset, .unset, .unset]) rfl ?_
    show Steps p.tables e below (s₁.setTop (mkF m 2 #[.val (.ref o0), .val (.long (0 : Int64)), .second, .unset, .unset, .unset, .unset] [])) _
    refine XS.aloadN X0.here hx rfl (hb hby d3_2) rfl rfl ?_
    show Steps p.tables e below (s₁.setTop (mkF m 3 #[.val (.ref o0), .val (.long (0 : Int64)), .second, .unset, .unset, .unset, .unset] [(.ref o0)])) _
    refine XS.astoreN X0.here hx rfl (hb hby d3_3) rfl rfl (l' := #[.val (.ref o0), .val (.long (0 : Int64)), .second, .val (.ref o0), .unset, .unset, .unset]) rfl ?_
    show Steps p.tables e below (s₁.setTop (mkF m 4 #[.val (.ref o0), .val (.long (0 : Int64)), .second, .val (.ref o0), .unset, .unset, .unset] [])) _
    refine XS.aloadN X0.here hx rfl (hb hby d3_4) rfl rfl ?_
    exact kt
  obtain ⟨cl3, Ar3, -, S3, M3, -, -⟩ := id V_o0
  refine own_thr (a := s₁.setTop (mkF m 11 #[.val (.ref o0), .val (.long (0 : Int64)), .second, .val (.ref o0), .val (.int xs.length.toInt32), .val (.int (0 : Int32)), .unset] [])) (fun t kt => ?_) ?_
  · show Steps p.tables e below (s₁.setTop (mkF m 5 #[.val (.ref o0), .val (.long (0 : Int64)), .second, .val (.ref o0), .unset, .unset, .unset] [(.ref o0)])) _
    refine X0.arraylength hx (by rw [e0]; exact Ar3.1) (State.isArrayOf_alike hZ.alike Ar3.2.1) (g := (mkF m 5 #[.val (.ref o0), .val (.long (0 : Int64)), .second, .val (.ref o0), .unset, .unset, .unset] [(.ref o0)])) rfl rfl (hb hby d3_5) _ ?_
    rw [len_of S3 M3]
    show Steps p.tables e below (s₁.setTop (mkF m 6 #[.val (.ref o0), .val (.long (0 : Int64)), .second, .val (.ref o0), .unset, .unset, .unset] [(.int xs.length.toInt32)])) _
    refine XS.istore X0.here hx rfl (hb hby d3_6) rfl (l' := #[.val (.ref o0), .val (.long (0 : Int64)), .second, .val (.ref o0), .val (.int xs.length.toInt32), .unset, .unset]) rfl ?_
    show Steps p.tables e below (s₁.setTop (mkF m 8 #[.val (.ref o0), .val (.long (0 : Int64)), .second, .val (.ref o0), .val (.int xs.length.toInt32), .unset, .unset] [])) _
    refine XS.iconst X0.here hx rfl (hb hby d3_8) ?_
    show Steps p.tables e below (s₁.setTop (mkF m 9 #[.val (.ref o0), .val (.long (0 : Int64)), .second, .val (.ref o0), .val (.int xs.length.toInt32), .unset, .unset] [(.int (0 : Int32))])) _
    refine XS.istore X0.here hx rfl (hb hby d3_9) rfl (l' := #[.val (.ref o0), .val (.long (0 : Int64)), .second, .val (.ref o0), .val (.int xs.length.toInt32), .val (.int (0 : Int32)), .unset]) rfl ?_
    exact kt
  exact loop xs.length 0 (0 : Int64) .unset One.u (by omega) (by simp)
theorem own_one (p : Int64) (q i : Int32) : (if (f_rmA p q i).toInt8.toInt32 = (10 : Int32) then (1 : Int64) else (0 : Int64)) = f_rmW p q i := by
  unfold f_rmA f_rmW
  by_cases hf : ((q.toUInt32 >>> (i &&& 31).toUInt32).toInt32 &&& (1 : Int32)) = (0 : Int32)
  · rw [if_pos hf, if_pos hf]
    generalize ((p.toUInt64 >>> (((8 : Int32) * i) &&& 0x3f).toInt64.toUInt64).toInt64) = x
    have h1 := c_maskL x (255 : Int64) 8 (by decide) (by decide)
    have h2 := c_i2b x.toInt32
    have h3 := c_i2b (x.toInt32.toInt8.toInt32)
    have h4 := c_i2b (nar .byte (x.toInt32.toInt8.toInt32))
    have h5 := c_l2i x
    have h6 : nar .byte (x.toInt32.toInt8.toInt32) = x.toInt32.toInt8.toInt32.toInt8.toInt32 := rfl
    rw [h6] at h4
    rw [h6]
    have e1 : (10 : Int32).toInt = 10 := rfl
    have e2 : (10 : Int64).toInt = 10 := rfl
    by_cases hx : (x &&& (255 : Int64)) = (10 : Int64)
    · rw [if_pos hx, if_pos]
      rw [← Int64.toInt_inj] at hx
      rw [← Int32.toInt_inj]
      omega
    · rw [if_neg hx, if_neg]
      rw [← Int64.toInt_inj] at hx
      rw [← Int32.toInt_inj]
      omega
  · rw [if_neg hf, if_neg hf]
    simp
theorem own_law (p : Int64) (q : Int32) : own_cnt [(f_rmA p q (0 : Int32)).toInt8.toInt32, (f_rmA p q (1 : Int32)).toInt8.toInt32, (f_rmA p q (2 : Int32)).toInt8.toInt32, (f_rmA p q (3 : Int32)).toInt8.toInt32, (f_rmA p q (4 : Int32)).toInt8.toInt32, (f_rmA p q (5 : Int32)).toInt8.toInt32, (f_rmA p q (6 : Int32)).toInt8.toInt32, (f_rmA p q (7 : Int32)).toInt8.toInt32] = (((((((f_rmW p q (0 : Int32)) + (f_rmW p q (1 : Int32))) + (f_rmW p q (2 : Int32))) + (f_rmW p q (3 : Int32))) + (f_rmW p q (4 : Int32))) + (f_rmW p q (5 : Int32))) + (f_rmW p q (6 : Int32))) + (f_rmW p q (7 : Int32)) := by
  simp only [own_cnt, own_one, Int64.add_zero, Int64.add_assoc]
theorem pd__28JII_29B : parseMethodDescriptor "(JII)B" = some ⟨[.long, .int, .int], some .byte⟩ := by decide +kernel
theorem pd__28JII_29J : parseMethodDescriptor "(JII)J" = some ⟨[.long, .int, .int], some .long⟩ := by decide +kernel
theorem pd__28_5bB_29J : parseMethodDescriptor "([B)J" = some ⟨[(.array .byte)], some .long⟩ := by decide +kernel
theorem ef_rm0 (m : MethodId) (q0 : Int64) (p1 : Int32)  : entryFrame m #[(.long q0), (.int p1)] maxLocals = mkF m 0 #[.val (.long q0), .second, .val (.int p1), .unset, .unset, .unset, .unset, .unset, .unset, .unset, .unset] [] := by first |  (simp [entryFrame, mkF, argsToLocals, Value.category, maxLocals]; done) | rfl
def Q0 (Z : State) (q0 : Int64) (p1 : Int32) (h0 : Heap) (n0 : Nat) (v : Option Value) (h : Heap) (L : List Loc) : Prop := v = some (.int (1 : Int32)) ∧ Fr n0 L
set_option maxRecDepth 65536 in
set_option maxHeartbeats 40000000 in
theorem rm0 (l : Launch) (Z : State) (a0 : Array Value) (hw : ∀ d ∈ tables_1, d.before a0 Z = true) (ws : List Jvm.Cond) (q0 : Int64) (p1 : Int32) (h0 : Heap) (n0 : Nat) (Z0 : n0 ≤ h0.size) :
    MetFree l x (head1 (Jvm.Cond.code x code maxLocals ret :: ws) room_1) (fun a U => a = #[(.long q0), (.int p1)] ∧ Z.Warmed39 U.vm ∧ U.heap = h0) (fun _ _ _ _ _ => True) (fun _ U o U' => ∃ v L, o = .returned v ∧ Q0 Z q0 p1 h0 n0 v U'.heap L ∧ FrameEnd U o U' L room_1.cells room_1.slots) := by
  refine MetFree.of_bodySF (plainFor_of_name pn_com_example_tideline_tideline_store_CommitLogLinesPinLaw) hisR ?_
  intro p e s m args below meth c s₁ Bd hml0 hP hK
  obtain ⟨rfl, hZ, hh⟩ := hP
  have hx := Bd.exec
  have hby := Bd.bytes
  have hml : c.maxLocals = 11 := hml0
  have hown : s.vm.findClass "com/example/tideline/tideline/store/CommitLogLinesPinLaw" = some m.cls := findClass_of_methodNamed Bd.named
  have hnm := (name_of_methodNamed Bd.named Bd.method).1
  have hlk := Bd.notSynchronized
  have X0 : Stand p l e room_1 s m #[(.long q0), (.int p1)] below meth c s₁ [] 0 0 := Stand.of_body Bd
  have e0 : s₁.heap = h0 := by rw [← hh, Bd.state]; rfl
  have N0 := Fr.nil n0
  show own_G p.tables e below s (Q0 Z q0 p1 h0 n0) room_1.cells room_1.slots _
  refine own_thr (a := s₁.setTop (mkF m 0 #[.val (.long q0), .second, .val (.int p1), .unset, .unset, .unset, .unset, .unset, .unset, .unset, .unset] [])) (fun t kt => castTop (ef_rm0 m q0 p1) kt) ?_
  refine own_thr (a := s₁.setTop (mkF m 1 #[.val (.long q0), .second, .val (.int p1), .unset, .unset, .unset, .unset, .unset, .unset, .unset, .unset] [(.int (0 : Int32))])) (fun t kt => ?_) ?_
  · show Steps p.tables e below (s₁.setTop (mkF m 0 #[.val (.long q0), .second, .val (.int p1), .unset, .unset, .unset, .unset, .unset, .unset, .unset, .unset] [])) _
    refine XS.iconst X0.here hx rfl (hb hby at_0) ?_
    exact kt
  obtain ⟨T1, h1, k1, X1, e1, E1, A1, st1⟩ := newP X0 hx hZ (hw _ (List.mem_of_getElem? (i := 0) rfl)) e0 (g := (mkF m 1 #[.val (.long q0), .second, .val (.int p1), .unset, .unset, .unset, .unset, .unset, .unset, .unset, .unset] [(.int (0 : Int32))])) rfl (hb hby at_1) rfl (by decide) (cap := 0) (by decide) (by decide) (by decide : 0 + 1 ≤ _) (by decide : 0 + 0 ≤ _)
  obtain ⟨b1, g1⟩ : ∃ z, z = h0.size := ⟨_, rfl⟩
  rw [← g1] at A1 st1
  have g_b1 : n0 ≤ b1 := Nat.le_trans Z0 (Nat.le_of_eq g1.symm)
  have sz_b1 : h0.size ≤ b1 := Nat.le_trans (Nat.le_refl h0.size) (Nat.le_of_eq g1.symm)
  have V_b1 : Arv Z h1 b1 k1 .byte (0 : Int32) [] (.int (0 : Int32)) := Arv.new A1 (by decide)
  have Z2 : n0 ≤ h1.size := Nat.le_trans Z0 E1.1
  have Z2h : h0.size ≤ h1.size := Nat.le_trans (Nat.le_refl h0.size) E1.1
  refine own_thr (a := T1.setTop (mkF m 3 #[.val (.long q0), .second, .val (.int p1), .unset, .unset, .unset, .unset, .unset, .unset, .unset, .unset] [(.ref b1)])) (fun t kt => st1 t kt) ?_
  refine own_thr (a := T1.setTop (mkF m 6 #[.val (.long q0), .second, .val (.int p1), .val (.ref b1), .unset, .unset, .unset, .unset, .unset, .unset, .unset] [(.int (8 : Int32))])) (fun t kt => ?_) ?_
  · show Steps p.tables e below (T1.setTop (mkF m 3 #[.val (.long q0), .second, .val (.int p1), .unset, .unset, .unset, .unset, .unset, .unset, .unset, .unset] [(.ref b1)])) _
    refine XS.astoreN X1.here hx rfl (hb hby at_3) rfl rfl (l' := #[.val (.long q0), .second, .val (.int p1), .val (.ref b1), .unset, .unset, .unset, .unset, .unset, .unset, .unset]) rfl ?_
    show Steps p.tables e below (T1.setTop (mkF m 4 #[.val (.long q0), .second, .val (.int p1), .val (.ref b1), .unset, .unset, .unset, .unset, .unset, .unset, .unset] [])) _
    refine XS.bipush X1.here hx rfl (hb hby at_4) ?_
    exact kt
  obtain ⟨T3, h3, k3, X3, e3, E3, A3, st3⟩ := newP X1 hx hZ (hw _ (List.mem_of_getElem? (i := 0) rfl)) e1 (g := (mkF m 6 #[.val (.long q0), .second, .val (.int p1), .val (.ref b1), .unset, .unset, .unset, .unset, .unset, .unset, .unset] [(.int (8 : Int32))])) rfl (hb hby at_6) rfl (by decide) (cap := 8) (by decide) (by decide) (by decide : 1 + 1 ≤ _) (by decide : 0 + 8 ≤ _)
  obtain ⟨b3, g3⟩ : ∃ z, z = h1.size := ⟨_, rfl⟩
  rw [← g3] at A3 st3
  have g_b3 : n0 ≤ b3 := Nat.le_trans Z2 (Nat.le_of_eq g3.symm)
  have sz_b3 : h0.size ≤ b3 := Nat.le_trans Z2h (Nat.le_of_eq g3.symm)
  have ne_b1_b3 : b1 ≠ b3 := Nat.ne_of_lt (Nat.lt_of_lt_of_le V_b1.lt (Nat.le_of_eq g3.symm))
  have V_b3 : Arv Z h3 b3 k3 .byte (8 : Int32) [(.int (0 : Int32)), (.int (0 : Int32)), (.int (0 : Int32)), (.int (0 : Int32)), (.int (0 : Int32)), (.int (0 : Int32)), (.int (0 : Int32)), (.int (0 : Int32))] (.int (0 : Int32)) := (Arv.new A3 (by decide)).pad (pad_rep [] (.int (0 : Int32)) 8)
  have Z4 : n0 ≤ h3.size := Nat.le_trans Z2 E3.1
  have Z4h : h0.size ≤ h3.size := Nat.le_trans Z2h E3.1
  refine own_thr (a := T3.setTop (mkF m 8 #[.val (.long q0), .second, .val (.int p1), .val (.ref b1), .unset, .unset, .unset, .unset, .unset, .unset, .unset] [(.ref b3)])) (fun t kt => st3 t kt) ?_
  refine own_thr (a := T3.setTop (mkF m 16 #[.val (.long q0), .second, .val (.int p1), .val (.ref b1), .val (.ref b3), .unset, .unset, .unset, .unset, .unset, .unset] [(.int (0 : Int32)), (.int p1), (.long q0), (.int (0 : Int32)), (.ref b3)])) (fun t kt => ?_) ?_
  · show Steps p.tables e below (T3.setTop (mkF m 8 #[.val (.long q0), .second, .val (.int p1), .val (.ref b1), .unset, .unset, .unset, .unset, .unset, .unset, .unset] [(.ref b3)])) _
    refine XS.astore X3.here hx rfl (hb hby at_8) rfl rfl (l' := #[.val (.long q0), .second, .val (.int p1), .val (.ref b1), .val (.ref b3), .unset, .unset, .unset, .unset, .unset, .unset]) rfl ?_
    show Steps p.tables e below (T3.setTop (mkF m 10 #[.val (.long q0), .second, .val (.int p1), .val (.ref b1), .val (.ref b3), .unset, .unset, .unset, .unset, .unset, .unset] [])) _
    refine XS.aload X3.here hx rfl (hb hby at_10) rfl rfl ?_
    show Steps p.tables e below (T3.setTop (mkF m 12 #[.val (.long q0), .second, .val (.int p1), .val (.ref b1), .val (.ref b3), .unset, .unset, .unset, .unset, .unset, .unset] [(.ref b3)])) _
    refine XS.iconst X3.here hx rfl (hb hby at_12) ?_
    show Steps p.tables e below (T3.setTop (mkF m 13 #[.val (.long q0), .second, .val (.int p1), .val (.ref b1), .val (.ref b3), .unset, .unset, .unset, .unset, .unset, .unset] [(.int (0 : Int32)), (.ref b3)])) _
    refine XS.lloadN X3.here hx rfl (hb hby at_13) rfl ?_
    show Steps p.tables e below (T3.setTop (mkF m 14 #[.val (.long q0), .second, .val (.int p1), .val (.ref b1), .val (.ref b3), .unset, .unset, .unset, .unset, .unset, .unset] [(.long q0), (.int (0 : Int32)), (.ref b3)])) _
    refine XS.iloadN X3.here hx rfl (hb hby at_14) rfl ?_
    show Steps p.tables e below (T3.setTop (mkF m 15 #[.val (.long q0), .second, .val (.int p1), .val (.ref b1), .val (.ref b3), .unset, .unset, .unset, .unset, .unset, .unset] [(.int p1), (.long q0), (.int (0 : Int32)), (.ref b3)])) _
    refine XS.iconst X3.here hx rfl (hb hby at_15) ?_
    exact kt
  obtain ⟨_, _, ⟨T5, L5, k5, n5⟩, -, X5, ⟨Lc5, hQ5, l5, y5, z5⟩, st5⟩ := Jvm.LawKit.callS X3 hx (y := (⟨"com/example/tideline/tideline/store/CommitLogLinesPinLaw", "at", "(JII)B"⟩ : MethodName)) hown (mvT hZ (hw _ (List.mem_of_getElem? (i := 1) rfl))) (mvT hZ (hw _ (List.mem_of_getElem? (i := 2) rfl))) (mvT hZ (hw _ (List.mem_of_getElem? (i := 3) rfl))) (mvT hZ (hw _ (List.mem_of_getElem? (i := 4) rfl))) (by decide) (backOf (W := 2) (rmA l Z a0 hw [] q0 p1 (0 : Int32) h3 n0 Z4) hZ (hw _ (List.mem_of_getElem? (i := 4) rfl)) (hw _ (List.mem_of_getElem? (i := 3) rfl)) (by decide) (by decide)) (g := (mkF m 16 #[.val (.long q0), .second, .val (.int p1), .val (.ref b1), .val (.ref b3), .unset, .unset, .unset, .unset, .unset, .unset] [(.int (0 : Int32)), (.int p1), (.long q0), (.int (0 : Int32)), (.ref b3)])) rfl (by rw [hml]; rfl) (argsL := [(.long q0), (.int p1), (.int (0 : Int32))]) (rest := [(.int (0 : Int32)), (.ref b3)]) (lenOf pd__28JII_29B rfl) rfl (by show 2 * 0 + _ ≤ _; exact Nat.le_of_eq rfl) (hb hby at_16) (fun _ _ => ⟨rfl, e3, (by decide : 2 + 0 ≤ _), (by decide : 8 + 0 ≤ _)⟩)
  dsimp only [Pt.U, Pt.locs, Pt.cells, Pt.slots] at X5 l5 y5 z5 st5 hQ5
  obtain ⟨rfl, N5q, e5⟩ := hQ5
  obtain ⟨lc5, X5, N5⟩ := own_pack X5 l5 y5 z5 N0 N5q (C := 2) (S' := 8) rfl rfl
  refine own_thr (a := T5.setTop (mkF m 19 #[.val (.long q0), .second, .val (.int p1), .val (.ref b1), .val (.ref b3), .unset, .unset, .unset, .unset, .unset, .unset] [(.int (f_rmA q0 p1 (0 : Int32))), (.int (0 : Int32)), (.ref b3)])) (fun t kt => st5 t kt) ?_
  obtain ⟨cl6, Ar6, q6, S6, M6, H6, G6⟩ := id V_b3
  have hin6 : ¬ ((0 : Int32) < 0 ∨ cl6.slots.size ≤ ((0 : Int32)).toNatClampNeg) := inb_of S6 ⟨by decide, by decide⟩
  obtain ⟨T6, h6, X6, e6, W6, st6⟩ := stB X5 hx hZ e5 Ar6 (j := (0 : Int32)) hin6 (g := (mkF m 19 #[.val (.long q0), .second, .val (.int p1), .val (.ref b1), .val (.ref b3), .unset, .unset, .unset, .unset, .unset, .unset] [(.int (f_rmA q0 p1 (0 : Int32))), (.int (0 : Int32)), (.ref b3)])) rfl rfl (hb hby at_19)
  have Z7 : n0 ≤ h6.size := Nat.le_trans Z4 (Nat.le_of_eq W6.size.symm)
  have Z7h : h0.size ≤ h6.size := Nat.le_trans Z4h (Nat.le_of_eq W6.size.symm)
  have V6 : Arv Z h6 b3 k3 .byte (8 : Int32) [(.int ((f_rmA q0 p1 (0 : Int32)).toInt8.toInt32)), (.int (0 : Int32)), (.int (0 : Int32)), (.int (0 : Int32)), (.int (0 : Int32)), (.int (0 : Int32)), (.int (0 : Int32)), (.int (0 : Int32))] (.int (0 : Int32)) := Arv.set Ar6 q6 S6 M6 H6 G6 (fits_nar_byte _) W6 0 rfl (Nat.le_of_ble_eq_true rfl)
  obtain ⟨lc6, X6, N6⟩ := own_pack1 X6 N5 g_b3
  refine own_thr (a := T6.setTop (mkF m 20 #[.val (.long q0), .second, .val (.int p1), .val (.ref b1), .val (.ref b3), .unset, .unset, .unset, .unset, .unset, .unset] [])) (fun t kt => st6 t kt) ?_
  refine own_thr (a := T6.setTop (mkF m 26 #[.val (.long q0), .second, .val (.int p1), .val (.ref b1), .val (.ref b3), .unset, .unset, .unset, .unset, .unset, .unset] [(.int (1 : Int32)), (.int p1), (.long q0), (.int (1 : Int32)), (.ref b3)])) (fun t kt => ?_) ?_
  · show Steps p.tables e below (T6.setTop (mkF m 20 #[.val (.long q0), .second, .val (.int p1), .val (.ref b1), .val (.ref b3), .unset, .unset, .unset, .unset, .unset, .unset] [])) _
    refine XS.aload X6.here hx rfl (hb hby at_20) rfl rfl ?_
    show Steps p.tables e below (T6.setTop (mkF m 22 #[.val (.long q0), .second, .val (.int p1), .val (.ref b1), .val (.ref b3), .unset, .unset, .unset, .unset, .unset, .unset] [(.ref b3)])) _
    refine XS.iconst X6.here hx rfl (hb hby at_22) ?_
    show Steps p.tables e below (T6.setTop (mkF m 23 #[.val (.long q0), .second, .val (.int p1), .val (.ref b1), .val (.ref b3), .unset, .unset, .unset, .unset, .unset, .unset] [(.int (1 : Int32)), (.ref b3)])) _
    refine XS.lloadN X6.here hx rfl (hb hby at_23) rfl ?_
    show Steps p.tables e below (T6.setTop (mkF m 24 #[.val (.long q0), .second, .val (.int p1), .val (.ref b1), .val (.ref b3), .unset, .unset, .unset, .unset, .unset, .unset] [(.long q0), (.int (1 : Int32)), (.ref b3)])) _
    refine XS.iloadN X6.here hx rfl (hb hby at_24) rfl ?_
    show Steps p.tables e below (T6.setTop (mkF m 25 #[.val (.long q0), .second, .val (.int p1), .val (.ref b1), .val (.ref b3), .unset, .unset, .unset, .unset, .unset, .unset] [(.int p1), (.long q0), (.int (1 : Int32)), (.ref b3)])) _
    refine XS.iconst X6.here hx rfl (hb hby at_25) ?_
    exact kt
  obtain ⟨_, _, ⟨T8, L8, k8, n8⟩, -, X8, ⟨Lc8, hQ8, l8, y8, z8⟩, st8⟩ := Jvm.LawKit.callS X6 hx (y := (⟨"com/example/tideline/tideline/store/CommitLogLinesPinLaw", "at", "(JII)B"⟩ : MethodName)) hown (mvT hZ (hw _ (List.mem_of_getElem? (i := 1) rfl))) (mvT hZ (hw _ (List.mem_of_getElem? (i := 2) rfl))) (mvT hZ (hw _ (List.mem_of_getElem? (i := 3) rfl))) (mvT hZ (hw _ (List.mem_of_getElem? (i := 4) rfl))) (by decide) (backOf (W := 2) (rmA l Z a0 hw [] q0 p1 (1 : Int32) h6 n0 Z7) hZ (hw _ (List.mem_of_getElem? (i := 4) rfl)) (hw _ (List.mem_of_getElem? (i := 3) rfl)) (by decide) (by decide)) (g := (mkF m 26 #[.val (.long q0), .second, .val (.int p1), .val (.ref b1), .val (.ref b3), .unset, .unset, .unset, .unset, .unset, .unset] [(.int (1 : Int32)), (.int p1), (.long q0), (.int (1 : Int32)), (.ref b3)])) rfl (by rw [hml]; rfl) (argsL := [(.long q0), (.int p1), (.int (1 : Int32))]) (rest := [(.int (1 : Int32)), (.ref b3)]) (lenOf pd__28JII_29B rfl) rfl (by show 2 * 0 + _ ≤ _; exact Nat.le_of_eq rfl) (hb hby at_26) (fun _ _ => ⟨rfl, e6, (by decide : 2 + 0 ≤ _), (by decide : 8 + 0 ≤ _)⟩)
  dsimp only [Pt.U, Pt.locs, Pt.cells, Pt.slots] at X8 l8 y8 z8 st8 hQ8
  obtain ⟨rfl, N8q, e8⟩ := hQ8
  obtain ⟨lc8, X8, N8⟩ := own_pack X8 l8 y8 z8 N6 N8q (C := 2) (S' := 8) rfl rfl
  refine own_thr (a := T8.setTop (mkF m 29 #[.val (.long q0), .second, .val (.int p1), .val (.ref b1), .val (.ref b3), .unset, .unset, .unset, .unset, .unset, .unset] [(.int (f_rmA q0 p1 (1 : Int32))), (.int (1 : Int32)), (.ref b3)])) (fun t kt => st8 t kt) ?_
  obtain ⟨cl9, Ar9, q9, S9, M9, H9, G9⟩ := id V6
  have hin9 : ¬ ((1 : Int32) < 0 ∨ cl9.slots.size ≤ ((1 : Int32)).toNatClampNeg) := inb_of S9 ⟨by decide, by decide⟩
  obtain ⟨T9, h9, X9, e9, W9, st9⟩ := stB X8 hx hZ e8 Ar9 (j := (1 : Int32)) hin9 (g := (mkF m 29 #[.val (.long q0), .second, .val (.int p1), .val (.ref b1), .val (.ref b3), .unset, .unset, .unset, .unset, .unset, .unset] [(.int (f_rmA q0 p1 (1 : Int32))), (.int (1 : Int32)), (.ref b3)])) rfl rfl (hb hby at_29)
  have Z10 : n0 ≤ h9.size := Nat.le_trans Z7 (Nat.le_of_eq W9.size.symm)
  have Z10h : h0.size ≤ h9.size := Nat.le_trans Z7h (Nat.le_of_eq W9.size.symm)
  have V9 : Arv Z h9 b3 k3 .byte (8 : Int32) [(.int ((f_rmA q0 p1 (0 : Int32)).toInt8.toInt32)), (.int ((f_rmA q0 p1 (1 : Int32)).toInt8.toInt32)), (.int (0 : Int32)), (.int (0 : Int32)), (.int (0 : Int32)), (.int (0 : Int32)), (.int (0 : Int32)), (.int (0 : Int32))] (.int (0 : Int32)) := Arv.set Ar9 q9 S9 M9 H9 G9 (fits_nar_byte _) W9 1 rfl (Nat.le_of_ble_eq_true rfl)
  obtain ⟨lc9, X9, N9⟩ := own_pack1 X9 N8 g_b3
  refine own_thr (a := T9.setTop (mkF m 30 #[.val (.long q0), .second, .val (.int p1), .val (.ref b1), .val (.ref b3), .unset, .unset, .unset, .unset, .unset, .unset] [])) (fun t kt => st9 t kt) ?_
  refine own_thr (a := T9.setTop (mkF m 36 #[.val (.long q0), .second, .val (.int p1), .val (.ref b1), .val (.ref b3), .unset, .unset, .unset, .unset, .unset, .unset] [(.int (2 : Int32)), (.int p1), (.long q0), (.int (2 : Int32)), (.ref b3)])) (fun t kt => ?_) ?_
  · show Steps p.tables e below (T9.setTop (mkF m 30 #[.val (.long q0), .second, .val (.int p1), .val (.ref b1), .val (.ref b3), .unset, .unset, .unset, .unset, .unset, .unset] [])) _
    refine XS.aload X9.here hx rfl (hb hby at_30) rfl rfl ?_
    show Steps p.tables e below (T9.setTop (mkF m 32 #[.val (.long q0), .second, .val (.int p1), .val (.ref b1), .val (.ref b3), .unset, .unset, .unset, .unset, .unset, .unset] [(.ref b3)])) _
    refine XS.iconst X9.here hx rfl (hb hby at_32) ?_
    show Steps p.tables e below (T9.setTop (mkF m 33 #[.val (.long q0), .second, .val (.int p1), .val (.ref b1), .val (.ref b3), .unset, .unset, .unset, .unset, .unset, .unset] [(.int (2 : Int32)), (.ref b3)])) _
    refine XS.lloadN X9.here hx rfl (hb hby at_33) rfl ?_
    show Steps p.tables e below (T9.setTop (mkF m 34 #[.val (.long q0), .second, .val (.int p1), .val (.ref b1), .val (.ref b3), .unset, .unset, .unset, .unset, .unset, .unset] [(.long q0), (.int (2 : Int32)), (.ref b3)])) _
    refine XS.iloadN X9.here hx rfl (hb hby at_34) rfl ?_
    show Steps p.tables e below (T9.setTop (mkF m 35 #[.val (.long q0), .second, .val (.int p1), .val (.ref b1), .val (.ref b3), .unset, .unset, .unset, .unset, .unset, .unset] [(.int p1), (.long q0), (.int (2 : Int32)), (.ref b3)])) _
    refine XS.iconst X9.here hx rfl (hb hby at_35) ?_
    exact kt
  obtain ⟨_, _, ⟨T11, L11, k11, n11⟩, -, X11, ⟨Lc11, hQ11, l11, y11, z11⟩, st11⟩ := Jvm.LawKit.callS X9 hx (y := (⟨"com/example/tideline/tideline/store/CommitLogLinesPinLaw", "at", "(JII)B"⟩ : MethodName)) hown (mvT hZ (hw _ (List.mem_of_getElem? (i := 1) rfl))) (mvT hZ (hw _ (List.mem_of_getElem? (i := 2) rfl))) (mvT hZ (hw _ (List.mem_of_getElem? (i := 3) rfl))) (mvT hZ (hw _ (List.mem_of_getElem? (i := 4) rfl))) (by decide) (backOf (W := 2) (rmA l Z a0 hw [] q0 p1 (2 : Int32) h9 n0 Z10) hZ (hw _ (List.mem_of_getElem? (i := 4) rfl)) (hw _ (List.mem_of_getElem? (i := 3) rfl)) (by decide) (by decide)) (g := (mkF m 36 #[.val (.long q0), .second, .val (.int p1), .val (.ref b1), .val (.ref b3), .unset, .unset, .unset, .unset, .unset, .unset] [(.int (2 : Int32)), (.int p1), (.long q0), (.int (2 : Int32)), (.ref b3)])) rfl (by rw [hml]; rfl) (argsL := [(.long q0), (.int p1), (.int (2 : Int32))]) (rest := [(.int (2 : Int32)), (.ref b3)]) (lenOf pd__28JII_29B rfl) rfl (by show 2 * 0 + _ ≤ _; exact Nat.le_of_eq rfl) (hb hby at_36) (fun _ _ => ⟨rfl, e9, (by decide : 2 + 0 ≤ _), (by decide : 8 + 0 ≤ _)⟩)
  dsimp only [Pt.U, Pt.locs, Pt.cells, Pt.slots] at X11 l11 y11 z11 st11 hQ11
  obtain ⟨rfl, N11q, e11⟩ := hQ11
  obtain ⟨lc11, X11, N11⟩ := own_pack X11 l11 y11 z11 N9 N11q (C := 2) (S' := 8) rfl rfl
  refine own_thr (a := T11.setTop (mkF m 39 #[.val (.long q0), .second, .val (.int p1), .val (.ref b1), .val (.ref b3), .unset, .unset, .unset, .unset, .unset, .unset] [(.int (f_rmA q0 p1 (2 : Int32))), (.int (2 : Int32)), (.ref b3)])) (fun t kt => st11 t kt) ?_
  obtain ⟨cl12, Ar12, q12, S12, M12, H12, G12⟩ := id V9
  have hin12 : ¬ ((2 : Int32) < 0 ∨ cl12.slots.size ≤ ((2 : Int32)).toNatClampNeg) := inb_of S12 ⟨by decide, by decide⟩
  obtain ⟨T12, h12, X12, e12, W12, st12⟩ := stB X11 hx hZ e11 Ar12 (j := (2 : Int32)) hin12 (g := (mkF m 39 #[.val (.long q0), .second, .val (.int p1), .val (.ref b1), .val (.ref b3), .unset, .unset, .unset, .unset, .unset, .unset] [(.int (f_rmA q0 p1 (2 : Int32))), (.int (2 : Int32)), (.ref b3)])) rfl rfl (hb hby at_39)
  have Z13 : n0 ≤ h12.size := Nat.le_trans Z10 (Nat.le_of_eq W12.size.symm)
  have Z13h : h0.size ≤ h12.size := Nat.le_trans Z10h (Nat.le_of_eq W12.size.symm)
  have V12 : Arv Z h12 b3 k3 .byte (8 : Int32) [(.int ((f_rmA q0 p1 (0 : Int32)).toInt8.toInt32)), (.int ((f_rmA q0 p1 (1 : Int32)).toInt8.toInt32)), (.int ((f_rmA q0 p1 (2 : Int32)).toInt8.toInt32)), (.int (0 : Int32)), (.int (0 : Int32)), (.int (0 : Int32)), (.int (0 : Int32)), (.int (0 : Int32))] (.int (0 : Int32)) := Arv.set Ar12 q12 S12 M12 H12 G12 (fits_nar_byte _) W12 2 rfl (Nat.le_of_ble_eq_true rfl)
  obtain ⟨lc12, X12, N12⟩ := own_pack1 X12 N11 g_b3
  refine own_thr (a := T12.setTop (mkF m 40 #[.val (.long q0), .second, .val (.int p1), .val (.ref b1), .val (.ref b3), .unset, .unset, .unset, .unset, .unset, .unset] [])) (fun t kt => st12 t kt) ?_
  refine own_thr (a := T12.setTop (mkF m 46 #[.val (.long q0), .second, .val (.int p1), .val (.ref b1), .val (.ref b3), .unset, .unset, .unset, .unset, .unset, .unset] [(.int (3 : Int32)), (.int p1), (.long q0), (.int (3 : Int32)), (.ref b3)])) (fun t kt => ?_) ?_
  · show Steps p.tables e below (T12.setTop (mkF m 40 #[.val (.long q0), .second, .val (.int p1), .val (.ref b1), .val (.ref b3), .unset, .unset, .unset, .unset, .unset, .unset] [])) _
    refine XS.aload X12.here hx rfl (hb hby at_40) rfl rfl ?_
    show Steps p.tables e below (T12.setTop (mkF m 42 #[.val (.long q0), .second, .val (.int p1), .val (.ref b1), .val (.ref b3), .unset, .unset, .unset, .unset, .unset, .unset] [(.ref b3)])) _
    refine XS.iconst X12.here hx rfl (hb hby at_42) ?_
    show Steps p.tables e below (T12.setTop (mkF m 43 #[.val (.long q0), .second, .val (.int p1), .val (.ref b1), .val (.ref b3), .unset, .unset, .unset, .unset, .unset, .unset] [(.int (3 : Int32)), (.ref b3)])) _
    refine XS.lloadN X12.here hx rfl (hb hby at_43) rfl ?_
    show Steps p.tables e below (T12.setTop (mkF m 44 #[.val (.long q0), .second, .val (.int p1), .val (.ref b1), .val (.ref b3), .unset, .unset, .unset, .unset, .unset, .unset] [(.long q0), (.int (3 : Int32)), (.ref b3)])) _
    refine XS.iloadN X12.here hx rfl (hb hby at_44) rfl ?_
    show Steps p.tables e below (T12.setTop (mkF m 45 #[.val (.long q0), .second, .val (.int p1), .val (.ref b1), .val (.ref b3), .unset, .unset, .unset, .unset, .unset, .unset] [(.int p1), (.long q0), (.int (3 : Int32)), (.ref b3)])) _
    refine XS.iconst X12.here hx rfl (hb hby at_45) ?_
    exact kt
  obtain ⟨_, _, ⟨T14, L14, k14, n14⟩, -, X14, ⟨Lc14, hQ14, l14, y14, z14⟩, st14⟩ := Jvm.LawKit.callS X12 hx (y := (⟨"com/example/tideline/tideline/store/CommitLogLinesPinLaw", "at", "(JII)B"⟩ : MethodName)) hown (mvT hZ (hw _ (List.mem_of_getElem? (i := 1) rfl))) (mvT hZ (hw _ (List.mem_of_getElem? (i := 2) rfl))) (mvT hZ (hw _ (List.mem_of_getElem? (i := 3) rfl))) (mvT hZ (hw _ (List.mem_of_getElem? (i := 4) rfl))) (by decide) (backOf (W := 2) (rmA l Z a0 hw [] q0 p1 (3 : Int32) h12 n0 Z13) hZ (hw _ (List.mem_of_getElem? (i := 4) rfl)) (hw _ (List.mem_of_getElem? (i := 3) rfl)) (by decide) (by decide)) (g := (mkF m 46 #[.val (.long q0), .second, .val (.int p1), .val (.ref b1), .val (.ref b3), .unset, .unset, .unset, .unset, .unset, .unset] [(.int (3 : Int32)), (.int p1), (.long q0), (.int (3 : Int32)), (.ref b3)])) rfl (by rw [hml]; rfl) (argsL := [(.long q0), (.int p1), (.int (3 : Int32))]) (rest := [(.int (3 : Int32)), (.ref b3)]) (lenOf pd__28JII_29B rfl) rfl (by show 2 * 0 + _ ≤ _; exact Nat.le_of_eq rfl) (hb hby at_46) (fun _ _ => ⟨rfl, e12, (by decide : 2 + 0 ≤ _), (by decide : 8 + 0 ≤ _)⟩)
  dsimp only [Pt.U, Pt.locs, Pt.cells, Pt.slots] at X14 l14 y14 z14 st14 hQ14
  obtain ⟨rfl, N14q, e14⟩ := hQ14
  obtain ⟨lc14, X14, N14⟩ := own_pack X14 l14 y14 z14 N12 N14q (C := 2) (S' := 8) rfl rfl
  refine own_thr (a := T14.setTop (mkF m 49 #[.val (.long q0), .second, .val (.int p1), .val (.ref b1), .val (.ref b3), .unset, .unset, .unset, .unset, .unset, .unset] [(.int (f_rmA q0 p1 (3 : Int32))), (.int (3 : Int32)), (.ref b3)])) (fun t kt => st14 t kt) ?_
  obtain ⟨cl15, Ar15, q15, S15, M15, H15, G15⟩ := id V12
  have hin15 : ¬ ((3 : Int32) < 0 ∨ cl15.slots.size ≤ ((3 : Int32)).toNatClampNeg) := inb_of S15 ⟨by decide, by decide⟩
  obtain ⟨T15, h15, X15, e15, W15, st15⟩ := stB X14 hx hZ e14 Ar15 (j := (3 : Int32)) hin15 (g := (mkF m 49 #[.val (.long q0), .second, .val (.int p1), .val (.ref b1), .val (.ref b3), .unset, .unset, .unset, .unset, .unset, .unset] [(.int (f_rmA q0 p1 (3 : Int32))), (.int (3 : Int32)), (.ref b3)])) rfl rfl (hb hby at_49)
  have Z16 : n0 ≤ h15.size := Nat.le_trans Z13 (Nat.le_of_eq W15.size.symm)
  have Z16h : h0.size ≤ h15.size := Nat.le_trans Z13h (Nat.le_of_eq W15.size.symm)
  have V15 : Arv Z h15 b3 k3 .byte (8 : Int32) [(.int ((f_rmA q0 p1 (0 : Int32)).toInt8.toInt32)), (.int ((f_rmA q0 p1 (1 : Int32)).toInt8.toInt32)), (.int ((f_rmA q0 p1 (2 : Int32)).toInt8.toInt32)), (.int ((f_rmA q0 p1 (3 : Int32)).toInt8.toInt32)), (.int (0 : Int32)), (.int (0 : Int32)), (.int (0 : Int32)), (.int (0 : Int32))] (.int (0 : Int32)) := Arv.set Ar15 q15 S15 M15 H15 G15 (fits_nar_byte _) W15 3 rfl (Nat.le_of_ble_eq_true rfl)
  obtain ⟨lc15, X15, N15⟩ := own_pack1 X15 N14 g_b3
  refine own_thr (a := T15.setTop (mkF m 50 #[.val (.long q0), .second, .val (.int p1), .val (.ref b1), .val (.ref b3), .unset, .unset, .unset, .unset, .unset, .unset] [])) (fun t kt => st15 t kt) ?_
  refine own_thr (a := T15.setTop (mkF m 56 #[.val (.long q0), .second, .val (.int p1), .val (.ref b1), .val (.ref b3), .unset, .unset, .unset, .unset, .unset, .unset] [(.int (4 : Int32)), (.int p1), (.long q0), (.int (4 : Int32)), (.ref b3)])) (fun t kt => ?_) ?_
  · show Steps p.tables e below (T15.setTop (mkF m 50 #[.val (.long q0), .second, .val (.int p1), .val (.ref b1), .val (.ref b3), .unset, .unset, .unset, .unset, .unset, .unset] [])) _
    refine XS.aload X15.here hx rfl (hb hby at_50) rfl rfl ?_
    show Steps p.tables e below (T15.setTop (mkF m 52 #[.val (.long q0), .second, .val (.int p1), .val (.ref b1), .val (.ref b3), .unset, .unset, .unset, .unset, .unset, .unset] [(.ref b3)])) _
    refine XS.iconst X15.here hx rfl (hb hby at_52) ?_
    show Steps p.tables e below (T15.setTop (mkF m 53 #[.val (.long q0), .second, .val (.int p1), .val (.ref b1), .val (.ref b3), .unset, .unset, .unset, .unset, .unset, .unset] [(.int (4 : Int32)), (.ref b3)])) _
    refine XS.lloadN X15.here hx rfl (hb hby at_53) rfl ?_
    show Steps p.tables e below (T15.setTop (mkF m 54 #[.val (.long q0), .second, .val (.int p1), .val (.ref b1), .val (.ref b3), .unset, .unset, .unset, .unset, .unset, .unset] [(.long q0), (.int (4 : Int32)), (.ref b3)])) _
    refine XS.iloadN X15.here hx rfl (hb hby at_54) rfl ?_
    show Steps p.tables e below (T15.setTop (mkF m 55 #[.val (.long q0), .second, .val (.int p1), .val (.ref b1), .val (.ref b3), .unset, .unset, .unset, .unset, .unset, .unset] [(.int p1), (.long q0), (.int (4 : Int32)), (.ref b3)])) _
    refine XS.iconst X15.here hx rfl (hb hby at_55) ?_
    exact kt
  obtain ⟨_, _, ⟨T17, L17, k17, n17⟩, -, X17, ⟨Lc17, hQ17, l17, y17, z17⟩, st17⟩ := Jvm.LawKit.callS X15 hx (y := (⟨"com/example/tideline/tideline/store/CommitLogLinesPinLaw", "at", "(JII)B"⟩ : MethodName)) hown (mvT hZ (hw _ (List.mem_of_getElem? (i := 1) rfl))) (mvT hZ (hw _ (List.mem_of_getElem? (i := 2) rfl))) (mvT hZ (hw _ (List.mem_of_getElem? (i := 3) rfl))) (mvT hZ (hw _ (List.mem_of_getElem? (i := 4) rfl))) (by decide) (backOf (W := 2) (rmA l Z a0 hw [] q0 p1 (4 : Int32) h15 n0 Z16) hZ (hw _ (List.mem_of_getElem? (i := 4) rfl)) (hw _ (List.mem_of_getElem? (i := 3) rfl)) (by decide) (by decide)) (g := (mkF m 56 #[.val (.long q0), .second, .val (.int p1), .val (.ref b1), .val (.ref b3), .unset, .unset, .unset, .unset, .unset, .unset] [(.int (4 : Int32)), (.int p1), (.long q0), (.int (4 : Int32)), (.ref b3)])) rfl (by rw [hml]; rfl) (argsL := [(.long q0), (.int p1), (.int (4 : Int32))]) (rest := [(.int (4 : Int32)), (.ref b3)]) (lenOf pd__28JII_29B rfl) rfl (by show 2 * 0 + _ ≤ _; exact Nat.le_of_eq rfl) (hb hby at_56) (fun _ _ => ⟨rfl, e15, (by decide : 2 + 0 ≤ _), (by decide : 8 + 0 ≤ _)⟩)
  dsimp only [Pt.U, Pt.locs, Pt.cells, Pt.slots] at X17 l17 y17 z17 st17 hQ17
  obtain ⟨rfl, N17q, e17⟩ := hQ17
  obtain ⟨lc17, X17, N17⟩ := own_pack X17 l17 y17 z17 N15 N17q (C := 2) (S' := 8) rfl rfl
  refine own_thr (a := T17.setTop (mkF m 59 #[.val (.long q0), .second, .val (.int p1), .val (.ref b1), .val (.ref b3), .unset, .unset, .unset, .unset, .unset, .unset] [(.int (f_rmA q0 p1 (4 : Int32))), (.int (4 : Int32)), (.ref b3)])) (fun t kt => st17 t kt) ?_
  obtain ⟨cl18, Ar18, q18, S18, M18, H18, G18⟩ := id V15
  have hin18 : ¬ ((4 : Int32) < 0 ∨ cl18.slots.size ≤ ((4 : Int32)).toNatClampNeg) := inb_of S18 ⟨by decide, by decide⟩
  obtain ⟨T18, h18, X18, e18, W18, st18⟩ := stB X17 hx hZ e17 Ar18 (j := (4 : Int32)) hin18 (g := (mkF m 59 #[.val (.long q0), .second, .val (.int p1), .val (.ref b1), .val (.ref b3), .unset, .unset, .unset, .unset, .unset, .unset] [(.int (f_rmA q0 p1 (4 : Int32))), (.int (4 : Int32)), (.ref b3)])) rfl rfl (hb hby at_59)
  have Z19 : n0 ≤ h18.size := Nat.le_trans Z16 (Nat.le_of_eq W18.size.symm)
  have Z19h : h0.size ≤ h18.size := Nat.le_trans Z16h (Nat.le_of_eq W18.size.symm)
  have V18 : Arv Z h18 b3 k3 .byte (8 : Int32) [(.int ((f_rmA q0 p1 (0 : Int32)).toInt8.toInt32)), (.int ((f_rmA q0 p1 (1 : Int32)).toInt8.toInt32)), (.int ((f_rmA q0 p1 (2 : Int32)).toInt8.toInt32)), (.int ((f_rmA q0 p1 (3 : Int32)).toInt8.toInt32)), (.int ((f_rmA q0 p1 (4 : Int32)).toInt8.toInt32)), (.int (0 : Int32)), (.int (0 : Int32)), (.int (0 : Int32))] (.int (0 : Int32)) := Arv.set Ar18 q18 S18 M18 H18 G18 (fits_nar_byte _) W18 4 rfl (Nat.le_of_ble_eq_true rfl)
  obtain ⟨lc18, X18, N18⟩ := own_pack1 X18 N17 g_b3
  refine own_thr (a := T18.setTop (mkF m 60 #[.val (.long q0), .second, .val (.int p1), .val (.ref b1), .val (.ref b3), .unset, .unset, .unset, .unset, .unset, .unset] [])) (fun t kt => st18 t kt) ?_
  refine own_thr (a := T18.setTop (mkF m 66 #[.val (.long q0), .second, .val (.int p1), .val (.ref b1), .val (.ref b3), .unset, .unset, .unset, .unset, .unset, .unset] [(.int (5 : Int32)), (.int p1), (.long q0), (.int (5 : Int32)), (.ref b3)])) (fun t kt => ?_) ?_
  · show Steps p.tables e below (T18.setTop (mkF m 60 #[.val (.long q0), .second, .val (.int p1), .val (.ref b1), .val (.ref b3), .unset, .unset, .unset, .unset, .unset, .unset] [])) _
    refine XS.aload X18.here hx rfl (hb hby at_60) rfl rfl ?_
    show Steps p.tables e below (T18.setTop (mkF m 62 #[.val (.long q0), .second, .val (.int p1), .val (.ref b1), .val (.ref b3), .unset, .unset, .unset, .unset, .unset, .unset] [(.ref b3)])) _
    refine XS.iconst X18.here hx rfl (hb hby at_62) ?_
    show Steps p.tables e below (T18.setTop (mkF m 63 #[.val (.long q0), .second, .val (.int p1), .val (.ref b1), .val (.ref b3), .unset, .unset, .unset, .unset, .unset, .unset] [(.int (5 : Int32)), (.ref b3)])) _
    refine XS.lloadN X18.here hx rfl (hb hby at_63) rfl ?_
    show Steps p.tables e below (T18.setTop (mkF m 64 #[.val (.long q0), .second, .val (.int p1), .val (.ref b1), .val (.ref b3), .unset, .unset, .unset, .unset, .unset, .unset] [(.long q0), (.int (5 : Int32)), (.ref b3)])) _
    refine XS.iloadN X18.here hx rfl (hb hby at_64) rfl ?_
    show Steps p.tables e below (T18.setTop (mkF m 65 #[.val (.long q0), .second, .val (.int p1), .val (.ref b1), .val (.ref b3), .unset, .unset, .unset, .unset, .unset, .unset] [(.int p1), (.long q0), (.int (5 : Int32)), (.ref b3)])) _
    refine XS.iconst X18.here hx rfl (hb hby at_65) ?_
    exact kt
  obtain ⟨_, _, ⟨T20, L20, k20, n20⟩, -, X20, ⟨Lc20, hQ20, l20, y20, z20⟩, st20⟩ := Jvm.LawKit.callS X18 hx (y := (⟨"com/example/tideline/tideline/store/CommitLogLinesPinLaw", "at", "(JII)B"⟩ : MethodName)) hown (mvT hZ (hw _ (List.mem_of_getElem? (i := 1) rfl))) (mvT hZ (hw _ (List.mem_of_getElem? (i := 2) rfl))) (mvT hZ (hw _ (List.mem_of_getElem? (i := 3) rfl))) (mvT hZ (hw _ (List.mem_of_getElem? (i := 4) rfl))) (by decide) (backOf (W := 2) (rmA l Z a0 hw [] q0 p1 (5 : Int32) h18 n0 Z19) hZ (hw _ (List.mem_of_getElem? (i := 4) rfl)) (hw _ (List.mem_of_getElem? (i := 3) rfl)) (by decide) (by decide)) (g := (mkF m 66 #[.val (.long q0), .second, .val (.int p1), .val (.ref b1), .val (.ref b3), .unset, .unset, .unset, .unset, .unset, .unset] [(.int (5 : Int32)), (.int p1), (.long q0), (.int (5 : Int32)), (.ref b3)])) rfl (by rw [hml]; rfl) (argsL := [(.long q0), (.int p1), (.int (5 : Int32))]) (rest := [(.int (5 : Int32)), (.ref b3)]) (lenOf pd__28JII_29B rfl) rfl (by show 2 * 0 + _ ≤ _; exact Nat.le_of_eq rfl) (hb hby at_66) (fun _ _ => ⟨rfl, e18, (by decide : 2 + 0 ≤ _), (by decide : 8 + 0 ≤ _)⟩)
  dsimp only [Pt.U, Pt.locs, Pt.cells, Pt.slots] at X20 l20 y20 z20 st20 hQ20
  obtain ⟨rfl, N20q, e20⟩ := hQ20
  obtain ⟨lc20, X20, N20⟩ := own_pack X20 l20 y20 z20 N18 N20q (C := 2) (S' := 8) rfl rfl
  refine own_thr (a := T20.setTop (mkF m 69 #[.val (.long q0), .second, .val (.int p1), .val (.ref b1), .val (.ref b3), .unset, .unset, .unset, .unset, .unset, .unset] [(.int (f_rmA q0 p1 (5 : Int32))), (.int (5 : Int32)), (.ref b3)])) (fun t kt => st20 t kt) ?_
  obtain ⟨cl21, Ar21, q21, S21, M21, H21, G21⟩ := id V18
  have hin21 : ¬ ((5 : Int32) < 0 ∨ cl21.slots.size ≤ ((5 : Int32)).toNatClampNeg) := inb_of S21 ⟨by decide, by decide⟩
  obtain ⟨T21, h21, X21, e21, W21, st21⟩ := stB X20 hx hZ e20 Ar21 (j := (5 : Int32)) hin21 (g := (mkF m 69 #[.val (.long q0), .second, .val (.int p1), .val (.ref b1), .val (.ref b3), .unset, .unset, .unset, .unset, .unset, .unset] [(.int (f_rmA q0 p1 (5 : Int32))), (.int (5 : Int32)), (.ref b3)])) rfl rfl (hb hby at_69)
  have Z22 : n0 ≤ h21.size := Nat.le_trans Z19 (Nat.le_of_eq W21.size.symm)
  have Z22h : h0.size ≤ h21.size := Nat.le_trans Z19h (Nat.le_of_eq W21.size.symm)
  have V21 : Arv Z h21 b3 k3 .byte (8 : Int32) [(.int ((f_rmA q0 p1 (0 : Int32)).toInt8.toInt32)), (.int ((f_rmA q0 p1 (1 : Int32)).toInt8.toInt32)), (.int ((f_rmA q0 p1 (2 : Int32)).toInt8.toInt32)), (.int ((f_rmA q0 p1 (3 : Int32)).toInt8.toInt32)), (.int ((f_rmA q0 p1 (4 : Int32)).toInt8.toInt32)), (.int ((f_rmA q0 p1 (5 : Int32)).toInt8.toInt32)), (.int (0 : Int32)), (.int (0 : Int32))] (.int (0 : Int32)) := Arv.set Ar21 q21 S21 M21 H21 G21 (fits_nar_byte _) W21 5 rfl (Nat.le_of_ble_eq_true rfl)
  obtain ⟨lc21, X21, N21⟩ := own_pack1 X21 N20 g_b3
  refine own_thr (a := T21.setTop (mkF m 70 #[.val (.long q0), .second, .val (.int p1), .val (.ref b1), .val (.ref b3), .unset, .unset, .unset, .unset, .unset, .unset] [])) (fun t kt => st21 t kt) ?_
  refine own_thr (a := T21.setTop (mkF m 78 #[.val (.long q0), .second, .val (.int p1), .val (.ref b1), .val (.ref b3), .unset, .unset, .unset, .unset, .unset, .unset] [(.int (6 : Int32)), (.int p1), (.long q0), (.int (6 : Int32)), (.ref b3)])) (fun t kt => ?_) ?_
  · show Steps p.tables e below (T21.setTop (mkF m 70 #[.val (.long q0), .second, .val (.int p1), .val (.ref b1), .val (.ref b3), .unset, .unset, .unset, .unset, .unset, .unset] [])) _
    refine XS.aload X21.here hx rfl (hb hby at_70) rfl rfl ?_
    show Steps p.tables e below (T21.setTop (mkF m 72 #[.val (.long q0), .second, .val (.int p1), .val (.ref b1), .val (.ref b3), .unset, .unset, .unset, .unset, .unset, .unset] [(.ref b3)])) _
    refine XS.bipush X21.here hx rfl (hb hby at_72) ?_
    show Steps p.tables e below (T21.setTop (mkF m 74 #[.val (.long q0), .second, .val (.int p1), .val (.ref b1), .val (.ref b3), .unset, .unset, .unset, .unset, .unset, .unset] [(.int (6 : Int32)), (.ref b3)])) _
    refine XS.lloadN X21.here hx rfl (hb hby at_74) rfl ?_
    show Steps p.tables e below (T21.setTop (mkF m 75 #[.val (.long q0), .second, .val (.int p1), .val (.ref b1), .val (.ref b3), .unset, .unset, .unset, .unset, .unset, .unset] [(.long q0), (.int (6 : Int32)), (.ref b3)])) _
    refine XS.iloadN X21.here hx rfl (hb hby at_75) rfl ?_
    show Steps p.tables e below (T21.setTop (mkF m 76 #[.val (.long q0), .second, .val (.int p1), .val (.ref b1), .val (.ref b3), .unset, .unset, .unset, .unset, .unset, .unset] [(.int p1), (.long q0), (.int (6 : Int32)), (.ref b3)])) _
    refine XS.bipush X21.here hx rfl (hb hby at_76) ?_
    exact kt
  obtain ⟨_, _, ⟨T23, L23, k23, n23⟩, -, X23, ⟨Lc23, hQ23, l23, y23, z23⟩, st23⟩ := Jvm.LawKit.callS X21 hx (y := (⟨"com/example/tideline/tideline/store/CommitLogLinesPinLaw", "at", "(JII)B"⟩ : MethodName)) hown (mvT hZ (hw _ (List.mem_of_getElem? (i := 1) rfl))) (mvT hZ (hw _ (List.mem_of_getElem? (i := 2) rfl))) (mvT hZ (hw _ (List.mem_of_getElem? (i := 3) rfl))) (mvT hZ (hw _ (List.mem_of_getElem? (i := 4) rfl))) (by decide) (backOf (W := 2) (rmA l Z a0 hw [] q0 p1 (6 : Int32) h21 n0 Z22) hZ (hw _ (List.mem_of_getElem? (i := 4) rfl)) (hw _ (List.mem_of_getElem? (i := 3) rfl)) (by decide) (by decide)) (g := (mkF m 78 #[.val (.long q0), .second, .val (.int p1), .val (.ref b1), .val (.ref b3), .unset, .unset, .unset, .unset, .unset, .unset] [(.int (6 : Int32)), (.int p1), (.long q0), (.int (6 : Int32)), (.ref b3)])) rfl (by rw [hml]; rfl) (argsL := [(.long q0), (.int p1), (.int (6 : Int32))]) (rest := [(.int (6 : Int32)), (.ref b3)]) (lenOf pd__28JII_29B rfl) rfl (by show 2 * 0 + _ ≤ _; exact Nat.le_of_eq rfl) (hb hby at_78) (fun _ _ => ⟨rfl, e21, (by decide : 2 + 0 ≤ _), (by decide : 8 + 0 ≤ _)⟩)
  dsimp only [Pt.U, Pt.locs, Pt.cells, Pt.slots] at X23 l23 y23 z23 st23 hQ23
  obtain ⟨rfl, N23q, e23⟩ := hQ23
  obtain ⟨lc23, X23, N23⟩ := own_pack X23 l23 y23 z23 N21 N23q (C := 2) (S' := 8) rfl rfl
  refine own_thr (a := T23.setTop (mkF m 81 #[.val (.long q0), .second, .val (.int p1), .val (.ref b1), .val (.ref b3), .unset, .unset, .unset, .unset, .unset, .unset] [(.int (f_rmA q0 p1 (6 : Int32))), (.int (6 : Int32)), (.ref b3)])) (fun t kt => st23 t kt) ?_
  obtain ⟨cl24, Ar24, q24, S24, M24, H24, G24⟩ := id V21
  have hin24 : ¬ ((6 : Int32) < 0 ∨ cl24.slots.size ≤ ((6 : Int32)).toNatClampNeg) := inb_of S24 ⟨by decide, by decide⟩
  obtain ⟨T24, h24, X24, e24, W24, st24⟩ := stB X23 hx hZ e23 Ar24 (j := (6 : Int32)) hin24 (g := (mkF m 81 #[.val (.long q0), .second, .val (.int p1), .val (.ref b1), .val (.ref b3), .unset, .unset, .unset, .unset, .unset, .unset] [(.int (f_rmA q0 p1 (6 : Int32))), (.int (6 : Int32)), (.ref b3)])) rfl rfl (hb hby at_81)
  have Z25 : n0 ≤ h24.size := Nat.le_trans Z22 (Nat.le_of_eq W24.size.symm)
  have Z25h : h0.size ≤ h24.size := Nat.le_trans Z22h (Nat.le_of_eq W24.size.symm)
  have V24 : Arv Z h24 b3 k3 .byte (8 : Int32) [(.int ((f_rmA q0 p1 (0 : Int32)).toInt8.toInt32)), (.int ((f_rmA q0 p1 (1 : Int32)).toInt8.toInt32)), (.int ((f_rmA q0 p1 (2 : Int32)).toInt8.toInt32)), (.int ((f_rmA q0 p1 (3 : Int32)).toInt8.toInt32)), (.int ((f_rmA q0 p1 (4 : Int32)).toInt8.toInt32)), (.int ((f_rmA q0 p1 (5 : Int32)).toInt8.toInt32)), (.int ((f_rmA q0 p1 (6 : Int32)).toInt8.toInt32)), (.int (0 : Int32))] (.int (0 : Int32)) := Arv.set Ar24 q24 S24 M24 H24 G24 (fits_nar_byte _) W24 6 rfl (Nat.le_of_ble_eq_true rfl)
  obtain ⟨lc24, X24, N24⟩ := own_pack1 X24 N23 g_b3
  refine own_thr (a := T24.setTop (mkF m 82 #[.val (.long q0), .second, .val (.int p1), .val (.ref b1), .val (.ref b3), .unset, .unset, .unset, .unset, .unset, .unset] [])) (fun t kt => st24 t kt) ?_
  refine own_thr (a := T24.setTop (mkF m 90 #[.val (.long q0), .second, .val (.int p1), .val (.ref b1), .val (.ref b3), .unset, .unset, .unset, .unset, .unset, .unset] [(.int (7 : Int32)), (.int p1), (.long q0), (.int (7 : Int32)), (.ref b3)])) (fun t kt => ?_) ?_
  · show Steps p.tables e below (T24.setTop (mkF m 82 #[.val (.long q0), .second, .val (.int p1), .val (.ref b1), .val (.ref b3), .unset, .unset, .unset, .unset, .unset, .unset] [])) _
    refine XS.aload X24.here hx rfl (hb hby at_82) rfl rfl ?_
    show Steps p.tables e below (T24.setTop (mkF m 84 #[.val (.long q0), .second, .val (.int p1), .val (.ref b1), .val (.ref b3), .unset, .unset, .unset, .unset, .unset, .unset] [(.ref b3)])) _
    refine XS.bipush X24.here hx rfl (hb hby at_84) ?_
    show Steps p.tables e below (T24.setTop (mkF m 86 #[.val (.long q0), .second, .val (.int p1), .val (.ref b1), .val (.ref b3), .unset, .unset, .unset, .unset, .unset, .unset] [(.int (7 : Int32)), (.ref b3)])) _
    refine XS.lloadN X24.here hx rfl (hb hby at_86) rfl ?_
    show Steps p.tables e below (T24.setTop (mkF m 87 #[.val (.long q0), .second, .val (.int p1), .val (.ref b1), .val (.ref b3), .unset, .unset, .unset, .unset, .unset, .unset] [(.long q0), (.int (7 : Int32)), (.ref b3)])) _
    refine XS.iloadN X24.here hx rfl (hb hby at_87) rfl ?_
    show Steps p.tables e below (T24.setTop (mkF m 88 #[.val (.long q0), .second, .val (.int p1), .val (.ref b1), .val (.ref b3), .unset, .unset, .unset, .unset, .unset, .unset] [(.int p1), (.long q0), (.int (7 : Int32)), (.ref b3)])) _
    refine XS.bipush X24.here hx rfl (hb hby at_88) ?_
    exact kt
  obtain ⟨_, _, ⟨T26, L26, k26, n26⟩, -, X26, ⟨Lc26, hQ26, l26, y26, z26⟩, st26⟩ := Jvm.LawKit.callS X24 hx (y := (⟨"com/example/tideline/tideline/store/CommitLogLinesPinLaw", "at", "(JII)B"⟩ : MethodName)) hown (mvT hZ (hw _ (List.mem_of_getElem? (i := 1) rfl))) (mvT hZ (hw _ (List.mem_of_getElem? (i := 2) rfl))) (mvT hZ (hw _ (List.mem_of_getElem? (i := 3) rfl))) (mvT hZ (hw _ (List.mem_of_getElem? (i := 4) rfl))) (by decide) (backOf (W := 2) (rmA l Z a0 hw [] q0 p1 (7 : Int32) h24 n0 Z25) hZ (hw _ (List.mem_of_getElem? (i := 4) rfl)) (hw _ (List.mem_of_getElem? (i := 3) rfl)) (by decide) (by decide)) (g := (mkF m 90 #[.val (.long q0), .second, .val (.int p1), .val (.ref b1), .val (.ref b3), .unset, .unset, .unset, .unset, .unset, .unset] [(.int (7 : Int32)), (.int p1), (.long q0), (.int (7 : Int32)), (.ref b3)])) rfl (by rw [hml]; rfl) (argsL := [(.long q0), (.int p1), (.int (7 : Int32))]) (rest := [(.int (7 : Int32)), (.ref b3)]) (lenOf pd__28JII_29B rfl) rfl (by show 2 * 0 + _ ≤ _; exact Nat.le_of_eq rfl) (hb hby at_90) (fun _ _ => ⟨rfl, e24, (by decide : 2 + 0 ≤ _), (by decide : 8 + 0 ≤ _)⟩)
  dsimp only [Pt.U, Pt.locs, Pt.cells, Pt.slots] at X26 l26 y26 z26 st26 hQ26
  obtain ⟨rfl, N26q, e26⟩ := hQ26
  obtain ⟨lc26, X26, N26⟩ := own_pack X26 l26 y26 z26 N24 N26q (C := 2) (S' := 8) rfl rfl
  refine own_thr (a := T26.setTop (mkF m 93 #[.val (.long q0), .second, .val (.int p1), .val (.ref b1), .val (.ref b3), .unset, .unset, .unset, .unset, .unset, .unset] [(.int (f_rmA q0 p1 (7 : Int32))), (.int (7 : Int32)), (.ref b3)])) (fun t kt => st26 t kt) ?_
  obtain ⟨cl27, Ar27, q27, S27, M27, H27, G27⟩ := id V24
  have hin27 : ¬ ((7 : Int32) < 0 ∨ cl27.slots.size ≤ ((7 : Int32)).toNatClampNeg) := inb_of S27 ⟨by decide, by decide⟩
  obtain ⟨T27, h27, X27, e27, W27, st27⟩ := stB X26 hx hZ e26 Ar27 (j := (7 : Int32)) hin27 (g := (mkF m 93 #[.val (.long q0), .second, .val (.int p1), .val (.ref b1), .val (.ref b3), .unset, .unset, .unset, .unset, .unset, .unset] [(.int (f_rmA q0 p1 (7 : Int32))), (.int (7 : Int32)), (.ref b3)])) rfl rfl (hb hby at_93)
  have Z28 : n0 ≤ h27.size := Nat.le_trans Z25 (Nat.le_of_eq W27.size.symm)
  have Z28h : h0.size ≤ h27.size := Nat.le_trans Z25h (Nat.le_of_eq W27.size.symm)
  have V27 : Arv Z h27 b3 k3 .byte (8 : Int32) [(.int ((f_rmA q0 p1 (0 : Int32)).toInt8.toInt32)), (.int ((f_rmA q0 p1 (1 : Int32)).toInt8.toInt32)), (.int ((f_rmA q0 p1 (2 : Int32)).toInt8.toInt32)), (.int ((f_rmA q0 p1 (3 : Int32)).toInt8.toInt32)), (.int ((f_rmA q0 p1 (4 : Int32)).toInt8.toInt32)), (.int ((f_rmA q0 p1 (5 : Int32)).toInt8.toInt32)), (.int ((f_rmA q0 p1 (6 : Int32)).toInt8.toInt32)), (.int ((f_rmA q0 p1 (7 : Int32)).toInt8.toInt32))] (.int (0 : Int32)) := Arv.set Ar27 q27 S27 M27 H27 G27 (fits_nar_byte _) W27 7 rfl (Nat.le_of_ble_eq_true rfl)
  obtain ⟨lc27, X27, N27⟩ := own_pack1 X27 N26 g_b3
  refine own_thr (a := T27.setTop (mkF m 94 #[.val (.long q0), .second, .val (.int p1), .val (.ref b1), .val (.ref b3), .unset, .unset, .unset, .unset, .unset, .unset] [])) (fun t kt => st27 t kt) ?_
  refine own_thr (a := T27.setTop (mkF m 97 #[.val (.long q0), .second, .val (.int p1), .val (.ref b1), .val (.ref b3), .unset, .unset, .unset, .unset, .unset, .unset] [(.int (0 : Int32)), (.int p1), (.long q0)])) (fun t kt => ?_) ?_
  · show Steps p.tables e below (T27.setTop (mkF m 94 #[.val (.long q0), .second, .val (.int p1), .val (.ref b1), .val (.ref b3), .unset, .unset, .unset, .unset, .unset, .unset] [])) _
    refine XS.lloadN X27.here hx rfl (hb hby at_94) rfl ?_
    show Steps p.tables e below (T27.setTop (mkF m 95 #[.val (.long q0), .second, .val (.int p1), .val (.ref b1), .val (.ref b3), .unset, .unset, .unset, .unset, .unset, .unset] [(.long q0)])) _
    refine XS.iloadN X27.here hx rfl (hb hby at_95) rfl ?_
    show Steps p.tables e below (T27.setTop (mkF m 96 #[.val (.long q0), .second, .val (.int p1), .val (.ref b1), .val (.ref b3), .unset, .unset, .unset, .unset, .unset, .unset] [(.int p1), (.long q0)])) _
    refine XS.iconst X27.here hx rfl (hb hby at_96) ?_
    exact kt
  obtain ⟨_, _, ⟨T29, L29, k29, n29⟩, -, X29, ⟨Lc29, hQ29, l29, y29, z29⟩, st29⟩ := Jvm.LawKit.callS X27 hx (y := (⟨"com/example/tideline/tideline/store/CommitLogLinesPinLaw", "want", "(JII)J"⟩ : MethodName)) hown (mvT hZ (hw _ (List.mem_of_getElem? (i := 5) rfl))) (mvT hZ (hw _ (List.mem_of_getElem? (i := 6) rfl))) (mvT hZ (hw _ (List.mem_of_getElem? (i := 3) rfl))) (mvT hZ (hw _ (List.mem_of_getElem? (i := 7) rfl))) (by decide) (backOf (W := 0) (rmW l Z a0 hw [] q0 p1 (0 : Int32) h27 n0 Z28) hZ (hw _ (List.mem_of_getElem? (i := 7) rfl)) (hw _ (List.mem_of_getElem? (i := 3) rfl)) (by decide) (by decide)) (g := (mkF m 97 #[.val (.long q0), .second, .val (.int p1), .val (.ref b1), .val (.ref b3), .unset, .unset, .unset, .unset, .unset, .unset] [(.int (0 : Int32)), (.int p1), (.long q0)])) rfl (by rw [hml]; rfl) (argsL := [(.long q0), (.int p1), (.int (0 : Int32))]) (rest := []) (lenOf pd__28JII_29J rfl) rfl (by show 2 * 0 + _ ≤ _; exact Nat.le_of_eq rfl) (hb hby at_97) (fun _ _ => ⟨rfl, e27, (by decide : 2 + 0 ≤ _), (by decide : 8 + 0 ≤ _)⟩)
  dsimp only [Pt.U, Pt.locs, Pt.cells, Pt.slots] at X29 l29 y29 z29 st29 hQ29
  obtain ⟨rfl, N29q, e29⟩ := hQ29
  obtain ⟨lc29, X29, N29⟩ := own_pack X29 l29 y29 z29 N27 N29q (C := 2) (S' := 8) rfl rfl
  refine own_thr (a := T29.setTop (mkF m 100 #[.val (.long q0), .second, .val (.int p1), .val (.ref b1), .val (.ref b3), .unset, .unset, .unset, .unset, .unset, .unset] [(.long (f_rmW q0 p1 (0 : Int32)))])) (fun t kt => st29 t kt) ?_
  refine own_thr (a := T29.setTop (mkF m 103 #[.val (.long q0), .second, .val (.int p1), .val (.ref b1), .val (.ref b3), .unset, .unset, .unset, .unset, .unset, .unset] [(.int (1 : Int32)), (.int p1), (.long q0), (.long (f_rmW q0 p1 (0 : Int32)))])) (fun t kt => ?_) ?_
  · show Steps p.tables e below (T29.setTop (mkF m 100 #[.val (.long q0), .second, .val (.int p1), .val (.ref b1), .val (.ref b3), .unset, .unset, .unset, .unset, .unset, .unset] [(.long (f_rmW q0 p1 (0 : Int32)))])) _
    refine XS.lloadN X29.here hx rfl (hb hby at_100) rfl ?_
    show Steps p.tables e below (T29.setTop (mkF m 101 #[.val (.long q0), .second, .val (.int p1), .val (.ref b1), .val (.ref b3), .unset, .unset, .unset, .unset, .unset, .unset] [(.long q0), (.long (f_rmW q0 p1 (0 : Int32)))])) _
    refine XS.iloadN X29.here hx rfl (hb hby at_101) rfl ?_
    show Steps p.tables e below (T29.setTop (mkF m 102 #[.val (.long q0), .second, .val (.int p1), .val (.ref b1), .val (.ref b3), .unset, .unset, .unset, .unset, .unset, .unset] [(.int p1), (.long q0), (.long (f_rmW q0 p1 (0 : Int32)))])) _
    refine XS.iconst X29.here hx rfl (hb hby at_102) ?_
    exact kt
  obtain ⟨_, _, ⟨T30, L30, k30, n30⟩, -, X30, ⟨Lc30, hQ30, l30, y30, z30⟩, st30⟩ := Jvm.LawKit.callS X29 hx (y := (⟨"com/example/tideline/tideline/store/CommitLogLinesPinLaw", "want", "(JII)J"⟩ : MethodName)) hown (mvT hZ (hw _ (List.mem_of_getElem? (i := 5) rfl))) (mvT hZ (hw _ (List.mem_of_getElem? (i := 6) rfl))) (mvT hZ (hw _ (List.mem_of_getElem? (i := 3) rfl))) (mvT hZ (hw _ (List.mem_of_getElem? (i := 7) rfl))) (by decide) (backOf (W := 2) (rmW l Z a0 hw [] q0 p1 (1 : Int32) h27 n0 Z28) hZ (hw _ (List.mem_of_getElem? (i := 7) rfl)) (hw _ (List.mem_of_getElem? (i := 3) rfl)) (by decide) (by decide)) (g := (mkF m 103 #[.val (.long q0), .second, .val (.int p1), .val (.ref b1), .val (.ref b3), .unset, .unset, .unset, .unset, .unset, .unset] [(.int (1 : Int32)), (.int p1), (.long q0), (.long (f_rmW q0 p1 (0 : Int32)))])) rfl (by rw [hml]; rfl) (argsL := [(.long q0), (.int p1), (.int (1 : Int32))]) (rest := [(.long (f_rmW q0 p1 (0 : Int32)))]) (lenOf pd__28JII_29J rfl) rfl (by show 2 * 0 + _ ≤ _; exact Nat.le_of_eq rfl) (hb hby at_103) (fun _ _ => ⟨rfl, e29, (by decide : 2 + 0 ≤ _), (by decide : 8 + 0 ≤ _)⟩)
  dsimp only [Pt.U, Pt.locs, Pt.cells, Pt.slots] at X30 l30 y30 z30 st30 hQ30
  obtain ⟨rfl, N30q, e30⟩ := hQ30
  obtain ⟨lc30, X30, N30⟩ := own_pack X30 l30 y30 z30 N29 N30q (C := 2) (S' := 8) rfl rfl
  refine own_thr (a := T30.setTop (mkF m 106 #[.val (.long q0), .second, .val (.int p1), .val (.ref b1), .val (.ref b3), .unset, .unset, .unset, .unset, .unset, .unset] [(.long (f_rmW q0 p1 (1 : Int32))), (.long (f_rmW q0 p1 (0 : Int32)))])) (fun t kt => st30 t kt) ?_
  refine own_thr (a := T30.setTop (mkF m 110 #[.val (.long q0), .second, .val (.int p1), .val (.ref b1), .val (.ref b3), .unset, .unset, .unset, .unset, .unset, .unset] [(.int (2 : Int32)), (.int p1), (.long q0), (.long ((f_rmW q0 p1 (0 : Int32)) + (f_rmW q0 p1 (1 : Int32))))])) (fun t kt => ?_) ?_
  · show Steps p.tables e below (T30.setTop (mkF m 106 #[.val (.long q0), .second, .val (.int p1), .val (.ref b1), .val (.ref b3), .unset, .unset, .unset, .unset, .unset, .unset] [(.long (f_rmW q0 p1 (1 : Int32))), (.long (f_rmW q0 p1 (0 : Int32)))])) _
    refine XS.ladd X30.here hx rfl (hb hby at_106) rfl ?_
    show Steps p.tables e below (T30.setTop (mkF m 107 #[.val (.long q0), .second, .val (.int p1), .val (.ref b1), .val (.ref b3), .unset, .unset, .unset, .unset, .unset, .unset] [(.long ((f_rmW q0 p1 (0 : Int32)) + (f_rmW q0 p1 (1 : Int32))))])) _
    refine XS.lloadN X30.here hx rfl (hb hby at_107) rfl ?_
    show Steps p.tables e below (T30.setTop (mkF m 108 #[.val (.long q0), .second, .val (.int p1), .val (.ref b1), .val (.ref b3), .unset, .unset, .unset, .unset, .unset, .unset] [(.long q0), (.long ((f_rmW q0 p1 (0 : Int32)) + (f_rmW q0 p1 (1 : Int32))))])) _
    refine XS.iloadN X30.here hx rfl (hb hby at_108) rfl ?_
    show Steps p.tables e below (T30.setTop (mkF m 109 #[.val (.long q0), .second, .val (.int p1), .val (.ref b1), .val (.ref b3), .unset, .unset, .unset, .unset, .unset, .unset] [(.int p1), (.long q0), (.long ((f_rmW q0 p1 (0 : Int32)) + (f_rmW q0 p1 (1 : Int32))))])) _
    refine XS.iconst X30.here hx rfl (hb hby at_109) ?_
    exact kt
  obtain ⟨_, _, ⟨T31, L31, k31, n31⟩, -, X31, ⟨Lc31, hQ31, l31, y31, z31⟩, st31⟩ := Jvm.LawKit.callS X30 hx (y := (⟨"com/example/tideline/tideline/store/CommitLogLinesPinLaw", "want", "(JII)J"⟩ : MethodName)) hown (mvT hZ (hw _ (List.mem_of_getElem? (i := 5) rfl))) (mvT hZ (hw _ (List.mem_of_getElem? (i := 6) rfl))) (mvT hZ (hw _ (List.mem_of_getElem? (i := 3) rfl))) (mvT hZ (hw _ (List.mem_of_getElem? (i := 7) rfl))) (by decide) (backOf (W := 2) (rmW l Z a0 hw [] q0 p1 (2 : Int32) h27 n0 Z28) hZ (hw _ (List.mem_of_getElem? (i := 7) rfl)) (hw _ (List.mem_of_getElem? (i := 3) rfl)) (by decide) (by decide)) (g := (mkF m 110 #[.val (.long q0), .second, .val (.int p1), .val (.ref b1), .val (.ref b3), .unset, .unset, .unset, .unset, .unset, .unset] [(.int (2 : Int32)), (.int p1), (.long q0), (.long ((f_rmW q0 p1 (0 : Int32)) + (f_rmW q0 p1 (1 : Int32))))])) rfl (by rw [hml]; rfl) (argsL := [(.long q0), (.int p1), (.int (2 : Int32))]) (rest := [(.long ((f_rmW q0 p1 (0 : Int32)) + (f_rmW q0 p1 (1 : Int32))))]) (lenOf pd__28JII_29J rfl) rfl (by show 2 * 0 + _ ≤ _; exact Nat.le_of_eq rfl) (hb hby at_110) (fun _ _ => ⟨rfl, e30, (by decide : 2 + 0 ≤ _), (by decide : 8 + 0 ≤ _)⟩)
  dsimp only [Pt.U, Pt.locs, Pt.cells, Pt.slots] at X31 l31 y31 z31 st31 hQ31
  obtain ⟨rfl, N31q, e31⟩ := hQ31
  obtain ⟨lc31, X31, N31⟩ := own_pack X31 l31 y31 z31 N30 N31q (C := 2) (S' := 8) rfl rfl
  refine own_thr (a := T31.setTop (mkF m 113 #[.val (.long q0), .second, .val (.int p1), .val (.ref b1), .val (.ref b3), .unset, .unset, .unset, .unset, .unset, .unset] [(.long (f_rmW q0 p1 (2 : Int32))), (.long ((f_rmW q0 p1 (0 : Int32)) + (f_rmW q0 p1 (1 : Int32))))])) (fun t kt => st31 t kt) ?_
  refine own_thr (a := T31.setTop (mkF m 117 #[.val (.long q0), .second, .val (.int p1), .val (.ref b1), .val (.ref b3), .unset, .unset, .unset, .unset, .unset, .unset] [(.int (3 : Int32)), (.int p1), (.long q0), (.long (((f_rmW q0 p1 (0 : Int32)) + (f_rmW q0 p1 (1 : Int32))) + (f_rmW q0 p1 (2 : Int32))))])) (fun t kt => ?_) ?_
  · show Steps p.tables e below (T31.setTop (mkF m 113 #[.val (.long q0), .second, .val (.int p1), .val (.ref b1), .val (.ref b3), .unset, .unset, .unset, .unset, .unset, .unset] [(.long (f_rmW q0 p1 (2 : Int32))), (.long ((f_rmW q0 p1 (0 : Int32)) + (f_rmW q0 p1 (1 : Int32))))])) _
    refine XS.ladd X31.here hx rfl (hb hby at_113) rfl ?_
    show Steps p.tables e below (T31.setTop (mkF m 114 #[.val (.long q0), .second, .val (.int p1), .val (.ref b1), .val (.ref b3), .unset, .unset, .unset, .unset, .unset, .unset] [(.long (((f_rmW q0 p1 (0 : Int32)) + (f_rmW q0 p1 (1 : Int32))) + (f_rmW q0 p1 (2 : Int32))))])) _
    refine XS.lloadN X31.here hx rfl (hb hby at_114) rfl ?_
    show Steps p.tables e below (T31.setTop (mkF m 115 #[.val (.long q0), .second, .val (.int p1), .val (.ref b1), .val (.ref b3), .unset, .unset, .unset, .unset, .unset, .unset] [(.long q0), (.long (((f_rmW q0 p1 (0 : Int32)) + (f_rmW q0 p1 (1 : Int32))) + (f_rmW q0 p1 (2 : Int32))))])) _
    refine XS.iloadN X31.here hx rfl (hb hby at_115) rfl ?_
    show Steps p.tables e below (T31.setTop (mkF m 116 #[.val (.long q0), .second, .val (.int p1), .val (.ref b1), .val (.ref b3), .unset, .unset, .unset, .unset, .unset, .unset] [(.int p1), (.long q0), (.long (((f_rmW q0 p1 (0 : Int32)) + (f_rmW q0 p1 (1 : Int32))) + (f_rmW q0 p1 (2 : Int32))))])) _
    refine XS.iconst X31.here hx rfl (hb hby at_116) ?_
    exact kt
  obtain ⟨_, _, ⟨T32, L32, k32, n32⟩, -, X32, ⟨Lc32, hQ32, l32, y32, z32⟩, st32⟩ := Jvm.LawKit.callS X31 hx (y := (⟨"com/example/tideline/tideline/store/CommitLogLinesPinLaw", "want", "(JII)J"⟩ : MethodName)) hown (mvT hZ (hw _ (List.mem_of_getElem? (i := 5) rfl))) (mvT hZ (hw _ (List.mem_of_getElem? (i := 6) rfl))) (mvT hZ (hw _ (List.mem_of_getElem? (i := 3) rfl))) (mvT hZ (hw _ (List.mem_of_getElem? (i := 7) rfl))) (by decide) (backOf (W := 2) (rmW l Z a0 hw [] q0 p1 (3 : Int32) h27 n0 Z28) hZ (hw _ (List.mem_of_getElem? (i := 7) rfl)) (hw _ (List.mem_of_getElem? (i := 3) rfl)) (by decide) (by decide)) (g := (mkF m 117 #[.val (.long q0), .second, .val (.int p1), .val (.ref b1), .val (.ref b3), .unset, .unset, .unset, .unset, .unset, .unset] [(.int (3 : Int32)), (.int p1), (.long q0), (.long (((f_rmW q0 p1 (0 : Int32)) + (f_rmW q0 p1 (1 : Int32))) + (f_rmW q0 p1 (2 : Int32))))])) rfl (by rw [hml]; rfl) (argsL := [(.long q0), (.int p1), (.int (3 : Int32))]) (rest := [(.long (((f_rmW q0 p1 (0 : Int32)) + (f_rmW q0 p1 (1 : Int32))) + (f_rmW q0 p1 (2 : Int32))))]) (lenOf pd__28JII_29J rfl) rfl (by show 2 * 0 + _ ≤ _; exact Nat.le_of_eq rfl) (hb hby at_117) (fun _ _ => ⟨rfl, e31, (by decide : 2 + 0 ≤ _), (by decide : 8 + 0 ≤ _)⟩)
  dsimp only [Pt.U, Pt.locs, Pt.cells, Pt.slots] at X32 l32 y32 z32 st32 hQ32
  obtain ⟨rfl, N32q, e32⟩ := hQ32
  obtain ⟨lc32, X32, N32⟩ := own_pack X32 l32 y32 z32 N31 N32q (C := 2) (S' := 8) rfl rfl
  refine own_thr (a := T32.setTop (mkF m 120 #[.val (.long q0), .second, .val (.int p1), .val (.ref b1), .val (.ref b3), .unset, .unset, .unset, .unset, .unset, .unset] [(.long (f_rmW q0 p1 (3 : Int32))), (.long (((f_rmW q0 p1 (0 : Int32)) + (f_rmW q0 p1 (1 : Int32))) + (f_rmW q0 p1 (2 : Int32))))])) (fun t kt => st32 t kt) ?_
  refine own_thr (a := T32.setTop (mkF m 124 #[.val (.long q0), .second, .val (.int p1), .val (.ref b1), .val (.ref b3), .unset, .unset, .unset, .unset, .unset, .unset] [(.int (4 : Int32)), (.int p1), (.long q0), (.long ((((f_rmW q0 p1 (0 : Int32)) + (f_rmW q0 p1 (1 : Int32))) + (f_rmW q0 p1 (2 : Int32))) + (f_rmW q0 p1 (3 : Int32))))])) (fun t kt => ?_) ?_
  · show Steps p.tables e below (T32.setTop (mkF m 120 #[.val (.long q0), .second, .val (.int p1), .val (.ref b1), .val (.ref b3), .unset, .unset, .unset, .unset, .unset, .unset] [(.long (f_rmW q0 p1 (3 : Int32))), (.long (((f_rmW q0 p1 (0 : Int32)) + (f_rmW q0 p1 (1 : Int32))) + (f_rmW q0 p1 (2 : Int32))))])) _
    refine XS.ladd X32.here hx rfl (hb hby at_120) rfl ?_
    show Steps p.tables e below (T32.setTop (mkF m 121 #[.val (.long q0), .second, .val (.int p1), .val (.ref b1), .val (.ref b3), .unset, .unset, .unset, .unset, .unset, .unset] [(.long ((((f_rmW q0 p1 (0 : Int32)) + (f_rmW q0 p1 (1 : Int32))) + (f_rmW q0 p1 (2 : Int32))) + (f_rmW q0 p1 (3 : Int32))))])) _
    refine XS.lloadN X32.here hx rfl (hb hby at_121) rfl ?_
    show Steps p.tables e below (T32.setTop (mkF m 122 #[.val (.long q0), .second, .val (.int p1), .val (.ref b1), .val (.ref b3), .unset, .unset, .unset, .unset, .unset, .unset] [(.long q0), (.long ((((f_rmW q0 p1 (0 : Int32)) + (f_rmW q0 p1 (1 : Int32))) + (f_rmW q0 p1 (2 : Int32))) + (f_rmW q0 p1 (3 : Int32))))])) _
    refine XS.iloadN X32.here hx rfl (hb hby at_122) rfl ?_
    show Steps p.tables e below (T32.setTop (mkF m 123 #[.val (.long q0), .second, .val (.int p1), .val (.ref b1), .val (.ref b3), .unset, .unset, .unset, .unset, .unset, .unset] [(.int p1), (.long q0), (.long ((((f_rmW q0 p1 (0 : Int32)) + (f_rmW q0 p1 (1 : Int32))) + (f_rmW q0 p1 (2 : Int32))) + (f_rmW q0 p1 (3 : Int32))))])) _
    refine XS.iconst X32.here hx rfl (hb hby at_123) ?_
    exact kt
  obtain ⟨_, _, ⟨T33, L33, k33, n33⟩, -, X33, ⟨Lc33, hQ33, l33, y33, z33⟩, st33⟩ := Jvm.LawKit.callS X32 hx (y := (⟨"com/example/tideline/tideline/store/CommitLogLinesPinLaw", "want", "(JII)J"⟩ : MethodName)) hown (mvT hZ (hw _ (List.mem_of_getElem? (i := 5) rfl))) (mvT hZ (hw _ (List.mem_of_getElem? (i := 6) rfl))) (mvT hZ (hw _ (List.mem_of_getElem? (i := 3) rfl))) (mvT hZ (hw _ (List.mem_of_getElem? (i := 7) rfl))) (by decide) (backOf (W := 2) (rmW l Z a0 hw [] q0 p1 (4 : Int32) h27 n0 Z28) hZ (hw _ (List.mem_of_getElem? (i := 7) rfl)) (hw _ (List.mem_of_getElem? (i := 3) rfl)) (by decide) (by decide)) (g := (mkF m 124 #[.val (.long q0), .second, .val (.int p1), .val (.ref b1), .val (.ref b3), .unset, .unset, .unset, .unset, .unset, .unset] [(.int (4 : Int32)), (.int p1), (.long q0), (.long ((((f_rmW q0 p1 (0 : Int32)) + (f_rmW q0 p1 (1 : Int32))) + (f_rmW q0 p1 (2 : Int32))) + (f_rmW q0 p1 (3 : Int32))))])) rfl (by rw [hml]; rfl) (argsL := [(.long q0), (.int p1), (.int (4 : Int32))]) (rest := [(.long ((((f_rmW q0 p1 (0 : Int32)) + (f_rmW q0 p1 (1 : Int32))) + (f_rmW q0 p1 (2 : Int32))) + (f_rmW q0 p1 (3 : Int32))))]) (lenOf pd__28JII_29J rfl) rfl (by show 2 * 0 + _ ≤ _; exact Nat.le_of_eq rfl) (hb hby at_124) (fun _ _ => ⟨rfl, e32, (by decide : 2 + 0 ≤ _), (by decide : 8 + 0 ≤ _)⟩)
  dsimp only [Pt.U, Pt.locs, Pt.cells, Pt.slots] at X33 l33 y33 z33 st33 hQ33
  obtain ⟨rfl, N33q, e33⟩ := hQ33
  obtain ⟨lc33, X33, N33⟩ := own_pack X33 l33 y33 z33 N32 N33q (C := 2) (S' := 8) rfl rfl
  refine own_thr (a := T33.setTop (mkF m 127 #[.val (.long q0), .second, .val (.int p1), .val (.ref b1), .val (.ref b3), .unset, .unset, .unset, .unset, .unset, .unset] [(.long (f_rmW q0 p1 (4 : Int32))), (.long ((((f_rmW q0 p1 (0 : Int32)) + (f_rmW q0 p1 (1 : Int32))) + (f_rmW q0 p1 (2 : Int32))) + (f_rmW q0 p1 (3 : Int32))))])) (fun t kt => st33 t kt) ?_
  refine own_thr (a := T33.setTop (mkF m 131 #[.val (.long q0), .second, .val (.int p1), .val (.ref b1), .val (.ref b3), .unset, .unset, .unset, .unset, .unset, .unset] [(.int (5 : Int32)), (.int p1), (.long q0), (.long (((((f_rmW q0 p1 (0 : Int32)) + (f_rmW q0 p1 (1 : Int32))) + (f_rmW q0 p1 (2 : Int32))) + (f_rmW q0 p1 (3 : Int32))) + (f_rmW q0 p1 (4 : Int32))))])) (fun t kt => ?_) ?_
  · show Steps p.tables e below (T33.setTop (mkF m 127 #[.val (.long q0), .second, .val (.int p1), .val (.ref b1), .val (.ref b3), .unset, .unset, .unset, .unset, .unset, .unset] [(.long (f_rmW q0 p1 (4 : Int32))), (.long ((((f_rmW q0 p1 (0 : Int32)) + (f_rmW q0 p1 (1 : Int32))) + (f_rmW q0 p1 (2 : Int32))) + (f_rmW q0 p1 (3 : Int32))))])) _
    refine XS.ladd X33.here hx rfl (hb hby at_127) rfl ?_
    show Steps p.tables e below (T33.setTop (mkF m 128 #[.val (.long q0), .second, .val (.int p1), .val (.ref b1), .val (.ref b3), .unset, .unset, .unset, .unset, .unset, .unset] [(.long (((((f_rmW q0 p1 (0 : Int32)) + (f_rmW q0 p1 (1 : Int32))) + (f_rmW q0 p1 (2 : Int32))) + (f_rmW q0 p1 (3 : Int32))) + (f_rmW q0 p1 (4 : Int32))))])) _
    refine XS.lloadN X33.here hx rfl (hb hby at_128) rfl ?_
    show Steps p.tables e below (T33.setTop (mkF m 129 #[.val (.long q0), .second, .val (.int p1), .val (.ref b1), .val (.ref b3), .unset, .unset, .unset, .unset, .unset, .unset] [(.long q0), (.long (((((f_rmW q0 p1 (0 : Int32)) + (f_rmW q0 p1 (1 : Int32))) + (f_rmW q0 p1 (2 : Int32))) + (f_rmW q0 p1 (3 : Int32))) + (f_rmW q0 p1 (4 : Int32))))])) _
    refine XS.iloadN X33.here hx rfl (hb hby at_129) rfl ?_
    show Steps p.tables e below (T33.setTop (mkF m 130 #[.val (.long q0), .second, .val (.int p1), .val (.ref b1), .val (.ref b3), .unset, .unset, .unset, .unset, .unset, .unset] [(.int p1), (.long q0), (.long (((((f_rmW q0 p1 (0 : Int32)) + (f_rmW q0 p1 (1 : Int32))) + (f_rmW q0 p1 (2 : Int32))) + (f_rmW q0 p1 (3 : Int32))) + (f_rmW q0 p1 (4 : Int32))))])) _
    refine XS.iconst X33.here hx rfl (hb hby at_130) ?_
    exact kt
  obtain ⟨_, _, ⟨T34, L34, k34, n34⟩, -, X34, ⟨Lc34, hQ34, l34, y34, z34⟩, st34⟩ := Jvm.LawKit.callS X33 hx (y := (⟨"com/example/tideline/tideline/store/CommitLogLinesPinLaw", "want", "(JII)J"⟩ : MethodName)) hown (mvT hZ (hw _ (List.mem_of_getElem? (i := 5) rfl))) (mvT hZ (hw _ (List.mem_of_getElem? (i := 6) rfl))) (mvT hZ (hw _ (List.mem_of_getElem? (i := 3) rfl))) (mvT hZ (hw _ (List.mem_of_getElem? (i := 7) rfl))) (by decide) (backOf (W := 2) (rmW l Z a0 hw [] q0 p1 (5 : Int32) h27 n0 Z28) hZ (hw _ (List.mem_of_getElem? (i := 7) rfl)) (hw _ (List.mem_of_getElem? (i := 3) rfl)) (by decide) (by decide)) (g := (mkF m 131 #[.val (.long q0), .second, .val (.int p1), .val (.ref b1), .val (.ref b3), .unset, .unset, .unset, .unset, .unset, .unset] [(.int (5 : Int32)), (.int p1), (.long q0), (.long (((((f_rmW q0 p1 (0 : Int32)) + (f_rmW q0 p1 (1 : Int32))) + (f_rmW q0 p1 (2 : Int32))) + (f_rmW q0 p1 (3 : Int32))) + (f_rmW q0 p1 (4 : Int32))))])) rfl (by rw [hml]; rfl) (argsL := [(.long q0), (.int p1), (.int (5 : Int32))]) (rest := [(.long (((((f_rmW q0 p1 (0 : Int32)) + (f_rmW q0 p1 (1 : Int32))) + (f_rmW q0 p1 (2 : Int32))) + (f_rmW q0 p1 (3 : Int32))) + (f_rmW q0 p1 (4 : Int32))))]) (lenOf pd__28JII_29J rfl) rfl (by show 2 * 0 + _ ≤ _; exact Nat.le_of_eq rfl) (hb hby at_131) (fun _ _ => ⟨rfl, e33, (by decide : 2 + 0 ≤ _), (by decide : 8 + 0 ≤ _)⟩)
  dsimp only [Pt.U, Pt.locs, Pt.cells, Pt.slots] at X34 l34 y34 z34 st34 hQ34
  obtain ⟨rfl, N34q, e34⟩ := hQ34
  obtain ⟨lc34, X34, N34⟩ := own_pack X34 l34 y34 z34 N33 N34q (C := 2) (S' := 8) rfl rfl
  refine own_thr (a := T34.setTop (mkF m 134 #[.val (.long q0), .second, .val (.int p1), .val (.ref b1), .val (.ref b3), .unset, .unset, .unset, .unset, .unset, .unset] [(.long (f_rmW q0 p1 (5 : Int32))), (.long (((((f_rmW q0 p1 (0 : Int32)) + (f_rmW q0 p1 (1 : Int32))) + (f_rmW q0 p1 (2 : Int32))) + (f_rmW q0 p1 (3 : Int32))) + (f_rmW q0 p1 (4 : Int32))))])) (fun t kt => st34 t kt) ?_
  refine own_thr (a := T34.setTop (mkF m 139 #[.val (.long q0), .second, .val (.int p1), .val (.ref b1), .val (.ref b3), .unset, .unset, .unset, .unset, .unset, .unset] [(.int (6 : Int32)), (.int p1), (.long q0), (.long ((((((f_rmW q0 p1 (0 : Int32)) + (f_rmW q0 p1 (1 : Int32))) + (f_rmW q0 p1 (2 : Int32))) + (f_rmW q0 p1 (3 : Int32))) + (f_rmW q0 p1 (4 : Int32))) + (f_rmW q0 p1 (5 : Int32))))])) (fun t kt => ?_) ?_
  · show Steps p.tables e below (T34.setTop (mkF m 134 #[.val (.long q0), .second, .val (.int p1), .val (.ref b1), .val (.ref b3), .unset, .unset, .unset, .unset, .unset, .unset] [(.long (f_rmW q0 p1 (5 : Int32))), (.long (((((f_rmW q0 p1 (0 : Int32)) + (f_rmW q0 p1 (1 : Int32))) + (f_rmW q0 p1 (2 : Int32))) + (f_rmW q0 p1 (3 : Int32))) + (f_rmW q0 p1 (4 : Int32))))])) _
    refine XS.ladd X34.here hx rfl (hb hby at_134) rfl ?_
    show Steps p.tables e below (T34.setTop (mkF m 135 #[.val (.long q0), .second, .val (.int p1), .val (.ref b1), .val (.ref b3), .unset, .unset, .unset, .unset, .unset, .unset] [(.long ((((((f_rmW q0 p1 (0 : Int32)) + (f_rmW q0 p1 (1 : Int32))) + (f_rmW q0 p1 (2 : Int32))) + (f_rmW q0 p1 (3 : Int32))) + (f_rmW q0 p1 (4 : Int32))) + (f_rmW q0 p1 (5 : Int32))))])) _
    refine XS.lloadN X34.here hx rfl (hb hby at_135) rfl ?_
    show Steps p.tables e below (T34.setTop (mkF m 136 #[.val (.long q0), .second, .val (.int p1), .val (.ref b1), .val (.ref b3), .unset, .unset, .unset, .unset, .unset, .unset] [(.long q0), (.long ((((((f_rmW q0 p1 (0 : Int32)) + (f_rmW q0 p1 (1 : Int32))) + (f_rmW q0 p1 (2 : Int32))) + (f_rmW q0 p1 (3 : Int32))) + (f_rmW q0 p1 (4 : Int32))) + (f_rmW q0 p1 (5 : Int32))))])) _
    refine XS.iloadN X34.here hx rfl (hb hby at_136) rfl ?_
    show Steps p.tables e below (T34.setTop (mkF m 137 #[.val (.long q0), .second, .val (.int p1), .val (.ref b1), .val (.ref b3), .unset, .unset, .unset, .unset, .unset, .unset] [(.int p1), (.long q0), (.long ((((((f_rmW q0 p1 (0 : Int32)) + (f_rmW q0 p1 (1 : Int32))) + (f_rmW q0 p1 (2 : Int32))) + (f_rmW q0 p1 (3 : Int32))) + (f_rmW q0 p1 (4 : Int32))) + (f_rmW q0 p1 (5 : Int32))))])) _
    refine XS.bipush X34.here hx rfl (hb hby at_137) ?_
    exact kt
  obtain ⟨_, _, ⟨T35, L35, k35, n35⟩, -, X35, ⟨Lc35, hQ35, l35, y35, z35⟩, st35⟩ := Jvm.LawKit.callS X34 hx (y := (⟨"com/example/tideline/tideline/store/CommitLogLinesPinLaw", "want", "(JII)J"⟩ : MethodName)) hown (mvT hZ (hw _ (List.mem_of_getElem? (i := 5) rfl))) (mvT hZ (hw _ (List.mem_of_getElem? (i := 6) rfl))) (mvT hZ (hw _ (List.mem_of_getElem? (i := 3) rfl))) (mvT hZ (hw _ (List.mem_of_getElem? (i := 7) rfl))) (by decide) (backOf (W := 2) (rmW l Z a0 hw [] q0 p1 (6 : Int32) h27 n0 Z28) hZ (hw _ (List.mem_of_getElem? (i := 7) rfl)) (hw _ (List.mem_of_getElem? (i := 3) rfl)) (by decide) (by decide)) (g := (mkF m 139 #[.val (.long q0), .second, .val (.int p1), .val (.ref b1), .val (.ref b3), .unset, .unset, .unset, .unset, .unset, .unset] [(.int (6 : Int32)), (.int p1), (.long q0), (.long ((((((f_rmW q0 p1 (0 : Int32)) + (f_rmW q0 p1 (1 : Int32))) + (f_rmW q0 p1 (2 : Int32))) + (f_rmW q0 p1 (3 : Int32))) + (f_rmW q0 p1 (4 : Int32))) + (f_rmW q0 p1 (5 : Int32))))])) rfl (by rw [hml]; rfl) (argsL := [(.long q0), (.int p1), (.int (6 : Int32))]) (rest := [(.long ((((((f_rmW q0 p1 (0 : Int32)) + (f_rmW q0 p1 (1 : Int32))) + (f_rmW q0 p1 (2 : Int32))) + (f_rmW q0 p1 (3 : Int32))) + (f_rmW q0 p1 (4 : Int32))) + (f_rmW q0 p1 (5 : Int32))))]) (lenOf pd__28JII_29J rfl) rfl (by show 2 * 0 + _ ≤ _; exact Nat.le_of_eq rfl) (hb hby at_139) (fun _ _ => ⟨rfl, e34, (by decide : 2 + 0 ≤ _), (by decide : 8 + 0 ≤ _)⟩)
  dsimp only [Pt.U, Pt.locs, Pt.cells, Pt.slots] at X35 l35 y35 z35 st35 hQ35
  obtain ⟨rfl, N35q, e35⟩ := hQ35
  obtain ⟨lc35, X35, N35⟩ := own_pack X35 l35 y35 z35 N34 N35q (C := 2) (S' := 8) rfl rfl
  refine own_thr (a := T35.setTop (mkF m 142 #[.val (.long q0), .second, .val (.int p1), .val (.ref b1), .val (.ref b3), .unset, .unset, .unset, .unset, .unset, .unset] [(.long (f_rmW q0 p1 (6 : Int32))), (.long ((((((f_rmW q0 p1 (0 : Int32)) + (f_rmW q0 p1 (1 : Int32))) + (f_rmW q0 p1 (2 : Int32))) + (f_rmW q0 p1 (3 : Int32))) + (f_rmW q0 p1 (4 : Int32))) + (f_rmW q0 p1 (5 : Int32))))])) (fun t kt => st35 t kt) ?_
  refine own_thr (a := T35.setTop (mkF m 147 #[.val (.long q0), .second, .val (.int p1), .val (.ref b1), .val (.ref b3), .unset, .unset, .unset, .unset, .unset, .unset] [(.int (7 : Int32)), (.int p1), (.long q0), (.long (((((((f_rmW q0 p1 (0 : Int32)) + (f_rmW q0 p1 (1 : Int32))) + (f_rmW q0 p1 (2 : Int32))) + (f_rmW q0 p1 (3 : Int32))) + (f_rmW q0 p1 (4 : Int32))) + (f_rmW q0 p1 (5 : Int32))) + (f_rmW q0 p1 (6 : Int32))))])) (fun t kt => ?_) ?_
  · show Steps p.tables e below (T35.setTop (mkF m 142 #[.val (.long q0), .second, .val (.int p1), .val (.ref b1), .val (.ref b3), .unset, .unset, .unset, .unset, .unset, .unset] [(.long (f_rmW q0 p1 (6 : Int32))), (.long ((((((f_rmW q0 p1 (0 : Int32)) + (f_rmW q0 p1 (1 : Int32))) + (f_rmW q0 p1 (2 : Int32))) + (f_rmW q0 p1 (3 : Int32))) + (f_rmW q0 p1 (4 : Int32))) + (f_rmW q0 p1 (5 : Int32))))])) _
    refine XS.ladd X35.here hx rfl (hb hby at_142) rfl ?_
    show Steps p.tables e below (T35.setTop (mkF m 143 #[.val (.long q0), .second, .val (.int p1), .val (.ref b1), .val (.ref b3), .unset, .unset, .unset, .unset, .unset, .unset] [(.long (((((((f_rmW q0 p1 (0 : Int32)) + (f_rmW q0 p1 (1 : Int32))) + (f_rmW q0 p1 (2 : Int32))) + (f_rmW q0 p1 (3 : Int32))) + (f_rmW q0 p1 (4 : Int32))) + (f_rmW q0 p1 (5 : Int32))) + (f_rmW q0 p1 (6 : Int32))))])) _
    refine XS.lloadN X35.here hx rfl (hb hby at_143) rfl ?_
    show Steps p.tables e below (T35.setTop (mkF m 144 #[.val (.long q0), .second, .val (.int p1), .val (.ref b1), .val (.ref b3), .unset, .unset, .unset, .unset, .unset, .unset] [(.long q0), (.long (((((((f_rmW q0 p1 (0 : Int32)) + (f_rmW q0 p1 (1 : Int32))) + (f_rmW q0 p1 (2 : Int32))) + (f_rmW q0 p1 (3 : Int32))) + (f_rmW q0 p1 (4 : Int32))) + (f_rmW q0 p1 (5 : Int32))) + (f_rmW q0 p1 (6 : Int32))))])) _
    refine XS.iloadN X35.here hx rfl (hb hby at_144) rfl ?_
    show Steps p.tables e below (T35.setTop (mkF m 145 #[.val (.long q0), .second, .val (.int p1), .val (.ref b1), .val (.ref b3), .unset, .unset, .unset, .unset, .unset, .unset] [(.int p1), (.long q0), (.long (((((((f_rmW q0 p1 (0 : Int32)) + (f_rmW q0 p1 (1 : Int32))) + (f_rmW q0 p1 (2 : Int32))) + (f_rmW q0 p1 (3 : Int32))) + (f_rmW q0 p1 (4 : Int32))) + (f_rmW q0 p1 (5 : Int32))) + (f_rmW q0 p1 (6 : Int32))))])) _
    refine XS.bipush X35.here hx rfl (hb hby at_145) ?_
    exact kt
  obtain ⟨_, _, ⟨T36, L36, k36, n36⟩, -, X36, ⟨Lc36, hQ36, l36, y36, z36⟩, st36⟩ := Jvm.LawKit.callS X35 hx (y := (⟨"com/example/tideline/tideline/store/CommitLogLinesPinLaw", "want", "(JII)J"⟩ : MethodName)) hown (mvT hZ (hw _ (List.mem_of_getElem? (i := 5) rfl))) (mvT hZ (hw _ (List.mem_of_getElem? (i := 6) rfl))) (mvT hZ (hw _ (List.mem_of_getElem? (i := 3) rfl))) (mvT hZ (hw _ (List.mem_of_getElem? (i := 7) rfl))) (by decide) (backOf (W := 2) (rmW l Z a0 hw [] q0 p1 (7 : Int32) h27 n0 Z28) hZ (hw _ (List.mem_of_getElem? (i := 7) rfl)) (hw _ (List.mem_of_getElem? (i := 3) rfl)) (by decide) (by decide)) (g := (mkF m 147 #[.val (.long q0), .second, .val (.int p1), .val (.ref b1), .val (.ref b3), .unset, .unset, .unset, .unset, .unset, .unset] [(.int (7 : Int32)), (.int p1), (.long q0), (.long (((((((f_rmW q0 p1 (0 : Int32)) + (f_rmW q0 p1 (1 : Int32))) + (f_rmW q0 p1 (2 : Int32))) + (f_rmW q0 p1 (3 : Int32))) + (f_rmW q0 p1 (4 : Int32))) + (f_rmW q0 p1 (5 : Int32))) + (f_rmW q0 p1 (6 : Int32))))])) rfl (by rw [hml]; rfl) (argsL := [(.long q0), (.int p1), (.int (7 : Int32))]) (rest := [(.long (((((((f_rmW q0 p1 (0 : Int32)) + (f_rmW q0 p1 (1 : Int32))) + (f_rmW q0 p1 (2 : Int32))) + (f_rmW q0 p1 (3 : Int32))) + (f_rmW q0 p1 (4 : Int32))) + (f_rmW q0 p1 (5 : Int32))) + (f_rmW q0 p1 (6 : Int32))))]) (lenOf pd__28JII_29J rfl) rfl (by show 2 * 0 + _ ≤ _; exact Nat.le_of_eq rfl) (hb hby at_147) (fun _ _ => ⟨rfl, e35, (by decide : 2 + 0 ≤ _), (by decide : 8 + 0 ≤ _)⟩)
  dsimp only [Pt.U, Pt.locs, Pt.cells, Pt.slots] at X36 l36 y36 z36 st36 hQ36
  obtain ⟨rfl, N36q, e36⟩ := hQ36
  obtain ⟨lc36, X36, N36⟩ := own_pack X36 l36 y36 z36 N35 N36q (C := 2) (S' := 8) rfl rfl
  refine own_thr (a := T36.setTop (mkF m 150 #[.val (.long q0), .second, .val (.int p1), .val (.ref b1), .val (.ref b3), .unset, .unset, .unset, .unset, .unset, .unset] [(.long (f_rmW q0 p1 (7 : Int32))), (.long (((((((f_rmW q0 p1 (0 : Int32)) + (f_rmW q0 p1 (1 : Int32))) + (f_rmW q0 p1 (2 : Int32))) + (f_rmW q0 p1 (3 : Int32))) + (f_rmW q0 p1 (4 : Int32))) + (f_rmW q0 p1 (5 : Int32))) + (f_rmW q0 p1 (6 : Int32))))])) (fun t kt => st36 t kt) ?_
  refine own_thr (a := T36.setTop (mkF m 154 #[.val (.long q0), .second, .val (.int p1), .val (.ref b1), .val (.ref b3), .val (.long ((((((((f_rmW q0 p1 (0 : Int32)) + (f_rmW q0 p1 (1 : Int32))) + (f_rmW q0 p1 (2 : Int32))) + (f_rmW q0 p1 (3 : Int32))) + (f_rmW q0 p1 (4 : Int32))) + (f_rmW q0 p1 (5 : Int32))) + (f_rmW q0 p1 (6 : Int32))) + (f_rmW q0 p1 (7 : Int32)))), .second, .unset, .unset, .unset, .unset] [(.ref b1)])) (fun t kt => ?_) ?_
  · show Steps p.tables e below (T36.setTop (mkF m 150 #[.val (.long q0), .second, .val (.int p1), .val (.ref b1), .val (.ref b3), .unset, .unset, .unset, .unset, .unset, .unset] [(.long (f_rmW q0 p1 (7 : Int32))), (.long (((((((f_rmW q0 p1 (0 : Int32)) + (f_rmW q0 p1 (1 : Int32))) + (f_rmW q0 p1 (2 : Int32))) + (f_rmW q0 p1 (3 : Int32))) + (f_rmW q0 p1 (4 : Int32))) + (f_rmW q0 p1 (5 : Int32))) + (f_rmW q0 p1 (6 : Int32))))])) _
    refine XS.ladd X36.here hx rfl (hb hby at_150) rfl ?_
    show Steps p.tables e below (T36.setTop (mkF m 151 #[.val (.long q0), .second, .val (.int p1), .val (.ref b1), .val (.ref b3), .unset, .unset, .unset, .unset, .unset, .unset] [(.long ((((((((f_rmW q0 p1 (0 : Int32)) + (f_rmW q0 p1 (1 : Int32))) + (f_rmW q0 p1 (2 : Int32))) + (f_rmW q0 p1 (3 : Int32))) + (f_rmW q0 p1 (4 : Int32))) + (f_rmW q0 p1 (5 : Int32))) + (f_rmW q0 p1 (6 : Int32))) + (f_rmW q0 p1 (7 : Int32))))])) _
    refine XS.lstore X36.here hx rfl (hb hby at_151) rfl (l' := #[.val (.long q0), .second, .val (.int p1), .val (.ref b1), .val (.ref b3), .val (.long ((((((((f_rmW q0 p1 (0 : Int32)) + (f_rmW q0 p1 (1 : Int32))) + (f_rmW q0 p1 (2 : Int32))) + (f_rmW q0 p1 (3 : Int32))) + (f_rmW q0 p1 (4 : Int32))) + (f_rmW q0 p1 (5 : Int32))) + (f_rmW q0 p1 (6 : Int32))) + (f_rmW q0 p1 (7 : Int32)))), .second, .unset, .unset, .unset, .unset]) rfl ?_
    show Steps p.tables e below (T36.setTop (mkF m 153 #[.val (.long q0), .second, .val (.int p1), .val (.ref b1), .val (.ref b3), .val (.long ((((((((f_rmW q0 p1 (0 : Int32)) + (f_rmW q0 p1 (1 : Int32))) + (f_rmW q0 p1 (2 : Int32))) + (f_rmW q0 p1 (3 : Int32))) + (f_rmW q0 p1 (4 : Int32))) + (f_rmW q0 p1 (5 : Int32))) + (f_rmW q0 p1 (6 : Int32))) + (f_rmW q0 p1 (7 : Int32)))), .second, .unset, .unset, .unset, .unset] [])) _
    refine XS.aloadN X36.here hx rfl (hb hby at_153) rfl rfl ?_
    exact kt
  have c38 := (((((((((V_b1.ext E3).other W6 ne_b1_b3).other W9 ne_b1_b3).other W12 ne_b1_b3).other W15 ne_b1_b3).other W18 ne_b1_b3).other W21 ne_b1_b3).other W24 ne_b1_b3).other W27 ne_b1_b3)
  obtain ⟨_, _, ⟨T37, L37, k37, n37⟩, -, X37, ⟨Lc37, hQ37, l37, y37, z37⟩, st37⟩ := Jvm.LawKit.callS X36 hx (y := (⟨"com/example/tideline/tideline/store/CommitLog", "lines", "([B)J"⟩ : MethodName)) hown (mvT hZ (hw _ (List.mem_of_getElem? (i := 10) rfl))) (mvT hZ (hw _ (List.mem_of_getElem? (i := 11) rfl))) (mvT hZ (hw _ (List.mem_of_getElem? (i := 12) rfl))) (mvT hZ (hw _ (List.mem_of_getElem? (i := 13) rfl))) (by decide) (backOf (W := 0) (rmL l Z a0 hw [] b1 k1 [] h27 n0 Z28 c38 (by show 0 < 2 ^ 31; decide)) hZ (hw _ (List.mem_of_getElem? (i := 13) rfl)) (hw _ (List.mem_of_getElem? (i := 12) rfl)) (by decide) (by decide)) (g := (mkF m 154 #[.val (.long q0), .second, .val (.int p1), .val (.ref b1), .val (.ref b3), .val (.long ((((((((f_rmW q0 p1 (0 : Int32)) + (f_rmW q0 p1 (1 : Int32))) + (f_rmW q0 p1 (2 : Int32))) + (f_rmW q0 p1 (3 : Int32))) + (f_rmW q0 p1 (4 : Int32))) + (f_rmW q0 p1 (5 : Int32))) + (f_rmW q0 p1 (6 : Int32))) + (f_rmW q0 p1 (7 : Int32)))), .second, .unset, .unset, .unset, .unset] [(.ref b1)])) rfl (by rw [hml]; rfl) (argsL := [(.ref b1)]) (rest := []) (lenOf pd__28_5bB_29J rfl) rfl (by show 2 * 0 + _ ≤ _; exact Nat.le_of_eq rfl) (hb hby at_154) (fun _ _ => ⟨rfl, e36, (by decide : 2 + 0 ≤ _), (by decide : 8 + 0 ≤ _)⟩)
  dsimp only [Pt.U, Pt.locs, Pt.cells, Pt.slots] at X37 l37 y37 z37 st37 hQ37
  obtain ⟨rfl, N37q, e37⟩ := hQ37
  obtain ⟨lc37, X37, N37⟩ := own_pack X37 l37 y37 z37 N36 N37q (C := 2) (S' := 8) rfl rfl
  refine own_thr (a := T37.setTop (mkF m 157 #[.val (.long q0), .second, .val (.int p1), .val (.ref b1), .val (.ref b3), .val (.long ((((((((f_rmW q0 p1 (0 : Int32)) + (f_rmW q0 p1 (1 : Int32))) + (f_rmW q0 p1 (2 : Int32))) + (f_rmW q0 p1 (3 : Int32))) + (f_rmW q0 p1 (4 : Int32))) + (f_rmW q0 p1 (5 : Int32))) + (f_rmW q0 p1 (6 : Int32))) + (f_rmW q0 p1 (7 : Int32)))), .second, .unset, .unset, .unset, .unset] [(.long (own_cnt []))])) (fun t kt => st37 t kt) ?_
  refine own_thr (a := T37.setTop (mkF m 161 #[.val (.long q0), .second, .val (.int p1), .val (.ref b1), .val (.ref b3), .val (.long ((((((((f_rmW q0 p1 (0 : Int32)) + (f_rmW q0 p1 (1 : Int32))) + (f_rmW q0 p1 (2 : Int32))) + (f_rmW q0 p1 (3 : Int32))) + (f_rmW q0 p1 (4 : Int32))) + (f_rmW q0 p1 (5 : Int32))) + (f_rmW q0 p1 (6 : Int32))) + (f_rmW q0 p1 (7 : Int32)))), .second, .val (.long (own_cnt [])), .second, .unset, .unset] [(.ref b3)])) (fun t kt => ?_) ?_
  · show Steps p.tables e below (T37.setTop (mkF m 157 #[.val (.long q0), .second, .val (.int p1), .val (.ref b1), .val (.ref b3), .val (.long ((((((((f_rmW q0 p1 (0 : Int32)) + (f_rmW q0 p1 (1 : Int32))) + (f_rmW q0 p1 (2 : Int32))) + (f_rmW q0 p1 (3 : Int32))) + (f_rmW q0 p1 (4 : Int32))) + (f_rmW q0 p1 (5 : Int32))) + (f_rmW q0 p1 (6 : Int32))) + (f_rmW q0 p1 (7 : Int32)))), .second, .unset, .unset, .unset, .unset] [(.long (own_cnt []))])) _
    refine XS.lstore X37.here hx rfl (hb hby at_157) rfl (l' := #[.val (.long q0), .second, .val (.int p1), .val (.ref b1), .val (.ref b3), .val (.long ((((((((f_rmW q0 p1 (0 : Int32)) + (f_rmW q0 p1 (1 : Int32))) + (f_rmW q0 p1 (2 : Int32))) + (f_rmW q0 p1 (3 : Int32))) + (f_rmW q0 p1 (4 : Int32))) + (f_rmW q0 p1 (5 : Int32))) + (f_rmW q0 p1 (6 : Int32))) + (f_rmW q0 p1 (7 : Int32)))), .second, .val (.long (own_cnt [])), .second, .unset, .unset]) rfl ?_
    show Steps p.tables e below (T37.setTop (mkF m 159 #[.val (.long q0), .second, .val (.int p1), .val (.ref b1), .val (.ref b3), .val (.long ((((((((f_rmW q0 p1 (0 : Int32)) + (f_rmW q0 p1 (1 : Int32))) + (f_rmW q0 p1 (2 : Int32))) + (f_rmW q0 p1 (3 : Int32))) + (f_rmW q0 p1 (4 : Int32))) + (f_rmW q0 p1 (5 : Int32))) + (f_rmW q0 p1 (6 : Int32))) + (f_rmW q0 p1 (7 : Int32)))), .second, .val (.long (own_cnt [])), .second, .unset, .unset] [])) _
    refine XS.aload X37.here hx rfl (hb hby at_159) rfl rfl ?_
    exact kt
  obtain ⟨_, _, ⟨T39, L39, k39, n39⟩, -, X39, ⟨Lc39, hQ39, l39, y39, z39⟩, st39⟩ := Jvm.LawKit.callS X37 hx (y := (⟨"com/example/tideline/tideline/store/CommitLog", "lines", "([B)J"⟩ : MethodName)) hown (mvT hZ (hw _ (List.mem_of_getElem? (i := 10) rfl))) (mvT hZ (hw _ (List.mem_of_getElem? (i := 11) rfl))) (mvT hZ (hw _ (List.mem_of_getElem? (i := 12) rfl))) (mvT hZ (hw _ (List.mem_of_getElem? (i := 13) rfl))) (by decide) (backOf (W := 0) (rmL l Z a0 hw [] b3 k3 [((f_rmA q0 p1 (0 : Int32)).toInt8.toInt32), ((f_rmA q0 p1 (1 : Int32)).toInt8.toInt32), ((f_rmA q0 p1 (2 : Int32)).toInt8.toInt32), ((f_rmA q0 p1 (3 : Int32)).toInt8.toInt32), ((f_rmA q0 p1 (4 : Int32)).toInt8.toInt32), ((f_rmA q0 p1 (5 : Int32)).toInt8.toInt32), ((f_rmA q0 p1 (6 : Int32)).toInt8.toInt32), ((f_rmA q0 p1 (7 : Int32)).toInt8.toInt32)] h27 n0 Z28 V27 (by show 8 < 2 ^ 31; decide)) hZ (hw _ (List.mem_of_getElem? (i := 13) rfl)) (hw _ (List.mem_of_getElem? (i := 12) rfl)) (by decide) (by decide)) (g := (mkF m 161 #[.val (.long q0), .second, .val (.int p1), .val (.ref b1), .val (.ref b3), .val (.long ((((((((f_rmW q0 p1 (0 : Int32)) + (f_rmW q0 p1 (1 : Int32))) + (f_rmW q0 p1 (2 : Int32))) + (f_rmW q0 p1 (3 : Int32))) + (f_rmW q0 p1 (4 : Int32))) + (f_rmW q0 p1 (5 : Int32))) + (f_rmW q0 p1 (6 : Int32))) + (f_rmW q0 p1 (7 : Int32)))), .second, .val (.long (own_cnt [])), .second, .unset, .unset] [(.ref b3)])) rfl (by rw [hml]; rfl) (argsL := [(.ref b3)]) (rest := []) (lenOf pd__28_5bB_29J rfl) rfl (by show 2 * 0 + _ ≤ _; exact Nat.le_of_eq rfl) (hb hby at_161) (fun _ _ => ⟨rfl, e37, (by decide : 2 + 0 ≤ _), (by decide : 8 + 0 ≤ _)⟩)
  dsimp only [Pt.U, Pt.locs, Pt.cells, Pt.slots] at X39 l39 y39 z39 st39 hQ39
  obtain ⟨rfl, N39q, e39⟩ := hQ39
  obtain ⟨lc39, X39, N39⟩ := own_pack X39 l39 y39 z39 N37 N39q (C := 2) (S' := 8) rfl rfl
  refine own_thr (a := T39.setTop (mkF m 164 #[.val (.long q0), .second, .val (.int p1), .val (.ref b1), .val (.ref b3), .val (.long ((((((((f_rmW q0 p1 (0 : Int32)) + (f_rmW q0 p1 (1 : Int32))) + (f_rmW q0 p1 (2 : Int32))) + (f_rmW q0 p1 (3 : Int32))) + (f_rmW q0 p1 (4 : Int32))) + (f_rmW q0 p1 (5 : Int32))) + (f_rmW q0 p1 (6 : Int32))) + (f_rmW q0 p1 (7 : Int32)))), .second, .val (.long (own_cnt [])), .second, .unset, .unset] [(.long (own_cnt [((f_rmA q0 p1 (0 : Int32)).toInt8.toInt32), ((f_rmA q0 p1 (1 : Int32)).toInt8.toInt32), ((f_rmA q0 p1 (2 : Int32)).toInt8.toInt32), ((f_rmA q0 p1 (3 : Int32)).toInt8.toInt32), ((f_rmA q0 p1 (4 : Int32)).toInt8.toInt32), ((f_rmA q0 p1 (5 : Int32)).toInt8.toInt32), ((f_rmA q0 p1 (6 : Int32)).toInt8.toInt32), ((f_rmA q0 p1 (7 : Int32)).toInt8.toInt32)]))])) (fun t kt => st39 t kt) ?_
  refine own_thr (a := T39.setTop (mkF m 186 #[.val (.long q0), .second, .val (.int p1), .val (.ref b1), .val (.ref b3), .val (.long ((((((((f_rmW q0 p1 (0 : Int32)) + (f_rmW q0 p1 (1 : Int32))) + (f_rmW q0 p1 (2 : Int32))) + (f_rmW q0 p1 (3 : Int32))) + (f_rmW q0 p1 (4 : Int32))) + (f_rmW q0 p1 (5 : Int32))) + (f_rmW q0 p1 (6 : Int32))) + (f_rmW q0 p1 (7 : Int32)))), .second, .val (.long (own_cnt [])), .second, .val (.long (own_cnt [((f_rmA q0 p1 (0 : Int32)).toInt8.toInt32), ((f_rmA q0 p1 (1 : Int32)).toInt8.toInt32), ((f_rmA q0 p1 (2 : Int32)).toInt8.toInt32), ((f_rmA q0 p1 (3 : Int32)).toInt8.toInt32), ((f_rmA q0 p1 (4 : Int32)).toInt8.toInt32), ((f_rmA q0 p1 (5 : Int32)).toInt8.toInt32), ((f_rmA q0 p1 (6 : Int32)).toInt8.toInt32), ((f_rmA q0 p1 (7 : Int32)).toInt8.toInt32)])), .second] [(.int (1 : Int32))])) (fun t kt => ?_) ?_
  · show Steps p.tables e below (T39.setTop (mkF m 164 #[.val (.long q0), .second, .val (.int p1), .val (.ref b1), .val (.ref b3), .val (.long ((((((((f_rmW q0 p1 (0 : Int32)) + (f_rmW q0 p1 (1 : Int32))) + (f_rmW q0 p1 (2 : Int32))) + (f_rmW q0 p1 (3 : Int32))) + (f_rmW q0 p1 (4 : Int32))) + (f_rmW q0 p1 (5 : Int32))) + (f_rmW q0 p1 (6 : Int32))) + (f_rmW q0 p1 (7 : Int32)))), .second, .val (.long (own_cnt [])), .second, .unset, .unset] [(.long (own_cnt [((f_rmA q0 p1 (0 : Int32)).toInt8.toInt32), ((f_rmA q0 p1 (1 : Int32)).toInt8.toInt32), ((f_rmA q0 p1 (2 : Int32)).toInt8.toInt32), ((f_rmA q0 p1 (3 : Int32)).toInt8.toInt32), ((f_rmA q0 p1 (4 : Int32)).toInt8.toInt32), ((f_rmA q0 p1 (5 : Int32)).toInt8.toInt32), ((f_rmA q0 p1 (6 : Int32)).toInt8.toInt32), ((f_rmA q0 p1 (7 : Int32)).toInt8.toInt32)]))])) _
    refine XS.lstore X39.here hx rfl (hb hby at_164) rfl (l' := #[.val (.long q0), .second, .val (.int p1), .val (.ref b1), .val (.ref b3), .val (.long ((((((((f_rmW q0 p1 (0 : Int32)) + (f_rmW q0 p1 (1 : Int32))) + (f_rmW q0 p1 (2 : Int32))) + (f_rmW q0 p1 (3 : Int32))) + (f_rmW q0 p1 (4 : Int32))) + (f_rmW q0 p1 (5 : Int32))) + (f_rmW q0 p1 (6 : Int32))) + (f_rmW q0 p1 (7 : Int32)))), .second, .val (.long (own_cnt [])), .second, .val (.long (own_cnt [((f_rmA q0 p1 (0 : Int32)).toInt8.toInt32), ((f_rmA q0 p1 (1 : Int32)).toInt8.toInt32), ((f_rmA q0 p1 (2 : Int32)).toInt8.toInt32), ((f_rmA q0 p1 (3 : Int32)).toInt8.toInt32), ((f_rmA q0 p1 (4 : Int32)).toInt8.toInt32), ((f_rmA q0 p1 (5 : Int32)).toInt8.toInt32), ((f_rmA q0 p1 (6 : Int32)).toInt8.toInt32), ((f_rmA q0 p1 (7 : Int32)).toInt8.toInt32)])), .second]) rfl ?_
    show Steps p.tables e below (T39.setTop (mkF m 166 #[.val (.long q0), .second, .val (.int p1), .val (.ref b1), .val (.ref b3), .val (.long ((((((((f_rmW q0 p1 (0 : Int32)) + (f_rmW q0 p1 (1 : Int32))) + (f_rmW q0 p1 (2 : Int32))) + (f_rmW q0 p1 (3 : Int32))) + (f_rmW q0 p1 (4 : Int32))) + (f_rmW q0 p1 (5 : Int32))) + (f_rmW q0 p1 (6 : Int32))) + (f_rmW q0 p1 (7 : Int32)))), .second, .val (.long (own_cnt [])), .second, .val (.long (own_cnt [((f_rmA q0 p1 (0 : Int32)).toInt8.toInt32), ((f_rmA q0 p1 (1 : Int32)).toInt8.toInt32), ((f_rmA q0 p1 (2 : Int32)).toInt8.toInt32), ((f_rmA q0 p1 (3 : Int32)).toInt8.toInt32), ((f_rmA q0 p1 (4 : Int32)).toInt8.toInt32), ((f_rmA q0 p1 (5 : Int32)).toInt8.toInt32), ((f_rmA q0 p1 (6 : Int32)).toInt8.toInt32), ((f_rmA q0 p1 (7 : Int32)).toInt8.toInt32)])), .second] [])) _
    refine XS.lload X39.here hx rfl (hb hby at_166) rfl ?_
    show Steps p.tables e below (T39.setTop (mkF m 168 #[.val (.long q0), .second, .val (.int p1), .val (.ref b1), .val (.ref b3), .val (.long ((((((((f_rmW q0 p1 (0 : Int32)) + (f_rmW q0 p1 (1 : Int32))) + (f_rmW q0 p1 (2 : Int32))) + (f_rmW q0 p1 (3 : Int32))) + (f_rmW q0 p1 (4 : Int32))) + (f_rmW q0 p1 (5 : Int32))) + (f_rmW q0 p1 (6 : Int32))) + (f_rmW q0 p1 (7 : Int32)))), .second, .val (.long (own_cnt [])), .second, .val (.long (own_cnt [((f_rmA q0 p1 (0 : Int32)).toInt8.toInt32), ((f_rmA q0 p1 (1 : Int32)).toInt8.toInt32), ((f_rmA q0 p1 (2 : Int32)).toInt8.toInt32), ((f_rmA q0 p1 (3 : Int32)).toInt8.toInt32), ((f_rmA q0 p1 (4 : Int32)).toInt8.toInt32), ((f_rmA q0 p1 (5 : Int32)).toInt8.toInt32), ((f_rmA q0 p1 (6 : Int32)).toInt8.toInt32), ((f_rmA q0 p1 (7 : Int32)).toInt8.toInt32)])), .second] [(.long (own_cnt []))])) _
    refine XS.lconst X39.here hx rfl (hb hby at_168) ?_
    show Steps p.tables e below (T39.setTop (mkF m 169 #[.val (.long q0), .second, .val (.int p1), .val (.ref b1), .val (.ref b3), .val (.long ((((((((f_rmW q0 p1 (0 : Int32)) + (f_rmW q0 p1 (1 : Int32))) + (f_rmW q0 p1 (2 : Int32))) + (f_rmW q0 p1 (3 : Int32))) + (f_rmW q0 p1 (4 : Int32))) + (f_rmW q0 p1 (5 : Int32))) + (f_rmW q0 p1 (6 : Int32))) + (f_rmW q0 p1 (7 : Int32)))), .second, .val (.long (own_cnt [])), .second, .val (.long (own_cnt [((f_rmA q0 p1 (0 : Int32)).toInt8.toInt32), ((f_rmA q0 p1 (1 : Int32)).toInt8.toInt32), ((f_rmA q0 p1 (2 : Int32)).toInt8.toInt32), ((f_rmA q0 p1 (3 : Int32)).toInt8.toInt32), ((f_rmA q0 p1 (4 : Int32)).toInt8.toInt32), ((f_rmA q0 p1 (5 : Int32)).toInt8.toInt32), ((f_rmA q0 p1 (6 : Int32)).toInt8.toInt32), ((f_rmA q0 p1 (7 : Int32)).toInt8.toInt32)])), .second] [(.long (0 : Int64)), (.long (own_cnt []))])) _
    refine XS.lcmp X39.here hx rfl (hb hby at_169) rfl ?_
    show Steps p.tables e below (T39.setTop (mkF m 170 #[.val (.long q0), .second, .val (.int p1), .val (.ref b1), .val (.ref b3), .val (.long ((((((((f_rmW q0 p1 (0 : Int32)) + (f_rmW q0 p1 (1 : Int32))) + (f_rmW q0 p1 (2 : Int32))) + (f_rmW q0 p1 (3 : Int32))) + (f_rmW q0 p1 (4 : Int32))) + (f_rmW q0 p1 (5 : Int32))) + (f_rmW q0 p1 (6 : Int32))) + (f_rmW q0 p1 (7 : Int32)))), .second, .val (.long (own_cnt [])), .second, .val (.long (own_cnt [((f_rmA q0 p1 (0 : Int32)).toInt8.toInt32), ((f_rmA q0 p1 (1 : Int32)).toInt8.toInt32), ((f_rmA q0 p1 (2 : Int32)).toInt8.toInt32), ((f_rmA q0 p1 (3 : Int32)).toInt8.toInt32), ((f_rmA q0 p1 (4 : Int32)).toInt8.toInt32), ((f_rmA q0 p1 (5 : Int32)).toInt8.toInt32), ((f_rmA q0 p1 (6 : Int32)).toInt8.toInt32), ((f_rmA q0 p1 (7 : Int32)).toInt8.toInt32)])), .second] [(.int (lcmpW (own_cnt []) (0 : Int64)))])) _
    refine XS.ifNo X39.here hx rfl (hb hby at_170) rfl ((if0 _ _).trans (teq ((lw_eq (own_cnt []) (0 : Int64)).mpr rfl)).2) ?_
    show Steps p.tables e below (T39.setTop (mkF m 173 #[.val (.long q0), .second, .val (.int p1), .val (.ref b1), .val (.ref b3), .val (.long ((((((((f_rmW q0 p1 (0 : Int32)) + (f_rmW q0 p1 (1 : Int32))) + (f_rmW q0 p1 (2 : Int32))) + (f_rmW q0 p1 (3 : Int32))) + (f_rmW q0 p1 (4 : Int32))) + (f_rmW q0 p1 (5 : Int32))) + (f_rmW q0 p1 (6 : Int32))) + (f_rmW q0 p1 (7 : Int32)))), .second, .val (.long (own_cnt [])), .second, .val (.long (own_cnt [((f_rmA q0 p1 (0 : Int32)).toInt8.toInt32), ((f_rmA q0 p1 (1 : Int32)).toInt8.toInt32), ((f_rmA q0 p1 (2 : Int32)).toInt8.toInt32), ((f_rmA q0 p1 (3 : Int32)).toInt8.toInt32), ((f_rmA q0 p1 (4 : Int32)).toInt8.toInt32), ((f_rmA q0 p1 (5 : Int32)).toInt8.toInt32), ((f_rmA q0 p1 (6 : Int32)).toInt8.toInt32), ((f_rmA q0 p1 (7 : Int32)).toInt8.toInt32)])), .second] [])) _
    refine XS.lload X39.here hx rfl (hb hby at_173) rfl ?_
    show Steps p.tables e below (T39.setTop (mkF m 175 #[.val (.long q0), .second, .val (.int p1), .val (.ref b1), .val (.ref b3), .val (.long ((((((((f_rmW q0 p1 (0 : Int32)) + (f_rmW q0 p1 (1 : Int32))) + (f_rmW q0 p1 (2 : Int32))) + (f_rmW q0 p1 (3 : Int32))) + (f_rmW q0 p1 (4 : Int32))) + (f_rmW q0 p1 (5 : Int32))) + (f_rmW q0 p1 (6 : Int32))) + (f_rmW q0 p1 (7 : Int32)))), .second, .val (.long (own_cnt [])), .second, .val (.long (own_cnt [((f_rmA q0 p1 (0 : Int32)).toInt8.toInt32), ((f_rmA q0 p1 (1 : Int32)).toInt8.toInt32), ((f_rmA q0 p1 (2 : Int32)).toInt8.toInt32), ((f_rmA q0 p1 (3 : Int32)).toInt8.toInt32), ((f_rmA q0 p1 (4 : Int32)).toInt8.toInt32), ((f_rmA q0 p1 (5 : Int32)).toInt8.toInt32), ((f_rmA q0 p1 (6 : Int32)).toInt8.toInt32), ((f_rmA q0 p1 (7 : Int32)).toInt8.toInt32)])), .second] [(.long (own_cnt [((f_rmA q0 p1 (0 : Int32)).toInt8.toInt32), ((f_rmA q0 p1 (1 : Int32)).toInt8.toInt32), ((f_rmA q0 p1 (2 : Int32)).toInt8.toInt32), ((f_rmA q0 p1 (3 : Int32)).toInt8.toInt32), ((f_rmA q0 p1 (4 : Int32)).toInt8.toInt32), ((f_rmA q0 p1 (5 : Int32)).toInt8.toInt32), ((f_rmA q0 p1 (6 : Int32)).toInt8.toInt32), ((f_rmA q0 p1 (7 : Int32)).toInt8.toInt32)]))])) _
    refine XS.lload X39.here hx rfl (hb hby at_175) rfl ?_
    show Steps p.tables e below (T39.setTop (mkF m 177 #[.val (.long q0), .second, .val (.int p1), .val (.ref b1), .val (.ref b3), .val (.long ((((((((f_rmW q0 p1 (0 : Int32)) + (f_rmW q0 p1 (1 : Int32))) + (f_rmW q0 p1 (2 : Int32))) + (f_rmW q0 p1 (3 : Int32))) + (f_rmW q0 p1 (4 : Int32))) + (f_rmW q0 p1 (5 : Int32))) + (f_rmW q0 p1 (6 : Int32))) + (f_rmW q0 p1 (7 : Int32)))), .second, .val (.long (own_cnt [])), .second, .val (.long (own_cnt [((f_rmA q0 p1 (0 : Int32)).toInt8.toInt32), ((f_rmA q0 p1 (1 : Int32)).toInt8.toInt32), ((f_rmA q0 p1 (2 : Int32)).toInt8.toInt32), ((f_rmA q0 p1 (3 : Int32)).toInt8.toInt32), ((f_rmA q0 p1 (4 : Int32)).toInt8.toInt32), ((f_rmA q0 p1 (5 : Int32)).toInt8.toInt32), ((f_rmA q0 p1 (6 : Int32)).toInt8.toInt32), ((f_rmA q0 p1 (7 : Int32)).toInt8.toInt32)])), .second] [(.long ((((((((f_rmW q0 p1 (0 : Int32)) + (f_rmW q0 p1 (1 : Int32))) + (f_rmW q0 p1 (2 : Int32))) + (f_rmW q0 p1 (3 : Int32))) + (f_rmW q0 p1 (4 : Int32))) + (f_rmW q0 p1 (5 : Int32))) + (f_rmW q0 p1 (6 : Int32))) + (f_rmW q0 p1 (7 : Int32)))), (.long (own_cnt [((f_rmA q0 p1 (0 : Int32)).toInt8.toInt32), ((f_rmA q0 p1 (1 : Int32)).toInt8.toInt32), ((f_rmA q0 p1 (2 : Int32)).toInt8.toInt32), ((f_rmA q0 p1 (3 : Int32)).toInt8.toInt32), ((f_rmA q0 p1 (4 : Int32)).toInt8.toInt32), ((f_rmA q0 p1 (5 : Int32)).toInt8.toInt32), ((f_rmA q0 p1 (6 : Int32)).toInt8.toInt32), ((f_rmA q0 p1 (7 : Int32)).toInt8.toInt32)]))])) _
    refine XS.lcmp X39.here hx rfl (hb hby at_177) rfl ?_
    show Steps p.tables e below (T39.setTop (mkF m 178 #[.val (.long q0), .second, .val (.int p1), .val (.ref b1), .val (.ref b3), .val (.long ((((((((f_rmW q0 p1 (0 : Int32)) + (f_rmW q0 p1 (1 : Int32))) + (f_rmW q0 p1 (2 : Int32))) + (f_rmW q0 p1 (3 : Int32))) + (f_rmW q0 p1 (4 : Int32))) + (f_rmW q0 p1 (5 : Int32))) + (f_rmW q0 p1 (6 : Int32))) + (f_rmW q0 p1 (7 : Int32)))), .second, .val (.long (own_cnt [])), .second, .val (.long (own_cnt [((f_rmA q0 p1 (0 : Int32)).toInt8.toInt32), ((f_rmA q0 p1 (1 : Int32)).toInt8.toInt32), ((f_rmA q0 p1 (2 : Int32)).toInt8.toInt32), ((f_rmA q0 p1 (3 : Int32)).toInt8.toInt32), ((f_rmA q0 p1 (4 : Int32)).toInt8.toInt32), ((f_rmA q0 p1 (5 : Int32)).toInt8.toInt32), ((f_rmA q0 p1 (6 : Int32)).toInt8.toInt32), ((f_rmA q0 p1 (7 : Int32)).toInt8.toInt32)])), .second] [(.int (lcmpW (own_cnt [((f_rmA q0 p1 (0 : Int32)).toInt8.toInt32), ((f_rmA q0 p1 (1 : Int32)).toInt8.toInt32), ((f_rmA q0 p1 (2 : Int32)).toInt8.toInt32), ((f_rmA q0 p1 (3 : Int32)).toInt8.toInt32), ((f_rmA q0 p1 (4 : Int32)).toInt8.toInt32), ((f_rmA q0 p1 (5 : Int32)).toInt8.toInt32), ((f_rmA q0 p1 (6 : Int32)).toInt8.toInt32), ((f_rmA q0 p1 (7 : Int32)).toInt8.toInt32)]) ((((((((f_rmW q0 p1 (0 : Int32)) + (f_rmW q0 p1 (1 : Int32))) + (f_rmW q0 p1 (2 : Int32))) + (f_rmW q0 p1 (3 : Int32))) + (f_rmW q0 p1 (4 : Int32))) + (f_rmW q0 p1 (5 : Int32))) + (f_rmW q0 p1 (6 : Int32))) + (f_rmW q0 p1 (7 : Int32)))))])) _
    refine XS.ifNo X39.here hx rfl (hb hby at_178) rfl ((if0 _ _).trans (teq ((lw_eq (own_cnt [((f_rmA q0 p1 (0 : Int32)).toInt8.toInt32), ((f_rmA q0 p1 (1 : Int32)).toInt8.toInt32), ((f_rmA q0 p1 (2 : Int32)).toInt8.toInt32), ((f_rmA q0 p1 (3 : Int32)).toInt8.toInt32), ((f_rmA q0 p1 (4 : Int32)).toInt8.toInt32), ((f_rmA q0 p1 (5 : Int32)).toInt8.toInt32), ((f_rmA q0 p1 (6 : Int32)).toInt8.toInt32), ((f_rmA q0 p1 (7 : Int32)).toInt8.toInt32)]) ((((((((f_rmW q0 p1 (0 : Int32)) + (f_rmW q0 p1 (1 : Int32))) + (f_rmW q0 p1 (2 : Int32))) + (f_rmW q0 p1 (3 : Int32))) + (f_rmW q0 p1 (4 : Int32))) + (f_rmW q0 p1 (5 : Int32))) + (f_rmW q0 p1 (6 : Int32))) + (f_rmW q0 p1 (7 : Int32)))).mpr (own_law q0 p1))).2) ?_
    show Steps p.tables e below (T39.setTop (mkF m 181 #[.val (.long q0), .second, .val (.int p1), .val (.ref b1), .val (.ref b3), .val (.long ((((((((f_rmW q0 p1 (0 : Int32)) + (f_rmW q0 p1 (1 : Int32))) + (f_rmW q0 p1 (2 : Int32))) + (f_rmW q0 p1 (3 : Int32))) + (f_rmW q0 p1 (4 : Int32))) + (f_rmW q0 p1 (5 : Int32))) + (f_rmW q0 p1 (6 : Int32))) + (f_rmW q0 p1 (7 : Int32)))), .second, .val (.long (own_cnt [])), .second, .val (.long (own_cnt [((f_rmA q0 p1 (0 : Int32)).toInt8.toInt32), ((f_rmA q0 p1 (1 : Int32)).toInt8.toInt32), ((f_rmA q0 p1 (2 : Int32)).toInt8.toInt32), ((f_rmA q0 p1 (3 : Int32)).toInt8.toInt32), ((f_rmA q0 p1 (4 : Int32)).toInt8.toInt32), ((f_rmA q0 p1 (5 : Int32)).toInt8.toInt32), ((f_rmA q0 p1 (6 : Int32)).toInt8.toInt32), ((f_rmA q0 p1 (7 : Int32)).toInt8.toInt32)])), .second] [])) _
    refine XS.iconst X39.here hx rfl (hb hby at_181) ?_
    show Steps p.tables e below (T39.setTop (mkF m 182 #[.val (.long q0), .second, .val (.int p1), .val (.ref b1), .val (.ref b3), .val (.long ((((((((f_rmW q0 p1 (0 : Int32)) + (f_rmW q0 p1 (1 : Int32))) + (f_rmW q0 p1 (2 : Int32))) + (f_rmW q0 p1 (3 : Int32))) + (f_rmW q0 p1 (4 : Int32))) + (f_rmW q0 p1 (5 : Int32))) + (f_rmW q0 p1 (6 : Int32))) + (f_rmW q0 p1 (7 : Int32)))), .second, .val (.long (own_cnt [])), .second, .val (.long (own_cnt [((f_rmA q0 p1 (0 : Int32)).toInt8.toInt32), ((f_rmA q0 p1 (1 : Int32)).toInt8.toInt32), ((f_rmA q0 p1 (2 : Int32)).toInt8.toInt32), ((f_rmA q0 p1 (3 : Int32)).toInt8.toInt32), ((f_rmA q0 p1 (4 : Int32)).toInt8.toInt32), ((f_rmA q0 p1 (5 : Int32)).toInt8.toInt32), ((f_rmA q0 p1 (6 : Int32)).toInt8.toInt32), ((f_rmA q0 p1 (7 : Int32)).toInt8.toInt32)])), .second] [(.int (1 : Int32))])) _
    refine XS.goto X39.here hx rfl (pc0 := 182) (pc' := 186) rfl (hb hby at_182) (by decide) (by decide) ?_
    exact kt
  exact own_end X39 hlk (v := some (.int (1 : Int32))) (fun h => by rw [Bd.returns] at h; cases h) (fun fs hr => retN X39 hx (t := .boolean) Bd.returns (by simp) (hb hby at_186) hr) ⟨rfl, N39⟩ (by decide : 2 ≤ _) (by decide : 8 ≤ _)
set_option maxRecDepth 65536 in
set_option maxHeartbeats 40000000 in
theorem comes_1 {Post : Tables → Env → Array Value → State → Outcome → State → Prop} (hpost : ∀ tb e args s v u, (limb_1_1.after args s (.returned v) u = true ∧ limb_1_2.after args s (.returned v) u = true ∧ True) → FrameEnd s (.returned v) u (Jvm.fieldLocs frame_1_writes args s ++ Jvm.arrayLocs frame_1_arrays args s ++ Jvm.staticLocs frame_1_statics s) 16 128 → Post tb e args s (.returned v) u) :
    ArmFor flags0 classFile x code maxLocals ret World_1 tables_1 room_1 Calls_1 rest_1 Pre_1 Post := by
  intro l hfl _ _ p e ha hc hk s m args below hf hA hF happ hP
  obtain ⟨hcalls, hrest, hpre⟩ := hP
  obtain ⟨-, -, -, hnamed, -, -, -, hat⟩ := (Spec.applies_iff hf).mp happ
  obtain ⟨hg, hn⟩ := and_e (Cond.before_iff.mp (show (Jvm.Cond.and given_1 narrow_1).before args s = true from hpre))
  obtain ⟨g1, g2⟩ := and_e hg
  obtain ⟨g3, g4⟩ := and_e g2
  obtain ⟨w0, w1, rfl⟩ : ∃ w0 w1 : Value, args = #[w0, w1] := by
    have hs : args.size = 2 := by simpa [Cond.value, given_1] using g1
    obtain ⟨L⟩ := args
    match L, hs with
    | [w0, w1], _ => exact ⟨w0, w1, rfl⟩
  have hw := fun d (hd : d ∈ tables_1) => atoms_spec (ws := Jvm.Cond.code x code maxLocals ret :: tables_1) hat d (List.mem_cons_of_mem _ hd)
  have hfit : Fit s := fun {y c} hc i hi => by
    obtain ⟨ha, rfl⟩ := Array.getElem?_eq_some_iff.mp hc
    have q := List.all_eq_true.mp ((Array.all_eq_true_iff_forall_mem.mp hF) _ (Array.getElem_mem ha)) i (List.mem_range.mpr hi)
    simpa [Array.getElem?_eq_getElem hi] using q
  obtain ⟨i0, ei0⟩ := isL_v g3
  obtain rfl : w0 = (.long i0) := Option.some.inj ei0
  obtain ⟨i1, ei1⟩ := is_v g4
  obtain rfl : w1 = (.int i1) := Option.some.inj ei1
  obtain ⟨n, o, h1, h2, h3, _, L, rfl, ⟨rfl, N⟩, hq⟩ := rm0 l s _ hw tables_1 i0 i1 s.heap s.heap.size (Nat.le_refl _) p e ha hc hk s m _ below hf ((Spec.applies_iff_loose hf).mp happ).1 ⟨rfl, State.Warmed39.refl s, rfl⟩ trivial
  refine ⟨n, _, h1, h2, h3, hpost _ _ _ _ _ _ ⟨Cond.after_iff.mpr rfl, Cond.after_iff.mpr (eq_i res_at (Term.int_eval (1)) rfl), trivial⟩ ⟨hq.1, hq.2.1, (hq.2.2.sift fun y hy => Or.inr (N y hy)).mono (by decide) (by decide)⟩⟩
theorem main_1_1 : Claimed_1_1 := comes_1 fun _ _ _ _ _ _ h hF => ⟨h.1, hF⟩
theorem main_1_2 : Claimed_1_2 := comes_1 fun _ _ _ _ _ _ h hF => ⟨h.2.1, hF⟩
end Jvm.Pilot.@@N@@
namespace Jvm.Pilot.@@N@@
open Jvm Jvm.ClassFile Sem Op Lib Jvm.Free Jvm.Stand Jvm.Pilot.@@N@@.Jvm.D
/-! MADE BY PROGRAM (witnessworld.py) out of the Statement's table words and the real class files: 9 classes; the members and pool entries that the words name. The judged class is class 1, her method 3. -/
namespace start1
open Jvm.ClassFile
def u (s : String) : CpInfo := .utf8 (stringToUtf16 s)
/-- a pool by its gaps: so many unusable entries, then the entry; so many at the end -/
def gap : Nat → List CpInfo → List CpInfo
  | 0, r => r
  | n + 1, r => .unusable :: gap n r
def poolList (es : List (Nat × CpInfo)) (last : Nat) : List CpInfo := es.foldr (fun e r => gap e.1 (e.2 :: r)) (gap last [])
def pool (es : List (Nat × CpInfo)) (last : Nat) : Array CpInfo := ⟨poolList es last⟩
def fileOf (pool : Array CpInfo) (this : Nat) (attrs : Array Attribute := #[]) (ms : Array MethodInfo := #[]) (fl : Nat := 33) (sup : Nat := 0) (ifs : Array Nat := #[]) (fds : Array FieldInfo := #[]) : ClassFile where
  minorVersion := 0
  majorVersion := 65
  constantPool := pool
  accessFlags := fl
  thisClass := this
  superClass := sup
  interfaces := ifs
  fields := fds
  methods := ms
  attributes := attrs
def plain (name : String) (sup : Option ClassId) : Class where
  name := name
  kind := .ordinary
  loader := none
  accessFlags := 33
  super := sup
  interfaces := #[]
  cf := none
  fields := #[]
  methods := #[]
  instanceTypes := #[]
  staticTypes := #[]
  resolved := #[]
  callSites := []
  init := .initialized
  statics := none
  mirror := none

def pool0 : Array CpInfo := pool [(5, u "<init>"), (0, u "()V"), (1, .class_ 10), (1, u "java/lang/Object")] 113

def k0m0 : Method := { name := "<init>", desc := "()V", sig := { parameters := [], returnType := none }, accessFlags := 1, code := none }
/-- java/lang/Object -/
def k0 : Class := { plain "java/lang/Object" none with
  accessFlags := 33
  interfaces := #[]
  cf := some (fileOf pool0 8 #[] #[{ accessFlags := 1, nameIndex := 5, descriptorIndex := 6, attributes := #[] }] 33 0 #[] #[])
  fields := #[]
  methods := #[k0m0]
  instanceTypes := #[]
  staticTypes := #[]
  resolved := Array.replicate 124 none
  statics := none }

def pool1 : Array CpInfo := pool [(2, .class_ 4), (1, u "java/lang/Object"), (0, u "<init>"), (0, u "()V"), (0, .long 255), (1, .long 10), (1, .methodref 12 13), (0, .class_ 14), (0, .nameAndType 15 16), (0, u "com/example/tideline/tideline/store/CommitLogLinesPinLaw"), (0, u "at"), (0, u "(JII)B"), (0, .methodref 12 18), (0, .nameAndType 19 20), (0, u "want"), (0, u "(JII)J"), (0, .methodref 22 23), (0, .class_ 24), (0, .nameAndType 25 26), (0, u "com/example/tideline/tideline/store/CommitLog"), (0, u "lines"), (0, u "([B)J"), (3, u "law"), (0, u "(JI)Z")] 4

def k1m0 : Method := { name := "<init>", desc := "()V", sig := { parameters := [], returnType := none }, accessFlags := 2, code := none }
def k1c1 : Code := { maxStack := 4, maxLocals := 4, code := method_2_code, exceptionTable := #[], attributes := #[] }
def k1m1 : Method := { name := "at", desc := "(JII)B", sig := { parameters := [.long, .int, .int], returnType := some .byte }, accessFlags := 10, code := some k1c1 }
def k1c2 : Code := { maxStack := 4, maxLocals := 6, code := method_3_code, exceptionTable := #[], attributes := #[] }
def k1m2 : Method := { name := "want", desc := "(JII)J", sig := { parameters := [.long, .int, .int], returnType := some .long }, accessFlags := 10, code := some k1c2 }
def k1c3 : Code := { maxStack := 6, maxLocals := 11, code := code, exceptionTable := #[], attributes := #[] }
def k1m3 : Method := { name := "law", desc := "(JI)Z", sig := { parameters := [.long, .int], returnType := some .boolean }, accessFlags := 9, code := some k1c3 }
/-- com/example/tideline/tideline/store/CommitLogLinesPinLaw -/
def k1 : Class := { plain "com/example/tideline/tideline/store/CommitLogLinesPinLaw" (some 0) with
  accessFlags := 49
  interfaces := #[]
  cf := some (fileOf pool1 12 #[] #[{ accessFlags := 2, nameIndex := 5, descriptorIndex := 6, attributes := #[] }, { accessFlags := 10, nameIndex := 15, descriptorIndex := 16, attributes := #[] }, { accessFlags := 10, nameIndex := 19, descriptorIndex := 20, attributes := #[] }, { accessFlags := 9, nameIndex := 30, descriptorIndex := 31, attributes := #[] }] 49 2 #[] #[])
  fields := #[]
  methods := #[k1m0, k1m1, k1m2, k1m3]
  instanceTypes := #[]
  staticTypes := #[]
  resolved := Array.replicate 36 none
  statics := none }

def pool2 : Array CpInfo := pool [(4, .class_ 6), (1, u "java/lang/Object"), (0, u "<init>"), (0, u "()V"), (42, .class_ 52), (0, u "com/example/tideline/tideline/store/CommitLog"), (10, u "LENGTH_LINE"), (0, u "Ljava/util/regex/Pattern;"), (8, u "MAX_LENGTH_LINE"), (0, u "I"), (0, u "NAME"), (0, u "Ljava/lang/String;"), (3, u "BYTES"), (2, u "MAX_LENGTH"), (0, u "J"), (7, u "lines"), (0, u "([B)J"), (9, .class_ 104), (0, u "com/example/tideline/tideline/store/CommitLog$Reader"), (0, .class_ 106), (0, u "com/example/tideline/tideline/store/CommitLog$Entry")] 19

def k2m0 : Method := { name := "<init>", desc := "()V", sig := { parameters := [], returnType := none }, accessFlags := 2, code := none }
def k2c1 : Code := { maxStack := 4, maxLocals := 7, code := prog_39_method_3_code, exceptionTable := #[], attributes := #[] }
def k2m1 : Method := { name := "lines", desc := "([B)J", sig := { parameters := [(.array .byte)], returnType := some .long }, accessFlags := 8, code := some k2c1 }
/-- com/example/tideline/tideline/store/CommitLog -/
def k2 : Class := { plain "com/example/tideline/tideline/store/CommitLog" (some 0) with
  accessFlags := 48
  interfaces := #[]
  cf := some (fileOf pool2 51 #[.nestMembers #[103, 105]] #[{ accessFlags := 2, nameIndex := 7, descriptorIndex := 8, attributes := #[] }, { accessFlags := 8, nameIndex := 92, descriptorIndex := 93, attributes := #[] }] 48 4 #[] #[{ accessFlags := 24, nameIndex := 75, descriptorIndex := 76, attributes := #[] }, { accessFlags := 26, nameIndex := 80, descriptorIndex := 76, attributes := #[] }, { accessFlags := 26, nameIndex := 63, descriptorIndex := 64, attributes := #[] }, { accessFlags := 26, nameIndex := 73, descriptorIndex := 74, attributes := #[] }, { accessFlags := 26, nameIndex := 83, descriptorIndex := 84, attributes := #[] }])
  fields := #[{ name := "NAME", type := (.object "java/lang/String"), accessFlags := 24, slot := 0, constantValue := 0 }, { name := "BYTES", type := (.object "java/lang/String"), accessFlags := 26, slot := 1, constantValue := 0 }, { name := "LENGTH_LINE", type := (.object "java/util/regex/Pattern"), accessFlags := 26, slot := 2, constantValue := 0 }, { name := "MAX_LENGTH_LINE", type := .int, accessFlags := 26, slot := 3, constantValue := 0 }, { name := "MAX_LENGTH", type := .long, accessFlags := 26, slot := 4, constantValue := 0 }]
  methods := #[k2m0, k2m1]
  instanceTypes := #[]
  staticTypes := #[(.object "java/lang/String"), (.object "java/lang/String"), (.object "java/util/regex/Pattern"), .int, .long]
  resolved := Array.replicate 126 none
  statics := none }

def pool3 : Array CpInfo := pool [(1, u "java/lang/Cloneable"), (0, .class_ 1), (0, u "java/lang/Object"), (0, .class_ 3)] 3

/-- java/lang/Cloneable -/
def k3 : Class := { plain "java/lang/Cloneable" (some 0) with
  accessFlags := 1537
  interfaces := #[]
  cf := some (fileOf pool3 2 #[] #[] 1537 4 #[] #[])
  fields := #[]
  methods := #[]
  instanceTypes := #[]
  staticTypes := #[]
  resolved := Array.replicate 8 none
  statics := none }

def pool4 : Array CpInfo := pool [(1, u "java/io/Serializable"), (0, .class_ 1), (0, u "java/lang/Object"), (0, .class_ 3)] 3

/-- java/io/Serializable -/
def k4 : Class := { plain "java/io/Serializable" (some 0) with
  accessFlags := 1537
  interfaces := #[]
  cf := some (fileOf pool4 2 #[] #[] 1537 4 #[] #[])
  fields := #[]
  methods := #[]
  instanceTypes := #[]
  staticTypes := #[]
  resolved := Array.replicate 8 none
  statics := none }

/-- the primitive byte -/
def k5 : Class := { plain "byte" none with kind := .primitive 'B', accessFlags := 0x411 }
/-- [B -/
def k6 : Class := { plain "[B" (some 0) with kind := .array 5 .byte, interfaces := #[3, 4], accessFlags := 1041 }

/-- the primitive int -/
def k7 : Class := { plain "int" none with kind := .primitive 'I', accessFlags := 0x411 }
/-- [I -/
def k8 : Class := { plain "[I" (some 0) with kind := .array 7 .int, interfaces := #[3, 4], accessFlags := 1041 }

def heap : Heap := #[]
def classes : Array Class := #[k0, k1, k2, k3, k4, k5, k6, k7, k8]
def interned : List (Array UInt16 × Addr) := []
def slotsUsed : Nat := 0
def theMethod : MethodId := ⟨1, 3⟩
def args0 : Array Value := #[.long 5, .int 3]
def aboutOver (below : List Frame) : State where
  vm := { classes := classes, interned := interned.toArray }
  heap := heap
  slotsUsed := slotsUsed
  threads := #[{ frames := .invoking theMethod args0 :: below }]
def below0 : List Frame := [.native { method := ⟨0, 0⟩, args := #[] }]
def about1 : State := aboutOver below0
def p0 : Program := .bare "" "" ""
def e0 : Env := launch0.env 0 0 0
theorem w_frames : about1.frames = Frame.invoking theMethod args0 :: below0 := rfl
set_option maxRecDepth 65536 in
theorem w_args : argsFit about1.vm theMethod args0 = true := by decide +kernel
set_option maxRecDepth 65536 in
theorem w_heap : heapFits about1 = true := by decide +kernel
set_option maxRecDepth 65536 in
theorem w_runnable : about1.curStatus? = some .runnable := by decide +kernel
set_option maxRecDepth 65536 in
theorem w_alone : about1.alone = true := by decide +kernel
set_option maxRecDepth 65536 in
theorem w_named : about1.methodNamed? x = some theMethod := by decide +kernel
set_option maxRecDepth 65536 in
theorem w_hears : about1.hears theMethod below0 = true := by decide +kernel
set_option maxRecDepth 65536 in
theorem w_ripe : about1.ripe theMethod args0 below0 = true := by decide +kernel
theorem w_running : about1.status = .running := rfl
set_option maxRecDepth 65536 in
theorem w_room : about1.hasRoom e0.platform room_1 = true :=
  launch0.hasRoom_least _ room_1 (by decide +kernel) (by decide +kernel) (by decide +kernel) (by decide +kernel) (by decide +kernel) (by decide +kernel)
theorem allAtoms_all (ts : List Jvm.Cond) (a : Array Jvm.Value) (st : Jvm.State) : (allAtoms ts).before a st = ts.all (fun c => c.before a st) := by
  induction ts with
  | nil => rfl
  | cons c t ih =>
    show (Jvm.Cond.and c (allAtoms t)).before a st = _
    rw [Jvm.Cond.before_and, ih, List.all_cons]
def words1 : List Jvm.Cond := Jvm.Cond.code x code maxLocals ret :: tables_1
/-- a 'code' word, met by the world's own term for the bytes: nothing is compared byte by byte -/
theorem code_word {y : MethodName} {bytes : ByteArray} {mx : Nat} {rt : Option FieldType} {a : Array Value} {s : State} {m : MethodId} {meth : Method} {c : Code} (h1 : s.methodNamed? y = some m) (h2 : s.vm.method? m = some meth) (h3 : meth.code = some c) (h4 : c.code = bytes)
    (h5 : (c.maxLocals == mx && c.exceptionTable.isEmpty && decide (c.maxStack ≤ mostOperands) && decide (meth.sig.returnType = rt) && !meth.locks && decide (parseMethodDescriptor y.desc = some meth.sig)) = true) : (Jvm.Cond.code y bytes mx rt).before a s = true := by
  simp only [Bool.and_eq_true, beq_iff_eq, Bool.not_eq_true', decide_eq_true_eq] at h5
  obtain ⟨⟨⟨⟨⟨g1, g2⟩, g3⟩, g4⟩, g5⟩, g6⟩ := h5
  simp [Cond.before, Cond.holds, Cond.value, h1, h2, h3, h4, g1, g2, g3, g4, g5, g6]
def isCode : Jvm.Cond → Bool
  | .code _ _ _ _ => true
  | _ => false
theorem all_split {L : List Jvm.Cond} {P : Jvm.Cond → Bool} (h1 : L.all (fun c => isCode c || P c) = true) (h2 : ∀ c ∈ L.filter isCode, P c = true) : L.all P = true := by
  refine List.all_eq_true.mpr fun c hc => ?_
  have h := List.all_eq_true.mp h1 c hc
  rcases Bool.eq_false_or_eq_true (isCode c) with hi | hi
  · exact h2 c (List.mem_filter.mpr ⟨hc, hi⟩)
  · simpa [hi] using h
set_option maxRecDepth 65536 in
theorem w_c0 : (Jvm.Cond.code x code maxLocals ret).before args0 about1 = true := code_word (m := ⟨1, 3⟩) (meth := k1m3) (c := k1c3) (by decide +kernel) rfl rfl rfl (by decide +kernel)
set_option maxRecDepth 65536 in
theorem w_c1 : (Jvm.Cond.code ({ cls := "com/example/tideline/tideline/store/CommitLogLinesPinLaw", name := "at", desc := "(JII)B" } : Jvm.MethodName) method_2_code (4 : Nat) (Option.some Jvm.ClassFile.FieldType.byte)).before args0 about1 = true := code_word (m := ⟨1, 1⟩) (meth := k1m1) (c := k1c1) (by decide +kernel) rfl rfl rfl (by decide +kernel)
set_option maxRecDepth 65536 in
theorem w_c2 : (Jvm.Cond.code ({ cls := "com/example/tideline/tideline/store/CommitLogLinesPinLaw", name := "want", desc := "(JII)J" } : Jvm.MethodName) method_3_code (6 : Nat) (Option.some Jvm.ClassFile.FieldType.long)).before args0 about1 = true := code_word (m := ⟨1, 2⟩) (meth := k1m2) (c := k1c2) (by decide +kernel) rfl rfl rfl (by decide +kernel)
set_option maxRecDepth 65536 in
theorem w_c3 : (Jvm.Cond.code ({ cls := "com/example/tideline/tideline/store/CommitLog", name := "lines", desc := "([B)J" } : Jvm.MethodName) prog_39_method_3_code (7 : Nat) (Option.some Jvm.ClassFile.FieldType.long)).before args0 about1 = true := code_word (m := ⟨2, 1⟩) (meth := k2m1) (c := k2c1) (by decide +kernel) rfl rfl rfl (by decide +kernel)
def codes1 : List Jvm.Cond := [Jvm.Cond.code x code maxLocals ret, Jvm.Cond.code ({ cls := "com/example/tideline/tideline/store/CommitLogLinesPinLaw", name := "at", desc := "(JII)B" } : Jvm.MethodName) method_2_code (4 : Nat) (Option.some Jvm.ClassFile.FieldType.byte), Jvm.Cond.code ({ cls := "com/example/tideline/tideline/store/CommitLogLinesPinLaw", name := "want", desc := "(JII)J" } : Jvm.MethodName) method_3_code (6 : Nat) (Option.some Jvm.ClassFile.FieldType.long), Jvm.Cond.code ({ cls := "com/example/tideline/tideline/store/CommitLog", name := "lines", desc := "([B)J" } : Jvm.MethodName) prog_39_method_3_code (7 : Nat) (Option.some Jvm.ClassFile.FieldType.long)]
set_option maxRecDepth 65536 in
theorem codes_eq : words1.filter isCode = codes1 := rfl
theorem w_codes : ∀ c ∈ words1.filter isCode, c.before args0 about1 = true := by
  rw [codes_eq]
  intro c hc
  simp only [codes1, List.mem_cons, List.not_mem_nil, or_false] at hc
  rcases hc with rfl | rfl | rfl | rfl
  · exact w_c0
  · exact w_c1
  · exact w_c2
  · exact w_c3
set_option maxRecDepth 65536 in
theorem w_t1 : words1.all (fun c => isCode c || c.before args0 about1) = true := by decide +kernel
theorem w_tables : (allAtoms (Jvm.Cond.code x code maxLocals ret :: tables_1)).before args0 about1 = true := by
  rw [allAtoms_all]
  show words1.all (fun c => c.before args0 about1) = true
  refine all_split ?_ w_codes
  rw [w_t1]
set_option maxRecDepth 65536 in
theorem w_case : (Jvm.Cond.and given_1 narrow_1).before args0 about1 = true := by decide +kernel
theorem w_applies : (headSpec (Jvm.Cond.code x code maxLocals ret :: tables_1) room_1).applies x e0.platform about1 = true :=
  (Spec.applies_iff w_frames).mpr ⟨w_running, w_runnable, w_alone, w_named, w_hears, w_ripe, w_room, w_tables⟩
theorem atStart : AtStart classFile x code maxLocals ret World_1 tables_1 room_1 Calls_1 rest_1 Pre_1 launch0 p0 e0 about1 theMethod args0 below0 :=
  ⟨lists_1, trivial, launch0.admits_env _ _ _, launch0.least_env, fairChoices_fair.cas, fairChoices_fair.clock, w_frames, w_args, w_heap, w_applies, trivial, trivial, w_case⟩
end start1
theorem witness_1 : WitnessClaimed_1 := ⟨start1.p0, start1.e0, start1.about1, start1.theMethod, start1.args0, start1.below0, start1.atStart⟩
end Jvm.Pilot.@@N@@
