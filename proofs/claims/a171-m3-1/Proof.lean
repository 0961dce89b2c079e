import JvmDerived
import JvmDerived.Pilot.@@N@@Statement
import JvmDerived.Pilot.@@N@@Code
set_option linter.unusedVariables false
set_option linter.unusedSimpArgs false
namespace Jvm.RoadKit
open Sem ClassFile Op Lib Jvm.Stand Jvm.Free Jvm.LawKit
section New
variable {p : Program} {l : Launch} {e : Env} {R : Room} {s : State} {m : MethodId} {args : Array Value} {below : List Frame} {meth : Method} {c : Code} {T : State} {locs : List Loc} {cells slots : Nat}
theorem retI (X : Stand p l e R s m args below meth c T locs cells slots) (hx : p.tables.exec = Jvm.exec) {pc : Nat} {Ls : Array Slot} {z : Int32} {rest : List Value} (hret : meth.sig.returnType = some .int) (hd : decode c.code pc = .ok (.ireturn, 1)) {fs : List Frame}
    (hl : ∀ (f : JFrame) (acts : List Action), f.method = m → f.locked = none → f.entered = [] → (doReturn e (T.setTop f) acts (some (.int z))).1 = T.setFrames fs) : Steps p.tables e below (T.setTop (mkF m pc Ls (.int z :: rest))) (T.setFrames fs) :=
  retOut X hx hret rfl (Or.inl ⟨rfl, Or.inl rfl, z, rfl⟩) hd hl
theorem retJ (X : Stand p l e R s m args below meth c T locs cells slots) (hx : p.tables.exec = Jvm.exec) {pc : Nat} {Ls : Array Slot} {z : Int64} {rest : List Value} (hret : meth.sig.returnType = some .long) (hd : decode c.code pc = .ok (.lreturn, 1)) {fs : List Frame}
    (hl : ∀ (f : JFrame) (acts : List Action), f.method = m → f.locked = none → f.entered = [] → (doReturn e (T.setTop f) acts (some (.long z))).1 = T.setFrames fs) : Steps p.tables e below (T.setTop (mkF m pc Ls (.long z :: rest))) (T.setFrames fs) :=
  retOut X hx hret rfl (Or.inr (Or.inl ⟨rfl, rfl, z, rfl⟩)) hd hl
theorem narA {t : FieldType} {w : Value} (ht : t.isReference = true) (hw : w.isRef = true) : narrow t w = w := by
  rcases ref_cases hw with rfl | ⟨z, rfl⟩ <;> cases t <;> first | rfl | (simp [FieldType.isReference] at ht)
theorem retA (X : Stand p l e R s m args below meth c T locs cells slots) (hx : p.tables.exec = Jvm.exec) {pc : Nat} {Ls : Array Slot} {t : FieldType} {w : Value} {rest : List Value} (hret : meth.sig.returnType = some t) (ht : t.isReference = true) (hw : w.isRef = true) (hd : decode c.code pc = .ok (.areturn, 1)) {fs : List Frame}
    (hl : ∀ (f : JFrame) (acts : List Action), f.method = m → f.locked = none → f.entered = [] → (doReturn e (T.setTop f) acts (some w)).1 = T.setFrames fs) : Steps p.tables e below (T.setTop (mkF m pc Ls (w :: rest))) (T.setFrames fs) :=
  retOut X hx hret (narA ht hw) (Or.inr (Or.inr (Or.inr (Or.inr ⟨rfl, ht, hw⟩)))) hd hl
theorem own_pack {n0 : Nat} {L Lc : List Loc} {k n rc rs C S' : Nat} (X : Stand p l e R s m args below meth c T L k n) (hl : L = locs ++ Lc) (hk : k = cells + rc) (hn : n = slots + rs) (N : Fr n0 locs) (Nq : Fr n0 Lc) (hC : cells + rc = C) (hS : slots + rs = S') : ∃ lc, Stand p l e R s m args below meth c T lc C S' ∧ Fr n0 lc := by
  subst hl hk hn hC hS; exact ⟨_, X, N.app Nq⟩
theorem own_pack1 {n0 : Nat} {a : Addr} {sl : Nat} (X : Stand p l e R s m args below meth c T (locs ++ [⟨a, sl⟩]) cells slots) (N : Fr n0 locs) (q : n0 ≤ a) : ∃ lc, Stand p l e R s m args below meth c T lc cells slots ∧ Fr n0 lc := ⟨_, X, Fr.snoc X N q⟩
/-- the run from a comes to an end that Q allows -/
def own_G (tb : Tables) (e : Env) (below : List Frame) (s : State) (Q : Option Value → Heap → List Loc → Prop) (C S : Nat) (a : State) : Prop :=
  ∃ (t : State) (o : Outcome), Steps tb e below a t ∧ t.status = .running ∧ Ended t below o ∧ ∃ v L, o = .returned v ∧ Q v t.heap L ∧ FrameEnd s o t L C S
theorem own_thr {tb : Tables} {Q : Option Value → Heap → List Loc → Prop} {C S : Nat} {a b : State} (h : ∀ t, Steps tb e below a t → Steps tb e below b t) (g : own_G tb e below s Q C S a) : own_G tb e below s Q C S b := by
  obtain ⟨t, o, h1, h2⟩ := g; exact ⟨t, o, h t h1, h2⟩
theorem own_end (X : Stand p l e R s m args below meth c T locs cells slots) (hlk : meth.locks = false) {v : Option Value} (hv : meth.sig.returnType = none → v = none) {g : JFrame} {Q : Option Value → Heap → List Loc → Prop} {C S : Nat}
    (hr : ∀ fs, (∀ (f : JFrame) (acts : List Action), f.method = m → f.locked = none → f.entered = [] → (doReturn e (T.setTop f) acts v).1 = T.setFrames fs) → Steps p.tables e below (T.setTop g) (T.setFrames fs))
    (hQ : Q v T.heap locs) (hC : cells ≤ C) (hS : slots ≤ S) : own_G p.tables e below s Q C S (T.setTop g) := by
  obtain ⟨fs, hr', hrun, hended, hW, hsame⟩ := X.leave (v := v) hv hlk
  exact ⟨_, _, hr fs hr', hrun, hended, _, _, rfl, hQ, ⟨_, rfl⟩, hW, hsame.mono hC hS⟩
def own_GW (tb : Tables) (e : Env) (below : List Frame) (s : State) (Q : Option Value → Heap → List Loc → Prop) (C S : Nat) (a : State) : Prop :=
  ∃ (t : State) (o : Outcome), Steps tb e below a t ∧ t.status = .running ∧ Ended t below o ∧ ∃ v L, o = .returned v ∧ Q v t.heap L ∧ ReturnedEndW s o t L C S
theorem own_thrW {tb : Tables} {Q : Option Value → Heap → List Loc → Prop} {C S : Nat} {a b : State} (h : ∀ t, Steps tb e below a t → Steps tb e below b t) (g : own_GW tb e below s Q C S a) : own_GW tb e below s Q C S b := by
  obtain ⟨t, o, h1, h2⟩ := g; exact ⟨t, o, h t h1, h2⟩
theorem own_endW {vm₁ : Vm} {k : Nat} (X : Stand p l e R (s.setVm vm₁) m args below meth c T locs cells slots) (hS : s.Since vm₁ k) (hk : k ≤ T.heap.size) (hlk : meth.locks = false) {v : Option Value} (hv : meth.sig.returnType = none → v = none) {g : JFrame} {Q : Option Value → Heap → List Loc → Prop} {C S : Nat}
    (hr : ∀ fs, (∀ (f : JFrame) (acts : List Action), f.method = m → f.locked = none → f.entered = [] → (doReturn e (T.setTop f) acts v).1 = T.setFrames fs) → Steps p.tables e below (T.setTop g) (T.setFrames fs))
    (hQ : Q v T.heap locs) (hC : cells ≤ C) (hSl : slots ≤ S) : own_GW p.tables e below s Q C S (T.setTop g) := by
  obtain ⟨fs, hr', hrun, hended, hret, hW, hint, hsame⟩ := X.leaveW hS hk (v := v) hv hlk
  exact ⟨_, _, hr fs hr', hrun, hended, _, _, rfl, hQ, ⟨_, rfl⟩, hW, hint, hsame.mono hC hSl⟩
def own_GH (tb : Tables) (e : Env) (below : List Frame) (s Z : State) (EL : List (String × Nat)) (Q : Option Value → Heap → List Loc → Prop) (C S : Nat) (a : State) : Prop :=
  ∃ (t : State) (o : Outcome), Steps tb e below a t ∧ t.status = .running ∧ Ended t below o ∧ ∃ v L, o = .returned v ∧ Q v t.heap L ∧ CHr Z EL s.vm s.heap t.vm t.heap ∧ ReturnedEndW s o t L C S
theorem own_thrH {tb : Tables} {Z : State} {EL : List (String × Nat)} {Q : Option Value → Heap → List Loc → Prop} {C S : Nat} {a b : State} (h : ∀ t, Steps tb e below a t → Steps tb e below b t) (g : own_GH tb e below s Z EL Q C S a) : own_GH tb e below s Z EL Q C S b := by
  obtain ⟨t, o, h1, h2⟩ := g; exact ⟨t, o, h t h1, h2⟩
theorem own_endH {vm₁ : Vm} {k : Nat} {Z : State} {a0 : Array Value} {EL : List (String × Nat)} {h0 H : Heap} (X : Stand p l e R (s.setVm vm₁) m args below meth c T locs cells slots) (hS : s.Since vm₁ k) (hk : k ≤ T.heap.size) (hZ : Z.Warmed39 vm₁) (hEL : EW Z a0 EL) (CH : CHr Z EL s.vm h0 vm₁ H) (hh : s.heap = h0) (eT : T.heap = H) (hlk : meth.locks = false) {v : Option Value} (hv : meth.sig.returnType = none → v = none) {g : JFrame} {Q : Option Value → Heap → List Loc → Prop} {C S : Nat}
    (hr : ∀ fs, (∀ (f : JFrame) (acts : List Action), f.method = m → f.locked = none → f.entered = [] → (doReturn e (T.setTop f) acts v).1 = T.setFrames fs) → Steps p.tables e below (T.setTop g) (T.setFrames fs))
    (hQ : Q v T.heap locs) (hC : cells ≤ C) (hSl : slots ≤ S) : own_GH p.tables e below s Z EL Q C S (T.setTop g) := by
  obtain ⟨fs, hr', hrun, hended, hret, hW, hint, hsame⟩ := X.leaveW hS hk (v := v) hv hlk
  have ch := CH.trans (CHv.at X hZ hEL CH.1)
  subst hh eT
  exact ⟨_, _, hr fs hr', hrun, hended, _, _, rfl, hQ, ch, ⟨_, rfl⟩, hW, hint, hsame.mono hC hSl⟩
theorem own_safe {Z : State} {EL : List (String × Nat)} {vm : Vm} {h : Heap} {x : Addr} (hal : Z.vm.Alike vm) (E : Exa Z h x "java/lang/String") (F : Fld Z h x "java/lang/String" "value" "[B" .null) : Safe Z EL vm h x := fun B => by
  obtain ⟨p, hp, u, a, hb, q, ha, S, hy | hy⟩ := B
  · obtain ⟨cS, ⟨⟨g1, -, -, ⟨c1, k1, i1, f1, -⟩, -, -, -, v1, -⟩, -⟩, -⟩ := S
    obtain ⟨cell, cf, k, i, f, h1, h2, h3, h4, h5, h6, h7⟩ := F
    subst hy
    have g1' : h[q.sa]? = some q.sC := g1
    cases h1.symm.trans g1'
    obtain ⟨k3, e3, -⟩ := State.fieldFound?_setVm (s := Z) hal h2
    have e4 := (show (Wst Z vm h).fieldFound? _ _ _ = _ from e3).symm.trans f1
    simp only [Option.some.injEq, Prod.mk.injEq] at e4
    rw [← e4.2.2.2, h7] at v1
    cases v1
  · have hd := S.hd
    obtain ⟨cS, -, -, hB, -⟩ := S
    obtain ⟨cell, k, h1, h2, h3, -⟩ := E
    subst hy
    have hd' : h[q.sd]? = some q.SA := hd
    cases h1.symm.trans hd'
    have hB' : Z.vm.findClass "[B" = some q.SA.cls := by rw [← hal.findClass]; exact hB
    exact ids_ne h2 hB' (by decide) rfl
end New
end Jvm.RoadKit
namespace Jvm.Pilot.@@N@@
open Jvm Jvm.ClassFile Sem Op Lib Jvm.Free Jvm.Stand Jvm.LawKit Jvm.RoadKit Bundle Jvm.Pilot.@@N@@.Jvm.D
theorem own_sa : ∀ a ∈ Bundle.stringAtoms, a ∈ tables_1 := by decide +kernel
def own_EL : List (String × Nat) := [("com/example/tiphys/tiphys/KnowledgeBaseOutOfOrderPinLaw", 7)]
theorem own_EW {Z : State} {a0 : Array Value} (hw : ∀ d ∈ tables_1, d.before a0 Z = true) : EW Z a0 own_EL := (EW.cons (hw _ (List.mem_of_getElem? (i := 4) rfl)) (by decide) EW.nil)
/-- the string at r has the key k: empty (-1), or one sign (its low byte) -/
def own_S (Z : State) (h : Heap) (r : Addr) (k : Int32) : Prop := Exa Z h r "java/lang/String" ∧ Fld Z h r "java/lang/String" "coder" "B" (.int (0 : Int32)) ∧ ∃ (b : Addr) (c : ClassId), Fld Z h r "java/lang/String" "value" "[B" (.ref b) ∧
  ((k = (-1 : Int32) ∧ Arv Z h b c .byte (0 : Int32) [] (.int (0 : Int32))) ∨ (∃ x : Int32, k = x &&& (255 : Int32) ∧ Arv Z h b c .byte (1 : Int32) [(.int x)] (.int (0 : Int32))))
def own_T (Z : State) (n : Nat) (h : Heap) (r : Addr) (k : Int32) : Prop := r < n ∧ Exa Z h r "java/lang/String" ∧ Fld Z h r "java/lang/String" "coder" "B" (.int (0 : Int32)) ∧ ∃ (b : Addr) (c : ClassId), b < n ∧ Fld Z h r "java/lang/String" "value" "[B" (.ref b) ∧
  ((k = (-1 : Int32) ∧ Arv Z h b c .byte (0 : Int32) [] (.int (0 : Int32))) ∨ (∃ x : Int32, k = x &&& (255 : Int32) ∧ Arv Z h b c .byte (1 : Int32) [(.int x)] (.int (0 : Int32))))
section ST
variable {Z : State} {h h' : Heap} {r : Addr} {k : Int32} {n : Nat}
theorem own_S.ext (F : own_S Z h r k) (E : Ext h h') : own_S Z h' r k := by
  obtain ⟨a1, a2, b, c, a3, a4⟩ := F
  exact ⟨a1.ext E, a2.ext E, b, c, a3.ext E, a4.imp (fun q => ⟨q.1, q.2.ext E⟩) (fun ⟨x, q, V⟩ => ⟨x, q, V.ext E⟩)⟩
theorem own_S.keep0 (F : own_S Z h r k) (K : Keep h h' []) : own_S Z h' r k := by
  obtain ⟨a1, a2, b, c, a3, a4⟩ := F
  exact ⟨a1.keep K, a2.keep K nin0, b, c, a3.keep K nin0, a4.imp (fun q => ⟨q.1, q.2.keep K nin0⟩) (fun ⟨x, q, V⟩ => ⟨x, q, V.keep K nin0⟩)⟩
theorem own_S.bound (F : own_S Z h r k) : own_T Z h.size h r k := by
  obtain ⟨a1, a2, b, c, a3, a4⟩ := F
  exact ⟨a1.lt, a1, a2, b, c, a4.elim (fun q => q.2.lt) (fun ⟨x, q, V⟩ => V.lt), a3, a4⟩
theorem own_T.un (F : own_T Z n h r k) : own_S Z h r k := by
  obtain ⟨-, a1, a2, b, c, -, a3, a4⟩ := F
  exact ⟨a1, a2, b, c, a3, a4⟩
theorem own_T.ext (F : own_T Z n h r k) (E : Ext h h') : own_T Z n h' r k := by
  obtain ⟨l1, a1, a2, b, c, l2, a3, a4⟩ := F
  exact ⟨l1, a1.ext E, a2.ext E, b, c, l2, a3.ext E, a4.imp (fun q => ⟨q.1, q.2.ext E⟩) (fun ⟨x, q, V⟩ => ⟨x, q, V.ext E⟩)⟩
theorem own_T.keep {ws : List Addr} (F : own_T Z n h r k) (K : Keep h h' ws) (q : ∀ x ∈ ws, n ≤ x) : own_T Z n h' r k := by
  obtain ⟨l1, a1, a2, b, c, l2, a3, a4⟩ := F
  have n1 : r ∉ ws := fun z => absurd l1 (Nat.not_lt.mpr (q _ z))
  have n2 : b ∉ ws := fun z => absurd l2 (Nat.not_lt.mpr (q _ z))
  exact ⟨l1, a1.keep K, a2.keep K n1, b, c, l2, a3.keep K n1, a4.imp (fun q => ⟨q.1, q.2.keep K n2⟩) (fun ⟨x, q, V⟩ => ⟨x, q, V.keep K n2⟩)⟩
end ST
theorem d6_0 : decode method_2_code 0 = .ok (.iload_n 0, 1) := by decide +kernel
theorem d6_1 : decode method_2_code 1 = .ok (.bipush 8, 2) := by decide +kernel
theorem d6_3 : decode method_2_code 3 = .ok (.ishr, 1) := by decide +kernel
theorem d6_4 : decode method_2_code 4 = .ok (.iconst 3, 1) := by decide +kernel
theorem d6_5 : decode method_2_code 5 = .ok (.iand, 1) := by decide +kernel
theorem d6_6 : decode method_2_code 6 = .ok (.ifCond .ne 5, 3) := by decide +kernel
theorem d6_9 : decode method_2_code 9 = .ok (.iconst (-1), 1) := by decide +kernel
theorem d6_10 : decode method_2_code 10 = .ok (.ireturn, 1) := by decide +kernel
theorem d6_11 : decode method_2_code 11 = .ok (.iload_n 0, 1) := by decide +kernel
theorem d6_12 : decode method_2_code 12 = .ok (.sipush 255, 3) := by decide +kernel
theorem d6_15 : decode method_2_code 15 = .ok (.iand, 1) := by decide +kernel
theorem d6_16 : decode method_2_code 16 = .ok (.ireturn, 1) := by decide +kernel
theorem pn_com_example_tiphys_tiphys_KnowledgeBaseOutOfOrderPinLaw : plainName "com/example/tiphys/tiphys/KnowledgeBaseOutOfOrderPinLaw" = true := by first | (simp [plainName, overriddenIn]; done) | decide +kernel
theorem ef_rmK (m : MethodId) (p0 : Int32)  : entryFrame m #[(.int p0)] 1 = mkF m 0 #[.val (.int p0)] [] := by first |  (simp [entryFrame, mkF, argsToLocals, Value.category]; done) | rfl
def f_rmK (p0 : Int32) : Int32 := if ((p0 >>> ((8 : Int32) &&& 31)) &&& (3 : Int32)) = (0 : Int32) then (-1 : Int32) else (p0 &&& (255 : Int32))
def Q_rmK (Z : State) (p0 : Int32) (h0 : Heap) (n0 : Nat) (v : Option Value) (h : Heap) (L : List Loc) : Prop := v = some (.int (f_rmK p0)) ∧ Fr n0 L ∧ h = h0
set_option maxRecDepth 65536 in
set_option maxHeartbeats 40000000 in
theorem rmK (l : Launch) (Z : State) (a0 : Array Value) (hw : ∀ d ∈ tables_1, d.before a0 Z = true) (ws : List Jvm.Cond) (p0 : Int32) (h0 : Heap) (n0 : Nat) (Z0 : n0 ≤ h0.size) :
    MetFree l (⟨"com/example/tiphys/tiphys/KnowledgeBaseOutOfOrderPinLaw", "key", "(I)I"⟩ : MethodName) (head1 (Jvm.Cond.code (⟨"com/example/tiphys/tiphys/KnowledgeBaseOutOfOrderPinLaw", "key", "(I)I"⟩ : MethodName) method_2_code 1 (some .int) :: ws) ({ frames := 0, cells := 0, slots := 0, locals := 0 } : Room)) (fun a U => a = #[(.int p0)] ∧ Z.Warmed39 U.vm ∧ U.heap = h0) (fun _ _ _ _ _ => True) (fun _ U o U' => ∃ v L, o = .returned v ∧ Q_rmK Z p0 h0 n0 v U'.heap L ∧ FrameEnd U o U' L ({ frames := 0, cells := 0, slots := 0, locals := 0 } : Room).cells ({ frames := 0, cells := 0, slots := 0, locals := 0 } : Room).slots) := by
  refine MetFree.of_bodySF (plainFor_of_name pn_com_example_tiphys_tiphys_KnowledgeBaseOutOfOrderPinLaw) hisR ?_
  intro p e s m args below meth c s₁ Bd hml0 hP hK
  obtain ⟨rfl, hZ, hh⟩ := hP
  have hx := Bd.exec
  have hby := Bd.bytes
  have hml : c.maxLocals = 1 := hml0
  have hown : s.vm.findClass "com/example/tiphys/tiphys/KnowledgeBaseOutOfOrderPinLaw" = some m.cls := findClass_of_methodNamed Bd.named
  have hnm := (name_of_methodNamed Bd.named Bd.method).1
  have hlk := Bd.notSynchronized
  have X0 : Stand p l e ({ frames := 0, cells := 0, slots := 0, locals := 0 } : Room) s m #[(.int p0)] below meth c s₁ [] 0 0 := Stand.of_body Bd
  have e0 : s₁.heap = h0 := by rw [← hh, Bd.state]; rfl
  have N0 := Fr.nil n0
  show own_G p.tables e below s (Q_rmK Z p0 h0 n0) ({ frames := 0, cells := 0, slots := 0, locals := 0 } : Room).cells ({ frames := 0, cells := 0, slots := 0, locals := 0 } : Room).slots _
  refine own_thr (a := s₁.setTop (mkF m 0 #[.val (.int p0)] [])) (fun t kt => castTop (ef_rmK m p0) kt) ?_
  refine own_thr (a := s₁.setTop (mkF m 6 #[.val (.int p0)] [(.int ((p0 >>> ((8 : Int32) &&& 31)) &&& (3 : Int32)))])) (fun t kt => ?_) ?_
  · show Steps p.tables e below (s₁.setTop (mkF m 0 #[.val (.int p0)] [])) _
    refine XS.iloadN X0.here hx rfl (hb hby d6_0) rfl ?_
    refine XS.bipush X0.here hx rfl (hb hby d6_1) ?_
    refine XS.ishr X0.here hx rfl (hb hby d6_3) rfl ?_
    refine XS.iconst X0.here hx rfl (hb hby d6_4) ?_
    refine XS.iand X0.here hx rfl (hb hby d6_5) rfl ?_
    exact kt
  by_cases hc1 : ((p0 >>> ((8 : Int32) &&& 31)) &&& (3 : Int32)) = (0 : Int32)
  · refine own_thr (a := s₁.setTop (mkF m 10 #[.val (.int p0)] [(.int (-1 : Int32))])) (fun t kt => ?_) ?_
    · show Steps p.tables e below (s₁.setTop (mkF m 6 #[.val (.int p0)] [(.int ((p0 >>> ((8 : Int32) &&& 31)) &&& (3 : Int32)))])) _
      refine XS.ifNo X0.here hx rfl (hb hby d6_6) rfl ((if0 _ _).trans (teq hc1).2) ?_
      refine XS.iconst X0.here hx rfl (hb hby d6_9) ?_
      exact kt
    exact own_end X0 hlk (v := some (.int (-1 : Int32))) (fun h => by rw [Bd.returns] at h; cases h) (fun fs hr => retI X0 hx Bd.returns (hb hby d6_10) hr) (by rw [e0]; exact ⟨(by rw [f_rmK, if_pos hc1]), N0, rfl⟩) (by decide : 0 ≤ _) (by decide : 0 ≤ _)
  · refine own_thr (a := s₁.setTop (mkF m 16 #[.val (.int p0)] [(.int (p0 &&& (255 : Int32)))])) (fun t kt => ?_) ?_
    · show Steps p.tables e below (s₁.setTop (mkF m 6 #[.val (.int p0)] [(.int ((p0 >>> ((8 : Int32) &&& 31)) &&& (3 : Int32)))])) _
      refine XS.ifYes X0.here hx rfl (pc0 := 6) (pc' := 11) rfl (hb hby d6_6) rfl ((if0 _ _).trans (feq hc1).2) (by decide) (by decide) ?_
      refine XS.iloadN X0.here hx rfl (hb hby d6_11) rfl ?_
      refine XS.sipush X0.here hx rfl (hb hby d6_12) ?_
      refine XS.iand X0.here hx rfl (hb hby d6_15) rfl ?_
      exact kt
    exact own_end X0 hlk (v := some (.int (p0 &&& (255 : Int32)))) (fun h => by rw [Bd.returns] at h; cases h) (fun fs hr => retI X0 hx Bd.returns (hb hby d6_16) hr) (by rw [e0]; exact ⟨(by rw [f_rmK, if_neg hc1]), N0, rfl⟩) (by decide : 0 ≤ _) (by decide : 0 ≤ _)
theorem d23_0 : decode jdk_43_method_3_code 0 = .ok (.iload_n 0, 1) := by decide +kernel
theorem d23_1 : decode jdk_43_method_3_code 1 = .ok (.sipush 255, 3) := by decide +kernel
theorem d23_4 : decode jdk_43_method_3_code 4 = .ok (.if_icmp .gt 7, 3) := by decide +kernel
theorem d23_11 : decode jdk_43_method_3_code 11 = .ok (.iconst 0, 1) := by decide +kernel
theorem d23_12 : decode jdk_43_method_3_code 12 = .ok (.ireturn, 1) := by decide +kernel
theorem d23_7 : decode jdk_43_method_3_code 7 = .ok (.iconst 1, 1) := by decide +kernel
theorem d23_8 : decode jdk_43_method_3_code 8 = .ok (.goto 4, 3) := by decide +kernel
theorem pn_java_lang_StringLatin1 : plainName "java/lang/StringLatin1" = true := by first | (simp [plainName, overriddenIn]; done) | decide +kernel
theorem ef_rmCE (m : MethodId) (p0 : Int32)  : entryFrame m #[(.int p0)] 1 = mkF m 0 #[.val (.int p0)] [] := by first |  (simp [entryFrame, mkF, argsToLocals, Value.category]; done) | rfl
def f_rmCE (p0 : Int32) : Int32 := if (255 : Int32) < p0 then (0 : Int32) else (1 : Int32)
def Q_rmCE (Z : State) (p0 : Int32) (h0 : Heap) (n0 : Nat) (v : Option Value) (h : Heap) (L : List Loc) : Prop := v = some (.int (f_rmCE p0)) ∧ Fr n0 L ∧ h = h0
set_option maxRecDepth 65536 in
set_option maxHeartbeats 40000000 in
theorem rmCE (l : Launch) (Z : State) (a0 : Array Value) (hw : ∀ d ∈ tables_1, d.before a0 Z = true) (ws : List Jvm.Cond) (p0 : Int32) (h0 : Heap) (n0 : Nat) (Z0 : n0 ≤ h0.size) :
    MetFree l (⟨"java/lang/StringLatin1", "canEncode", "(C)Z"⟩ : MethodName) (head1 (Jvm.Cond.code (⟨"java/lang/StringLatin1", "canEncode", "(C)Z"⟩ : MethodName) jdk_43_method_3_code 1 (some .boolean) :: ws) ({ frames := 0, cells := 0, slots := 0, locals := 0 } : Room)) (fun a U => a = #[(.int p0)] ∧ Z.Warmed39 U.vm ∧ U.heap = h0) (fun _ _ _ _ _ => True) (fun _ U o U' => ∃ v L, o = .returned v ∧ Q_rmCE Z p0 h0 n0 v U'.heap L ∧ FrameEnd U o U' L ({ frames := 0, cells := 0, slots := 0, locals := 0 } : Room).cells ({ frames := 0, cells := 0, slots := 0, locals := 0 } : Room).slots) := by
  refine MetFree.of_bodySF (plainFor_of_name pn_java_lang_StringLatin1) hisR ?_
  intro p e s m args below meth c s₁ Bd hml0 hP hK
  obtain ⟨rfl, hZ, hh⟩ := hP
  have hx := Bd.exec
  have hby := Bd.bytes
  have hml : c.maxLocals = 1 := hml0
  have hown : s.vm.findClass "java/lang/StringLatin1" = some m.cls := findClass_of_methodNamed Bd.named
  have hnm := (name_of_methodNamed Bd.named Bd.method).1
  have hlk := Bd.notSynchronized
  have X0 : Stand p l e ({ frames := 0, cells := 0, slots := 0, locals := 0 } : Room) s m #[(.int p0)] below meth c s₁ [] 0 0 := Stand.of_body Bd
  have e0 : s₁.heap = h0 := by rw [← hh, Bd.state]; rfl
  have N0 := Fr.nil n0
  show own_G p.tables e below s (Q_rmCE Z p0 h0 n0) ({ frames := 0, cells := 0, slots := 0, locals := 0 } : Room).cells ({ frames := 0, cells := 0, slots := 0, locals := 0 } : Room).slots _
  refine own_thr (a := s₁.setTop (mkF m 0 #[.val (.int p0)] [])) (fun t kt => castTop (ef_rmCE m p0) kt) ?_
  refine own_thr (a := s₁.setTop (mkF m 4 #[.val (.int p0)] [(.int (255 : Int32)), (.int p0)])) (fun t kt => ?_) ?_
  · show Steps p.tables e below (s₁.setTop (mkF m 0 #[.val (.int p0)] [])) _
    refine XS.iloadN X0.here hx rfl (hb hby d23_0) rfl ?_
    refine XS.sipush X0.here hx rfl (hb hby d23_1) ?_
    exact kt
  by_cases hc1 : (255 : Int32) < p0
  · refine own_thr (a := s₁.setTop (mkF m 12 #[.val (.int p0)] [(.int (0 : Int32))])) (fun t kt => ?_) ?_
    · show Steps p.tables e below (s₁.setTop (mkF m 4 #[.val (.int p0)] [(.int (255 : Int32)), (.int p0)])) _
      refine XS.icmpYes X0.here hx rfl (pc0 := 4) (pc' := 11) rfl (hb hby d23_4) rfl (tlt hc1).2.2.1 (by decide) (by decide) ?_
      refine XS.iconst X0.here hx rfl (hb hby d23_11) ?_
      exact kt
    exact own_end X0 hlk (v := some (.int (0 : Int32))) (fun h => by rw [Bd.returns] at h; cases h) (fun fs hr => retN X0 hx (t := .boolean) Bd.returns (by simp) (hb hby d23_12) hr) (by rw [e0]; exact ⟨(by rw [f_rmCE, if_pos hc1]), N0, rfl⟩) (by decide : 0 ≤ _) (by decide : 0 ≤ _)
  · refine own_thr (a := s₁.setTop (mkF m 12 #[.val (.int p0)] [(.int (1 : Int32))])) (fun t kt => ?_) ?_
    · show Steps p.tables e below (s₁.setTop (mkF m 4 #[.val (.int p0)] [(.int (255 : Int32)), (.int p0)])) _
      refine XS.icmpNo X0.here hx rfl (hb hby d23_4) rfl (flt hc1).2.2.1 ?_
      refine XS.iconst X0.here hx rfl (hb hby d23_7) ?_
      refine XS.goto X0.here hx rfl (pc0 := 8) (pc' := 12) rfl (hb hby d23_8) (by decide) (by decide) ?_
      exact kt
    exact own_end X0 hlk (v := some (.int (1 : Int32))) (fun h => by rw [Bd.returns] at h; cases h) (fun fs hr => retN X0 hx (t := .boolean) Bd.returns (by simp) (hb hby d23_12) hr) (by rw [e0]; exact ⟨(by rw [f_rmCE, if_neg hc1]), N0, rfl⟩) (by decide : 0 ≤ _) (by decide : 0 ≤ _)
theorem own_ce {c : Int32} (h : ¬ (255 : Int32) < c) : ¬ f_rmCE c = (0 : Int32) := by
  unfold f_rmCE; rw [if_neg h]; decide
theorem own_c1 (x : Int32) : ¬ (255 : Int32) < (x &&& (255 : Int32)).toUInt32.toUInt16.toUInt32.toInt32 := by
  rw [i2c_mask, Int32.lt_iff_toInt_lt]
  have h := c_mask x 255 8 (by decide) (by decide)
  have e : (255 : Int32).toInt = 255 := rfl
  omega
theorem own_kk (x : Int32) : x &&& (255 : Int32) = ((((x &&& (255 : Int32)).toUInt32.toUInt16.toUInt32.toInt32).toInt8.toInt32).toInt8.toInt32) &&& (255 : Int32) := by
  rw [i2c_mask, ← Int32.toInt_inj]
  have h := c_mask x 255 8 (by decide) (by decide)
  have h1 := c_i2b (x &&& (255 : Int32))
  have h2 := c_i2b ((x &&& (255 : Int32)).toInt8.toInt32)
  have h3 := c_mask (((x &&& (255 : Int32)).toInt8.toInt32).toInt8.toInt32) 255 8 (by decide) (by decide)
  omega
theorem d24_0 : decode jdk_43_method_46_code 0 = .ok (.iconst 1, 1) := by decide +kernel
theorem d24_1 : decode jdk_43_method_46_code 1 = .ok (.newarray .byte, 2) := by decide +kernel
theorem d24_3 : decode jdk_43_method_46_code 3 = .ok (.dup, 1) := by decide +kernel
theorem d24_4 : decode jdk_43_method_46_code 4 = .ok (.iconst 0, 1) := by decide +kernel
theorem d24_5 : decode jdk_43_method_46_code 5 = .ok (.iload_n 0, 1) := by decide +kernel
theorem d24_6 : decode jdk_43_method_46_code 6 = .ok (.i2b, 1) := by decide +kernel
theorem d24_7 : decode jdk_43_method_46_code 7 = .ok (.bastore, 1) := by decide +kernel
theorem d24_8 : decode jdk_43_method_46_code 8 = .ok (.areturn, 1) := by decide +kernel
theorem ef_rmTB (m : MethodId) (p0 : Int32)  : entryFrame m #[(.int p0)] 1 = mkF m 0 #[.val (.int p0)] [] := by first |  (simp [entryFrame, mkF, argsToLocals, Value.category]; done) | rfl
def Q_rmTB (Z : State) (p0 : Int32) (h0 : Heap) (n0 : Nat) (v : Option Value) (h : Heap) (L : List Loc) : Prop := ∃ r : Addr, v = some (.ref r) ∧ Fr n0 L ∧ Keep h0 h [] ∧ (∃ k : ClassId, Arv Z h r k .byte (1 : Int32) [(.int ((p0.toInt8.toInt32).toInt8.toInt32))] (.int (0 : Int32))) ∧ h0.size ≤ r
set_option maxRecDepth 65536 in
set_option maxHeartbeats 40000000 in
theorem rmTB (l : Launch) (Z : State) (a0 : Array Value) (hw : ∀ d ∈ tables_1, d.before a0 Z = true) (ws : List Jvm.Cond) (p0 : Int32) (h0 : Heap) (n0 : Nat) (Z0 : n0 ≤ h0.size) :
    MetFree l (⟨"java/lang/StringLatin1", "toBytes", "(C)[B"⟩ : MethodName) (head1 (Jvm.Cond.code (⟨"java/lang/StringLatin1", "toBytes", "(C)[B"⟩ : MethodName) jdk_43_method_46_code 1 (some (.array .byte)) :: ws) ({ frames := 0, cells := 1, slots := 1, locals := 0 } : Room)) (fun a U => a = #[(.int p0)] ∧ Z.Warmed39 U.vm ∧ U.heap = h0) (fun _ _ _ _ _ => True) (fun _ U o U' => ∃ v L, o = .returned v ∧ Q_rmTB Z p0 h0 n0 v U'.heap L ∧ FrameEnd U o U' L ({ frames := 0, cells := 1, slots := 1, locals := 0 } : Room).cells ({ frames := 0, cells := 1, slots := 1, locals := 0 } : Room).slots) := by
  refine MetFree.of_bodySF (plainFor_of_name pn_java_lang_StringLatin1) hisR ?_
  intro p e s m args below meth c s₁ Bd hml0 hP hK
  obtain ⟨rfl, hZ, hh⟩ := hP
  have hx := Bd.exec
  have hby := Bd.bytes
  have hml : c.maxLocals = 1 := hml0
  have hown : s.vm.findClass "java/lang/StringLatin1" = some m.cls := findClass_of_methodNamed Bd.named
  have hnm := (name_of_methodNamed Bd.named Bd.method).1
  have hlk := Bd.notSynchronized
  have X0 : Stand p l e ({ frames := 0, cells := 1, slots := 1, locals := 0 } : Room) s m #[(.int p0)] below meth c s₁ [] 0 0 := Stand.of_body Bd
  have e0 : s₁.heap = h0 := by rw [← hh, Bd.state]; rfl
  have N0 := Fr.nil n0
  show own_G p.tables e below s (Q_rmTB Z p0 h0 n0) ({ frames := 0, cells := 1, slots := 1, locals := 0 } : Room).cells ({ frames := 0, cells := 1, slots := 1, locals := 0 } : Room).slots _
  refine own_thr (a := s₁.setTop (mkF m 0 #[.val (.int p0)] [])) (fun t kt => castTop (ef_rmTB m p0) kt) ?_
  refine own_thr (a := s₁.setTop (mkF m 1 #[.val (.int p0)] [(.int (1 : Int32))])) (fun t kt => ?_) ?_
  · show Steps p.tables e below (s₁.setTop (mkF m 0 #[.val (.int p0)] [])) _
    refine XS.iconst X0.here hx rfl (hb hby d24_0) ?_
    exact kt
  obtain ⟨T1, h1, k1, X1, e1, E1, A1, st1⟩ := newP X0 hx hZ (hw _ (List.mem_of_getElem? (i := 7) rfl)) e0 (g := (mkF m 1 #[.val (.int p0)] [(.int (1 : Int32))])) rfl (hb hby d24_1) rfl (by decide) (cap := 1) (by decide) (by decide) (by decide : 0 + 1 ≤ _) (by decide : 0 + 1 ≤ _)
  obtain ⟨b1, g1⟩ : ∃ z, z = h0.size := ⟨_, rfl⟩
  rw [← g1] at A1 st1
  have g_b1 : n0 ≤ b1 := Nat.le_trans Z0 (Nat.le_of_eq g1.symm)
  have sz_b1 : h0.size ≤ b1 := Nat.le_trans (Nat.le_refl h0.size) (Nat.le_of_eq g1.symm)
  have V_b1 : Arv Z h1 b1 k1 .byte (1 : Int32) [(.int (0 : Int32))] (.int (0 : Int32)) := (Arv.new A1 (by decide)).pad (pad_rep [] (.int (0 : Int32)) 1)
  have Z2 : n0 ≤ h1.size := Nat.le_trans Z0 E1.1
  have Z2h : h0.size ≤ h1.size := Nat.le_trans (Nat.le_refl h0.size) E1.1
  refine own_thr (a := T1.setTop (mkF m 3 #[.val (.int p0)] [(.ref b1)])) (fun t kt => st1 t kt) ?_
  refine own_thr (a := T1.setTop (mkF m 7 #[.val (.int p0)] [(.int (p0.toInt8.toInt32)), (.int (0 : Int32)), (.ref b1), (.ref b1)])) (fun t kt => ?_) ?_
  · show Steps p.tables e below (T1.setTop (mkF m 3 #[.val (.int p0)] [(.ref b1)])) _
    refine XS.dup X1.here hx rfl (hb hby d24_3) rfl rfl ?_
    refine XS.iconst X1.here hx rfl (hb hby d24_4) ?_
    refine XS.iloadN X1.here hx rfl (hb hby d24_5) rfl ?_
    refine XS.i2b X1.here hx rfl (hb hby d24_6) rfl ?_
    exact kt
  obtain ⟨cl3, Ar3, q3, S3, M3, H3, G3⟩ := id V_b1
  have hin3 : ¬ ((0 : Int32) < 0 ∨ cl3.slots.size ≤ ((0 : Int32)).toNatClampNeg) := inb_of S3 ⟨by decide, by decide⟩
  obtain ⟨T3, h3, X3, e3, W3, st3⟩ := stB X1 hx hZ e1 Ar3 (j := (0 : Int32)) hin3 (g := (mkF m 7 #[.val (.int p0)] [(.int (p0.toInt8.toInt32)), (.int (0 : Int32)), (.ref b1), (.ref b1)])) rfl rfl (hb hby d24_7)
  have Z4 : n0 ≤ h3.size := Nat.le_trans Z2 (Nat.le_of_eq W3.size.symm)
  have Z4h : h0.size ≤ h3.size := Nat.le_trans Z2h (Nat.le_of_eq W3.size.symm)
  have V3 : Arv Z h3 b1 k1 .byte (1 : Int32) [(.int ((p0.toInt8.toInt32).toInt8.toInt32))] (.int (0 : Int32)) := Arv.set Ar3 q3 S3 M3 H3 G3 (fits_nar_byte _) W3 0 rfl (Nat.le_of_ble_eq_true rfl)
  obtain ⟨lc3, X3, N3⟩ := own_pack1 X3 N0 g_b1
  refine own_thr (a := T3.setTop (mkF m 8 #[.val (.int p0)] [(.ref b1)])) (fun t kt => st3 t kt) ?_
  exact own_end X3 hlk (v := some (.ref b1)) (fun h => by rw [Bd.returns] at h; cases h) (fun fs hr => retA X3 hx Bd.returns rfl rfl (hb hby d24_8) hr) (by rw [e3]; exact ⟨b1, rfl, N3, (((Keep.refl h0 []).ext E1).wr W3 (Or.inr sz_b1)), ⟨_, V3⟩, sz_b1⟩) (by decide : 1 ≤ _) (by decide : 1 ≤ _)
theorem d25_0 : decode jdk_42_method_151_code 0 = .ok (.aload_n 0, 1) := by decide +kernel
theorem d25_1 : decode jdk_42_method_151_code 1 = .ok (.invokespecial 1, 3) := by decide +kernel
theorem d25_4 : decode jdk_42_method_151_code 4 = .ok (.aload_n 0, 1) := by decide +kernel
theorem d25_5 : decode jdk_42_method_151_code 5 = .ok (.aload_n 1, 1) := by decide +kernel
theorem d25_6 : decode jdk_42_method_151_code 6 = .ok (.putfield 9, 3) := by decide +kernel
theorem d25_9 : decode jdk_42_method_151_code 9 = .ok (.aload_n 0, 1) := by decide +kernel
theorem d25_10 : decode jdk_42_method_151_code 10 = .ok (.iload_n 2, 1) := by decide +kernel
theorem d25_11 : decode jdk_42_method_151_code 11 = .ok (.putfield 15, 3) := by decide +kernel
theorem d25_14 : decode jdk_42_method_151_code 14 = .ok (.return_, 1) := by decide +kernel
theorem pn_java_lang_String : plainName "java/lang/String" = true := by first | (simp [plainName, overriddenIn]; done) | decide +kernel
theorem ef_rmSB (m : MethodId) (o0 : Addr) (o1 : Addr)  : entryFrame m #[(.ref o0), (.ref o1), (.int (0 : Int32))] 3 = mkF m 0 #[.val (.ref o0), .val (.ref o1), .val (.int (0 : Int32))] [] := by first |  (simp [entryFrame, mkF, argsToLocals, Value.category]; done) | rfl
def Q_rmSB (Z : State) (o0 : Addr) (o1 : Addr) (h0 : Heap) (n0 : Nat) (v : Option Value) (h : Heap) (L : List Loc) : Prop := v = none ∧ Fr n0 L ∧ Keep h0 h [o0] ∧ Exa Z h o0 "java/lang/String" ∧ Fld Z h o0 "java/lang/String" "value" "[B" (.ref o1) ∧ Fld Z h o0 "java/lang/String" "coder" "B" (.int (0 : Int32))
set_option maxRecDepth 65536 in
set_option maxHeartbeats 40000000 in
theorem rmSB (l : Launch) (Z : State) (a0 : Array Value) (hw : ∀ d ∈ tables_1, d.before a0 Z = true) (ws : List Jvm.Cond) (o0 : Addr) (o1 : Addr) (h0 : Heap) (n0 : Nat) (Z0 : n0 ≤ h0.size) (E_o0 : Exa Z h0 o0 "java/lang/String") (F_value_o0 : Fld Z h0 o0 "java/lang/String" "value" "[B" .null) (F_coder_o0 : Fld Z h0 o0 "java/lang/String" "coder" "B" (.int (0 : Int32))) (g_o0 : n0 ≤ o0) :
    MetFree l (⟨"java/lang/String", "<init>", "([BB)V"⟩ : MethodName) (head1 (Jvm.Cond.code (⟨"java/lang/String", "<init>", "([BB)V"⟩ : MethodName) jdk_42_method_151_code 3 none :: ws) ({ frames := 1, cells := 0, slots := 0, locals := 12 } : Room)) (fun a U => a = #[(.ref o0), (.ref o1), (.int (0 : Int32))] ∧ Z.Warmed39 U.vm ∧ U.heap = h0) (fun _ _ _ _ _ => True) (fun _ U o U' => ∃ v L, o = .returned v ∧ Q_rmSB Z o0 o1 h0 n0 v U'.heap L ∧ FrameEnd U o U' L ({ frames := 1, cells := 0, slots := 0, locals := 12 } : Room).cells ({ frames := 1, cells := 0, slots := 0, locals := 12 } : Room).slots) := by
  refine MetFree.of_bodySF (plainFor_of_name pn_java_lang_String) hisR ?_
  intro p e s m args below meth c s₁ Bd hml0 hP hK
  obtain ⟨rfl, hZ, hh⟩ := hP
  have hx := Bd.exec
  have hby := Bd.bytes
  have hml : c.maxLocals = 3 := hml0
  have hown : s.vm.findClass "java/lang/String" = some m.cls := findClass_of_methodNamed Bd.named
  have hnm := (name_of_methodNamed Bd.named Bd.method).1
  have hlk := Bd.notSynchronized
  have X0 : Stand p l e ({ frames := 1, cells := 0, slots := 0, locals := 12 } : Room) s m #[(.ref o0), (.ref o1), (.int (0 : Int32))] below meth c s₁ [] 0 0 := Stand.of_body Bd
  have e0 : s₁.heap = h0 := by rw [← hh, Bd.state]; rfl
  have N0 := Fr.nil n0
  show own_G p.tables e below s (Q_rmSB Z o0 o1 h0 n0) ({ frames := 1, cells := 0, slots := 0, locals := 12 } : Room).cells ({ frames := 1, cells := 0, slots := 0, locals := 12 } : Room).slots _
  refine own_thr (a := s₁.setTop (mkF m 0 #[.val (.ref o0), .val (.ref o1), .val (.int (0 : Int32))] [])) (fun t kt => castTop (ef_rmSB m o0 o1) kt) ?_
  refine own_thr (a := s₁.setTop (mkF m 1 #[.val (.ref o0), .val (.ref o1), .val (.int (0 : Int32))] [(.ref o0)])) (fun t kt => ?_) ?_
  · show Steps p.tables e below (s₁.setTop (mkF m 0 #[.val (.ref o0), .val (.ref o1), .val (.int (0 : Int32))] [])) _
    refine XS.aloadN X0.here hx rfl (hb hby d25_0) rfl rfl ?_
    exact kt
  obtain ⟨T1, X1, e1, st1⟩ := initO X0 hx hZ hown (hw _ (List.mem_of_getElem? (i := 146) rfl)) (hw _ (List.mem_of_getElem? (i := 31) rfl)) (hw _ (List.mem_of_getElem? (i := 32) rfl)) e0 (g := (mkF m 1 #[.val (.ref o0), .val (.ref o1), .val (.int (0 : Int32))] [(.ref o0)])) rfl (by rw [hml]; rfl) rfl (hb hby d25_1) (by decide) (W := 0) (by show 2 * 0 + _ ≤ _; exact Nat.le_of_eq rfl) (by decide)
  refine own_thr (a := T1.setTop (mkF m 4 #[.val (.ref o0), .val (.ref o1), .val (.int (0 : Int32))] [])) (fun t kt => st1 t kt) ?_
  refine own_thr (a := T1.setTop (mkF m 6 #[.val (.ref o0), .val (.ref o1), .val (.int (0 : Int32))] [(.ref o1), (.ref o0)])) (fun t kt => ?_) ?_
  · show Steps p.tables e below (T1.setTop (mkF m 4 #[.val (.ref o0), .val (.ref o1), .val (.int (0 : Int32))] [])) _
    refine XS.aloadN X1.here hx rfl (hb hby d25_4) rfl rfl ?_
    refine XS.aloadN X1.here hx rfl (hb hby d25_5) rfl rfl ?_
    exact kt
  obtain ⟨T2, h2, X2, e2, W2, st2⟩ := putF X1 hx hZ hown (host := "") (Or.inl (hw _ (List.mem_of_getElem? (i := 120) rfl))) Via.refl e1 F_value_o0 E_o0 (Or.inr ⟨(hw _ (List.mem_of_getElem? (i := 8) rfl)), rfl, hnm⟩) (hw _ (List.mem_of_getElem? (i := 6) rfl)) (ty := (.array .byte)) (by decide) rfl rfl (g := (mkF m 6 #[.val (.ref o0), .val (.ref o1), .val (.int (0 : Int32))] [(.ref o1), (.ref o0)])) rfl rfl (hb hby d25_6)
  have Fw2 := F_value_o0.same W2
  have Z3 : n0 ≤ h2.size := Nat.le_trans Z0 (Nat.le_of_eq W2.size.symm)
  have Z3h : h0.size ≤ h2.size := Nat.le_trans (Nat.le_refl h0.size) (Nat.le_of_eq W2.size.symm)
  obtain ⟨lc2, X2, N2⟩ := own_pack1 X2 N0 g_o0
  refine own_thr (a := T2.setTop (mkF m 9 #[.val (.ref o0), .val (.ref o1), .val (.int (0 : Int32))] [])) (fun t kt => st2 t kt) ?_
  refine own_thr (a := T2.setTop (mkF m 11 #[.val (.ref o0), .val (.ref o1), .val (.int (0 : Int32))] [(.int (0 : Int32)), (.ref o0)])) (fun t kt => ?_) ?_
  · show Steps p.tables e below (T2.setTop (mkF m 9 #[.val (.ref o0), .val (.ref o1), .val (.int (0 : Int32))] [])) _
    refine XS.aloadN X2.here hx rfl (hb hby d25_9) rfl rfl ?_
    refine XS.iloadN X2.here hx rfl (hb hby d25_10) rfl ?_
    exact kt
  have c4 := (F_coder_o0.other W2 (Or.inr (slot_ne (Or.inr (hw _ (List.mem_of_getElem? (i := 9) rfl))) (Or.inr (hw _ (List.mem_of_getElem? (i := 8) rfl))) (by decide) (t := .byte) (t' := (.array .byte)) (by decide) (by decide))))
  obtain ⟨T5, h5, X5, e5, W5, st5⟩ := putFN X2 hx hZ hown (hw _ (List.mem_of_getElem? (i := 127) rfl)) Via.refl e2 c4 (E_o0.wr W2) (Or.inr ⟨(hw _ (List.mem_of_getElem? (i := 9) rfl)), rfl, hnm⟩) (hw _ (List.mem_of_getElem? (i := 6) rfl)) (ty := .byte) (v' := (.int (0 : Int32))) (by decide) rfl rfl (g := (mkF m 11 #[.val (.ref o0), .val (.ref o1), .val (.int (0 : Int32))] [(.int (0 : Int32)), (.ref o0)])) rfl rfl (hb hby d25_11)
  have Fw5 := c4.same W5
  have Z6 : n0 ≤ h5.size := Nat.le_trans Z3 (Nat.le_of_eq W5.size.symm)
  have Z6h : h0.size ≤ h5.size := Nat.le_trans Z3h (Nat.le_of_eq W5.size.symm)
  obtain ⟨lc5, X5, N5⟩ := own_pack1 X5 N2 g_o0
  refine own_thr (a := T5.setTop (mkF m 14 #[.val (.ref o0), .val (.ref o1), .val (.int (0 : Int32))] [])) (fun t kt => st5 t kt) ?_
  have c7 := (Fw2.other W5 (Or.inr (slot_ne (Or.inr (hw _ (List.mem_of_getElem? (i := 8) rfl))) (Or.inr (hw _ (List.mem_of_getElem? (i := 9) rfl))) (by decide) (t := (.array .byte)) (t' := .byte) (by decide) (by decide))))
  exact own_end X5 hlk (v := none) (fun _ => rfl) (fun fs hr => X5.returnOut hx Bd.returns (hb hby d25_14) hr) (by rw [e5]; exact ⟨rfl, N5, (((Keep.refl h0 [o0]).wr W2 (Or.inl (List.mem_of_getElem? (i := 0) rfl))).wr W5 (Or.inl (List.mem_of_getElem? (i := 0) rfl))), ((E_o0.wr W2).wr W5), c7, Fw5⟩) (by decide : 0 ≤ _) (by decide : 0 ≤ _)
theorem d22_0 : decode jdk_42_method_139_code 0 = .ok (.getstatic 38, 3) := by decide +kernel
theorem d22_3 : decode jdk_42_method_139_code 3 = .ok (.ifCond .eq 23, 3) := by decide +kernel
theorem d22_6 : decode jdk_42_method_139_code 6 = .ok (.iload_n 0, 1) := by decide +kernel
theorem pd__28C_29Z : parseMethodDescriptor "(C)Z" = some ⟨[.char], some .boolean⟩ := by decide +kernel
theorem d22_7 : decode jdk_42_method_139_code 7 = .ok (.invokestatic 1015, 3) := by decide +kernel
theorem d22_10 : decode jdk_42_method_139_code 10 = .ok (.ifCond .eq 16, 3) := by decide +kernel
theorem d22_13 : decode jdk_42_method_139_code 13 = .ok (.new 10, 3) := by decide +kernel
theorem d22_16 : decode jdk_42_method_139_code 16 = .ok (.dup, 1) := by decide +kernel
theorem d22_17 : decode jdk_42_method_139_code 17 = .ok (.iload_n 0, 1) := by decide +kernel
theorem pd__28C_29_5bB : parseMethodDescriptor "(C)[B" = some ⟨[.char], some (.array .byte)⟩ := by decide +kernel
theorem d22_18 : decode jdk_42_method_139_code 18 = .ok (.invokestatic 1018, 3) := by decide +kernel
theorem d22_21 : decode jdk_42_method_139_code 21 = .ok (.iconst 0, 1) := by decide +kernel
theorem pd__28_5bBB_29V : parseMethodDescriptor "([BB)V" = some ⟨[(.array .byte), .byte], none⟩ := by decide +kernel
theorem d22_22 : decode jdk_42_method_139_code 22 = .ok (.invokespecial 209, 3) := by decide +kernel
theorem d22_25 : decode jdk_42_method_139_code 25 = .ok (.areturn, 1) := by decide +kernel
theorem ef_rmVO (m : MethodId) (p0 : Int32)  : entryFrame m #[(.int p0)] 1 = mkF m 0 #[.val (.int p0)] [] := by first |  (simp [entryFrame, mkF, argsToLocals, Value.category]; done) | rfl
def Q_rmVO (Z : State) (p0 : Int32) (cs : Int32) (h0 : Heap) (n0 : Nat) (v : Option Value) (h : Heap) (L : List Loc) : Prop := ∃ r : Addr, v = some (.ref r) ∧ Fr n0 L ∧ Keep h0 h [] ∧ Exa Z h r "java/lang/String" ∧ Fld Z h r "java/lang/String" "coder" "B" (.int (0 : Int32)) ∧ (∃ (b : Addr) (k : ClassId), Fld Z h r "java/lang/String" "value" "[B" (.ref b) ∧ Arv Z h b k .byte (1 : Int32) [(.int ((p0.toInt8.toInt32).toInt8.toInt32))] (.int (0 : Int32)))
set_option maxRecDepth 65536 in
set_option maxHeartbeats 40000000 in
theorem rmVO (l : Launch) (Z : State) (a0 : Array Value) (hw : ∀ d ∈ tables_1, d.before a0 Z = true) (ws : List Jvm.Cond) (p0 : Int32) (cs : Int32) (h0 : Heap) (n0 : Nat) (Z0 : n0 ≤ h0.size) (S_cs : Sta Z h0 "java/lang/String" "COMPACT_STRINGS" "Z" (.int cs)) (hcs : ¬ cs = (0 : Int32)) (hle : ¬ (255 : Int32) < p0) :
    MetFree l (⟨"java/lang/String", "valueOf", "(C)Ljava/lang/String;"⟩ : MethodName) (head1 (Jvm.Cond.code (⟨"java/lang/String", "valueOf", "(C)Ljava/lang/String;"⟩ : MethodName) jdk_42_method_139_code 1 (some (.object "java/lang/String")) :: ws) ({ frames := 2, cells := 2, slots := 5, locals := 27 } : Room)) (fun a U => a = #[(.int p0)] ∧ Z.Warmed39 U.vm ∧ U.heap = h0) (fun _ _ _ _ _ => True) (fun _ U o U' => ∃ v L, o = .returned v ∧ Q_rmVO Z p0 cs h0 n0 v U'.heap L ∧ FrameEnd U o U' L ({ frames := 2, cells := 2, slots := 5, locals := 27 } : Room).cells ({ frames := 2, cells := 2, slots := 5, locals := 27 } : Room).slots) := by
  refine MetFree.of_bodySF (plainFor_of_name pn_java_lang_String) hisR ?_
  intro p e s m args below meth c s₁ Bd hml0 hP hK
  obtain ⟨rfl, hZ, hh⟩ := hP
  have hx := Bd.exec
  have hby := Bd.bytes
  have hml : c.maxLocals = 1 := hml0
  have hown : s.vm.findClass "java/lang/String" = some m.cls := findClass_of_methodNamed Bd.named
  have hnm := (name_of_methodNamed Bd.named Bd.method).1
  have hlk := Bd.notSynchronized
  have X0 : Stand p l e ({ frames := 2, cells := 2, slots := 5, locals := 27 } : Room) s m #[(.int p0)] below meth c s₁ [] 0 0 := Stand.of_body Bd
  have e0 : s₁.heap = h0 := by rw [← hh, Bd.state]; rfl
  have N0 := Fr.nil n0
  show own_G p.tables e below s (Q_rmVO Z p0 cs h0 n0) ({ frames := 2, cells := 2, slots := 5, locals := 27 } : Room).cells ({ frames := 2, cells := 2, slots := 5, locals := 27 } : Room).slots _
  refine own_thr (a := s₁.setTop (mkF m 0 #[.val (.int p0)] [])) (fun t kt => castTop (ef_rmVO m p0) kt) ?_
  obtain ⟨T1, X1, e1, st1⟩ := getS2 X0 hx hZ hown (host := "") (Or.inl (hw _ (List.mem_of_getElem? (i := 126) rfl))) Via.refl e0 S_cs (g := (mkF m 0 #[.val (.int p0)] [])) rfl (hb hby d22_0)
  refine own_thr (a := T1.setTop (mkF m 3 #[.val (.int p0)] [(.int cs)])) (fun t kt => st1 t kt) ?_
  refine own_thr (a := T1.setTop (mkF m 7 #[.val (.int p0)] [(.int p0)])) (fun t kt => ?_) ?_
  · show Steps p.tables e below (T1.setTop (mkF m 3 #[.val (.int p0)] [(.int cs)])) _
    refine XS.ifNo X1.here hx rfl (hb hby d22_3) rfl ((if0 _ _).trans (feq hcs).1) ?_
    refine XS.iloadN X1.here hx rfl (hb hby d22_6) rfl ?_
    exact kt
  obtain ⟨_, _, ⟨T2, L2, k2, n2⟩, -, X2, ⟨Lc2, hQ2, l2, y2, z2⟩, st2⟩ := Jvm.LawKit.callS X1 hx (y := (⟨"java/lang/StringLatin1", "canEncode", "(C)Z"⟩ : MethodName)) hown (mvT hZ (hw _ (List.mem_of_getElem? (i := 135) rfl))) (mvT hZ (hw _ (List.mem_of_getElem? (i := 136) rfl))) (mvT hZ (hw _ (List.mem_of_getElem? (i := 137) rfl))) (mvT hZ (hw _ (List.mem_of_getElem? (i := 138) rfl))) (by decide) (backOf (W := 0) (rmCE l Z a0 hw [] p0 h0 n0 Z0) hZ (hw _ (List.mem_of_getElem? (i := 138) rfl)) (hw _ (List.mem_of_getElem? (i := 137) rfl)) (by decide) (by decide)) (g := (mkF m 7 #[.val (.int p0)] [(.int p0)])) rfl (by rw [hml]; rfl) (argsL := [(.int p0)]) (rest := []) (lenOf pd__28C_29Z rfl) rfl (by show 2 * 0 + _ ≤ _; exact Nat.le_of_eq rfl) (hb hby d22_7) (fun _ _ => ⟨rfl, e1, (by decide : 0 + 0 ≤ _), (by decide : 0 + 0 ≤ _)⟩)
  dsimp only [Pt.U, Pt.locs, Pt.cells, Pt.slots] at X2 l2 y2 z2 st2 hQ2
  obtain ⟨rfl, N2q, e2⟩ := hQ2
  obtain ⟨lc2, X2, N2⟩ := own_pack X2 l2 y2 z2 N0 N2q (C := 0) (S' := 0) rfl rfl
  refine own_thr (a := T2.setTop (mkF m 10 #[.val (.int p0)] [(.int (f_rmCE p0))])) (fun t kt => st2 t kt) ?_
  refine own_thr (a := T2.setTop (mkF m 13 #[.val (.int p0)] [])) (fun t kt => ?_) ?_
  · show Steps p.tables e below (T2.setTop (mkF m 10 #[.val (.int p0)] [(.int (f_rmCE p0))])) _
    refine XS.ifNo X2.here hx rfl (hb hby d22_10) rfl ((if0 _ _).trans (feq (own_ce hle)).1) ?_
    exact kt
  obtain ⟨T3, h3, X3, e3, E3, A3, D3, U3, st3⟩ := newO X2 hx hZ hown (hw _ (List.mem_of_getElem? (i := 139) rfl)) (hw _ (List.mem_of_getElem? (i := 6) rfl)) (hw _ (List.mem_of_getElem? (i := 5) rfl)) e2 (g := (mkF m 13 #[.val (.int p0)] [])) rfl (hb hby d22_13) (by decide : 0 + 1 ≤ _) (by decide : 0 + 4 ≤ _)
  obtain ⟨b3, g3⟩ : ∃ z, z = h0.size := ⟨_, rfl⟩
  rw [← g3] at A3 D3 st3 U3
  have g_b3 : n0 ≤ b3 := Nat.le_trans Z0 (Nat.le_of_eq g3.symm)
  have sz_b3 : h0.size ≤ b3 := Nat.le_trans (Nat.le_refl h0.size) (Nat.le_of_eq g3.symm)
  have Z4 : n0 ≤ h3.size := Nat.le_trans Z0 E3.1
  have Z4h : h0.size ≤ h3.size := Nat.le_trans (Nat.le_refl h0.size) E3.1
  have F_value_b3 : Fld Z h3 b3 "java/lang/String" "value" "[B" .null := D3 (Or.inr (hw _ (List.mem_of_getElem? (i := 8) rfl))) (ty := (.array .byte)) (by decide)
  have F_coder_b3 : Fld Z h3 b3 "java/lang/String" "coder" "B" (.int (0 : Int32)) := D3 (Or.inr (hw _ (List.mem_of_getElem? (i := 9) rfl))) (ty := .byte) (by decide)
  refine own_thr (a := T3.setTop (mkF m 16 #[.val (.int p0)] [(.ref b3)])) (fun t kt => st3 t kt) ?_
  refine own_thr (a := T3.setTop (mkF m 18 #[.val (.int p0)] [(.int p0), (.ref b3), (.ref b3)])) (fun t kt => ?_) ?_
  · show Steps p.tables e below (T3.setTop (mkF m 16 #[.val (.int p0)] [(.ref b3)])) _
    refine XS.dup X3.here hx rfl (hb hby d22_16) rfl rfl ?_
    refine XS.iloadN X3.here hx rfl (hb hby d22_17) rfl ?_
    exact kt
  obtain ⟨_, _, ⟨T5, L5, k5, n5⟩, -, X5, ⟨Lc5, hQ5, l5, y5, z5⟩, st5⟩ := Jvm.LawKit.callS X3 hx (y := (⟨"java/lang/StringLatin1", "toBytes", "(C)[B"⟩ : MethodName)) hown (mvT hZ (hw _ (List.mem_of_getElem? (i := 140) rfl))) (mvT hZ (hw _ (List.mem_of_getElem? (i := 141) rfl))) (mvT hZ (hw _ (List.mem_of_getElem? (i := 137) rfl))) (mvT hZ (hw _ (List.mem_of_getElem? (i := 142) rfl))) (by decide) (backOf (W := 2) (rmTB l Z a0 hw [] p0 h3 n0 Z4) hZ (hw _ (List.mem_of_getElem? (i := 142) rfl)) (hw _ (List.mem_of_getElem? (i := 137) rfl)) (by decide) (by decide)) (g := (mkF m 18 #[.val (.int p0)] [(.int p0), (.ref b3), (.ref b3)])) rfl (by rw [hml]; rfl) (argsL := [(.int p0)]) (rest := [(.ref b3), (.ref b3)]) (lenOf pd__28C_29_5bB rfl) rfl (by show 2 * 0 + _ ≤ _; exact Nat.le_of_eq rfl) (hb hby d22_18) (fun _ _ => ⟨rfl, e3, (by decide : 1 + 1 ≤ _), (by decide : 4 + 1 ≤ _)⟩)
  dsimp only [Pt.U, Pt.locs, Pt.cells, Pt.slots] at X5 l5 y5 z5 st5 hQ5
  obtain ⟨r5, rfl, N5q, K5, o5_0, o5_1⟩ := hQ5
  have Z6 : n0 ≤ T5.heap.size := Nat.le_trans Z4 K5.1
  have Z6h : h0.size ≤ T5.heap.size := Nat.le_trans Z4h K5.1
  obtain ⟨lc5, X5, N5⟩ := own_pack X5 l5 y5 z5 N2 N5q (C := 2) (S' := 5) rfl rfl
  refine own_thr (a := T5.setTop (mkF m 21 #[.val (.int p0)] [(.ref r5), (.ref b3), (.ref b3)])) (fun t kt => st5 t kt) ?_
  obtain ⟨kq5, Vq5⟩ := o5_0
  have ne_b3_r5 : b3 ≠ r5 := Nat.ne_of_lt (Nat.lt_of_lt_of_le A3.lt o5_1)
  refine own_thr (a := T5.setTop (mkF m 22 #[.val (.int p0)] [(.int (0 : Int32)), (.ref r5), (.ref b3), (.ref b3)])) (fun t kt => ?_) ?_
  · show Steps p.tables e below (T5.setTop (mkF m 21 #[.val (.int p0)] [(.ref r5), (.ref b3), (.ref b3)])) _
    refine XS.iconst X5.here hx rfl (hb hby d22_21) ?_
    exact kt
  obtain ⟨_, _, ⟨T7, L7, k7, n7⟩, -, X7, ⟨Lc7, hQ7, l7, y7, z7⟩, st7⟩ := X5.specialBack hx (y := (⟨"java/lang/String", "<init>", "([BB)V"⟩ : MethodName)) rfl hown (mvT hZ (hw _ (List.mem_of_getElem? (i := 143) rfl))) (mvT hZ (hw _ (List.mem_of_getElem? (i := 144) rfl))) (mvT hZ (hw _ (List.mem_of_getElem? (i := 145) rfl))) (by decide) (backOf (W := 1) (rmSB l Z a0 hw [] b3 r5 T5.heap n0 Z6 (A3.keep K5) (F_value_b3.keep K5 nin0) (F_coder_b3.keep K5 nin0) g_b3) hZ (hw _ (List.mem_of_getElem? (i := 145) rfl)) (hw _ (List.mem_of_getElem? (i := 5) rfl)) (by decide) (by decide)) (g := (mkF m 22 #[.val (.int p0)] [(.int (0 : Int32)), (.ref r5), (.ref b3), (.ref b3)])) rfl (by rw [hml]; rfl) (Steps.refl _) (a := b3) (argsL := [(.ref r5), (.int (0 : Int32))]) (rest := [(.ref b3)]) (lenOf pd__28_5bBB_29V rfl) rfl (by show 2 * 0 + _ ≤ _; exact Nat.le_of_eq rfl) (hb hby d22_22) (fun _ _ => ⟨rfl, rfl, (by decide : 2 + 0 ≤ _), (by decide : 5 + 0 ≤ _)⟩)
  dsimp only [Pt.U, Pt.locs, Pt.cells, Pt.slots] at X7 l7 y7 z7 st7 hQ7
  obtain ⟨rfl, N7q, K7, o7_0, o7_1, o7_2⟩ := hQ7
  have Z8 : n0 ≤ T7.heap.size := Nat.le_trans Z6 K7.1
  have Z8h : h0.size ≤ T7.heap.size := Nat.le_trans Z6h K7.1
  obtain ⟨lc7, X7, N7⟩ := own_pack X7 l7 y7 z7 N5 N7q (C := 2) (S' := 5) rfl rfl
  refine own_thr (a := T7.setTop (mkF m 25 #[.val (.int p0)] [(.ref b3)])) (fun t kt => st7.trans kt) ?_
  exact own_end X7 hlk (v := some (.ref b3)) (fun h => by rw [Bd.returns] at h; cases h) (fun fs hr => retA X7 hx Bd.returns rfl rfl (hb hby d22_25) hr) ⟨b3, rfl, N7, ((((Keep.refl h0 []).ext E3).trans K5 all0).trans K7 (allS (Or.inr sz_b3) all0)), o7_0, o7_2, ⟨r5, _, o7_1, (Vq5.keep K7 (ninS (Ne.symm ne_b3_r5) nin0))⟩⟩ (by decide : 2 ≤ _) (by decide : 5 ≤ _)
theorem d1_0 : decode method_3_code 0 = .ok (.iload_n 0, 1) := by decide +kernel
theorem d1_1 : decode method_3_code 1 = .ok (.bipush 8, 2) := by decide +kernel
theorem d1_3 : decode method_3_code 3 = .ok (.ishr, 1) := by decide +kernel
theorem d1_4 : decode method_3_code 4 = .ok (.iconst 3, 1) := by decide +kernel
theorem d1_5 : decode method_3_code 5 = .ok (.iand, 1) := by decide +kernel
theorem d1_6 : decode method_3_code 6 = .ok (.ifCond .ne 6, 3) := by decide +kernel
theorem d1_9 : decode method_3_code 9 = .ok (.ldc 7, 2) := by decide +kernel
theorem d1_11 : decode method_3_code 11 = .ok (.areturn, 1) := by decide +kernel
theorem d1_12 : decode method_3_code 12 = .ok (.iload_n 0, 1) := by decide +kernel
theorem d1_13 : decode method_3_code 13 = .ok (.sipush 255, 3) := by decide +kernel
theorem d1_16 : decode method_3_code 16 = .ok (.iand, 1) := by decide +kernel
theorem d1_17 : decode method_3_code 17 = .ok (.i2c, 1) := by decide +kernel
theorem pd__28C_29Ljava_2flang_2fString_3b : parseMethodDescriptor "(C)Ljava/lang/String;" = some ⟨[.char], some (.object "java/lang/String")⟩ := by decide +kernel
theorem d1_18 : decode method_3_code 18 = .ok (.invokestatic 9, 3) := by decide +kernel
theorem d1_21 : decode method_3_code 21 = .ok (.areturn, 1) := by decide +kernel
theorem ef_rmN (m : MethodId) (p0 : Int32)  : entryFrame m #[(.int p0)] 1 = mkF m 0 #[.val (.int p0)] [] := by first |  (simp [entryFrame, mkF, argsToLocals, Value.category]; done) | rfl
def Q_rmN (Z : State) (p0 : Int32) (cs : Int32) (h0 : Heap) (n0 : Nat) (v : Option Value) (h : Heap) (L : List Loc) : Prop := ∃ r : Addr, v = some (.ref r) ∧ Fr n0 L ∧ Keep h0 h [] ∧ own_S Z h r (f_rmK p0)
set_option maxRecDepth 65536 in
set_option maxHeartbeats 40000000 in
theorem rmN (l : Launch) (Z : State) (a0 : Array Value) (hw : ∀ d ∈ tables_1, d.before a0 Z = true) (ws : List Jvm.Cond) (p0 : Int32) (cs : Int32) (h0 : Heap) (n0 : Nat) (Z0 : n0 ≤ h0.size) (S_cs : Sta Z Z.heap "java/lang/String" "COMPACT_STRINGS" "Z" (.int cs)) (hcs : ¬ cs = (0 : Int32)) (hO : Old Z n0 h0) :
    MetFree l (⟨"com/example/tiphys/tiphys/KnowledgeBaseOutOfOrderPinLaw", "name", "(I)Ljava/lang/String;"⟩ : MethodName) (head1 (Jvm.Cond.code (⟨"com/example/tiphys/tiphys/KnowledgeBaseOutOfOrderPinLaw", "name", "(I)Ljava/lang/String;"⟩ : MethodName) method_3_code 1 (some (.object "java/lang/String")) :: ws) ({ frames := 3, cells := 2, slots := 5, locals := 39 } : Room)) (fun a U => a = #[(.int p0)] ∧ Z.Warmed39 U.vm ∧ U.heap = h0 ∧ CHv Z own_EL U.vm h0) (fun _ _ _ _ _ => True) (fun _ U o U' => ∃ v L, o = .returned v ∧ Q_rmN Z p0 cs h0 n0 v U'.heap L ∧ CHr Z own_EL U.vm U.heap U'.vm U'.heap ∧ ReturnedEndW U o U' L ({ frames := 3, cells := 2, slots := 5, locals := 39 } : Room).cells ({ frames := 3, cells := 2, slots := 5, locals := 39 } : Room).slots) := by
  refine MetFree.of_bodySF (plainFor_of_name pn_com_example_tiphys_tiphys_KnowledgeBaseOutOfOrderPinLaw) hisR ?_
  intro p e s m args below meth c s₁ Bd hml0 hP hK
  obtain ⟨rfl, hZ, hh, hCH0⟩ := hP
  have hx := Bd.exec
  have hby := Bd.bytes
  have hml : c.maxLocals = 1 := hml0
  have hown : s.vm.findClass "com/example/tiphys/tiphys/KnowledgeBaseOutOfOrderPinLaw" = some m.cls := findClass_of_methodNamed Bd.named
  have hnm := (name_of_methodNamed Bd.named Bd.method).1
  have hlk := Bd.notSynchronized
  have X0 : Stand p l e ({ frames := 3, cells := 2, slots := 5, locals := 39 } : Room) (s.setVm s.vm) m #[(.int p0)] below meth c s₁ [] 0 0 := Stand.of_body Bd
  have e0 : s₁.heap = h0 := by rw [← hh, Bd.state]; rfl
  have N0 := Fr.nil n0
  show own_GH p.tables e below s Z own_EL (Q_rmN Z p0 cs h0 n0) ({ frames := 3, cells := 2, slots := 5, locals := 39 } : Room).cells ({ frames := 3, cells := 2, slots := 5, locals := 39 } : Room).slots _
  have hS0 : s.Since s.vm 0 := (State.WarmedH.refl s).since 0
  have hEL := own_EW hw
  have CH0 : CHr Z own_EL s.vm h0 s.vm h0 := CHr.refl hCH0
  refine own_thrH (a := s₁.setTop (mkF m 0 #[.val (.int p0)] [])) (fun t kt => castTop (ef_rmN m p0) kt) ?_
  refine own_thrH (a := s₁.setTop (mkF m 6 #[.val (.int p0)] [(.int ((p0 >>> ((8 : Int32) &&& 31)) &&& (3 : Int32)))])) (fun t kt => ?_) ?_
  · show Steps p.tables e below (s₁.setTop (mkF m 0 #[.val (.int p0)] [])) _
    refine XS.iloadN X0.here hx rfl (hb hby d1_0) rfl ?_
    refine XS.bipush X0.here hx rfl (hb hby d1_1) ?_
    refine XS.ishr X0.here hx rfl (hb hby d1_3) rfl ?_
    refine XS.iconst X0.here hx rfl (hb hby d1_4) ?_
    refine XS.iand X0.here hx rfl (hb hby d1_5) rfl ?_
    exact kt
  by_cases hc1 : ((p0 >>> ((8 : Int32) &&& 31)) &&& (3 : Int32)) = (0 : Int32)
  · refine own_thrH (a := s₁.setTop (mkF m 9 #[.val (.int p0)] [])) (fun t kt => ?_) ?_
    · show Steps p.tables e below (s₁.setTop (mkF m 6 #[.val (.int p0)] [(.int ((p0 >>> ((8 : Int32) &&& 31)) &&& (3 : Int32)))])) _
      refine XS.ifNo X0.here hx rfl (hb hby d1_6) rfl ((if0 _ _).trans (teq hc1).2) ?_
      exact kt
    obtain ⟨b2, T2, h2, kk2, d2, kc2, X2, e2, E2, hS2, hk2, hZ2, hown2, oE2, oC2, oV2, oA2, -, -, ch2, -, sfq2, st2⟩ := ldcCH X0 hx hZ hown (hw _ (List.mem_of_getElem? (i := 4) rfl)) (fun a ha => hw a (own_sa a ha)) e0 hS0 (Nat.zero_le _) hEL (by decide) CH0.1 (vs := []) (z := (0 : Int32)) ⟨by decide, rfl⟩ (by decide) rfl (g := (mkF m 9 #[.val (.int p0)] [])) rfl (hb hby d1_9) (n := 0) (by decide) (by decide) (by decide : 0 + 2 ≤ _) (by decide : 0 + 4 ≤ _)
    have Z3 : n0 ≤ h2.size := Nat.le_trans Z0 E2.1
    have Z3h : h0.size ≤ h2.size := Nat.le_trans (Nat.le_refl h0.size) E2.1
    have CHl2 := CH0.trans ch2
    refine own_thrH (a := T2.setTop (mkF m 11 #[.val (.int p0)] [(.ref b2)])) (fun t kt => st2 t kt) ?_
    exact own_endH X2 hS2 (by rw [e2]; exact hk2) hZ2 hEL CHl2 hh e2 hlk (v := some (.ref b2)) (fun h => by rw [Bd.returns] at h; cases h) (fun fs hr => retA X2 hx Bd.returns rfl rfl (hb hby d1_11) hr) (by rw [e2]; exact ⟨b2, rfl, N0, ((Keep.refl h0 []).ext E2), ⟨oE2, oC2, d2, _, oV2, Or.inl ⟨by rw [f_rmK, if_pos hc1], oA2⟩⟩⟩) (by decide : 2 ≤ _) (by decide : 4 ≤ _)
  · refine own_thrH (a := s₁.setTop (mkF m 18 #[.val (.int p0)] [(.int ((p0 &&& (255 : Int32)).toUInt32.toUInt16.toUInt32.toInt32))])) (fun t kt => ?_) ?_
    · show Steps p.tables e below (s₁.setTop (mkF m 6 #[.val (.int p0)] [(.int ((p0 >>> ((8 : Int32) &&& 31)) &&& (3 : Int32)))])) _
      refine XS.ifYes X0.here hx rfl (pc0 := 6) (pc' := 12) rfl (hb hby d1_6) rfl ((if0 _ _).trans (feq hc1).2) (by decide) (by decide) ?_
      refine XS.iloadN X0.here hx rfl (hb hby d1_12) rfl ?_
      refine XS.sipush X0.here hx rfl (hb hby d1_13) ?_
      refine XS.iand X0.here hx rfl (hb hby d1_16) rfl ?_
      refine XS.i2c X0.here hx rfl (hb hby d1_17) rfl ?_
      exact kt
    obtain ⟨_, _, ⟨T4, L4, k4, n4⟩, -, X4, ⟨Lc4, hQ4, l4, y4, z4⟩, st4⟩ := Jvm.LawKit.callS X0 hx (y := (⟨"java/lang/String", "valueOf", "(C)Ljava/lang/String;"⟩ : MethodName)) hown (mvT hZ (hw _ (List.mem_of_getElem? (i := 132) rfl))) (mvT hZ (hw _ (List.mem_of_getElem? (i := 133) rfl))) (mvT hZ (hw _ (List.mem_of_getElem? (i := 5) rfl))) (mvT hZ (hw _ (List.mem_of_getElem? (i := 134) rfl))) (by decide) (backOf (W := 0) (rmVO l Z a0 hw [] ((p0 &&& (255 : Int32)).toUInt32.toUInt16.toUInt32.toInt32) cs h0 n0 Z0 (S_cs.ext hO.2) hcs (own_c1 p0)) hZ (hw _ (List.mem_of_getElem? (i := 134) rfl)) (hw _ (List.mem_of_getElem? (i := 5) rfl)) (by decide) (by decide)) (g := (mkF m 18 #[.val (.int p0)] [(.int ((p0 &&& (255 : Int32)).toUInt32.toUInt16.toUInt32.toInt32))])) rfl (by rw [hml]; rfl) (argsL := [(.int ((p0 &&& (255 : Int32)).toUInt32.toUInt16.toUInt32.toInt32))]) (rest := []) (lenOf pd__28C_29Ljava_2flang_2fString_3b rfl) rfl (by show 2 * 0 + _ ≤ _; exact Nat.le_of_eq rfl) (hb hby d1_18) (fun _ _ => ⟨rfl, e0, (by decide : 0 + 2 ≤ _), (by decide : 0 + 5 ≤ _)⟩)
    dsimp only [Pt.U, Pt.locs, Pt.cells, Pt.slots] at X4 l4 y4 z4 st4 hQ4
    obtain ⟨r4, rfl, N4q, K4, o4_0, o4_1, o4_2⟩ := hQ4
    have CH5 := CH0.trans (CHr.keep K4 all0 CH0.1)
    have Z6 : n0 ≤ T4.heap.size := Nat.le_trans Z0 K4.1
    have Z6h : h0.size ≤ T4.heap.size := Nat.le_trans (Nat.le_refl h0.size) K4.1
    obtain ⟨lc4, X4, N4⟩ := own_pack X4 l4 y4 z4 N0 N4q (C := 2) (S' := 5) rfl rfl
    refine own_thrH (a := T4.setTop (mkF m 21 #[.val (.int p0)] [(.ref r4)])) (fun t kt => st4 t kt) ?_
    obtain ⟨sv, ks, ov, oa⟩ := o4_2
    exact own_endH X4 hS0 (Nat.zero_le _) hZ hEL CH5 hh rfl hlk (v := some (.ref r4)) (fun h => by rw [Bd.returns] at h; cases h) (fun fs hr => retA X4 hx Bd.returns rfl rfl (hb hby d1_21) hr) ⟨r4, rfl, N4, ((Keep.refl h0 []).trans K4 all0), ⟨o4_0, o4_1, sv, ks, ov, Or.inr ⟨_, by rw [f_rmK, if_neg hc1]; exact own_kk p0, oa⟩⟩⟩ (by decide : 2 ≤ _) (by decide : 5 ≤ _)
theorem d4_0 : decode jdk_22_method_1_code 0 = .ok (.aload_n 0, 1) := by decide +kernel
theorem d4_1 : decode jdk_22_method_1_code 1 = .ok (.invokespecial 1, 3) := by decide +kernel
theorem d4_4 : decode jdk_22_method_1_code 4 = .ok (.return_, 1) := by decide +kernel
theorem pn_java_util_AbstractCollection : plainName "java/util/AbstractCollection" = true := by first | (simp [plainName, overriddenIn]; done) | decide +kernel
theorem ef_rmI1 (m : MethodId) (o0 : Addr)  : entryFrame m #[(.ref o0)] 1 = mkF m 0 #[.val (.ref o0)] [] := by first |  (simp [entryFrame, mkF, argsToLocals, Value.category]; done) | rfl
def Q_rmI1 (Z : State) (o0 : Addr) (h0 : Heap) (n0 : Nat) (v : Option Value) (h : Heap) (L : List Loc) : Prop := v = none ∧ Fr n0 L ∧ h = h0
set_option maxRecDepth 65536 in
set_option maxHeartbeats 40000000 in
theorem rmI1 (l : Launch) (Z : State) (a0 : Array Value) (hw : ∀ d ∈ tables_1, d.before a0 Z = true) (ws : List Jvm.Cond) (o0 : Addr) (h0 : Heap) (n0 : Nat) (Z0 : n0 ≤ h0.size) (E_o0 : Exa Z h0 o0 "java/util/ArrayList") :
    MetFree l (⟨"java/util/AbstractCollection", "<init>", "()V"⟩ : MethodName) (head1 (Jvm.Cond.code (⟨"java/util/AbstractCollection", "<init>", "()V"⟩ : MethodName) jdk_22_method_1_code 1 none :: ws) ({ frames := 1, cells := 0, slots := 0, locals := 12 } : Room)) (fun a U => a = #[(.ref o0)] ∧ Z.Warmed39 U.vm ∧ U.heap = h0) (fun _ _ _ _ _ => True) (fun _ U o U' => ∃ v L, o = .returned v ∧ Q_rmI1 Z o0 h0 n0 v U'.heap L ∧ FrameEnd U o U' L ({ frames := 1, cells := 0, slots := 0, locals := 12 } : Room).cells ({ frames := 1, cells := 0, slots := 0, locals := 12 } : Room).slots) := by
  refine MetFree.of_bodySF (plainFor_of_name pn_java_util_AbstractCollection) hisR ?_
  intro p e s m args below meth c s₁ Bd hml0 hP hK
  obtain ⟨rfl, hZ, hh⟩ := hP
  have hx := Bd.exec
  have hby := Bd.bytes
  have hml : c.maxLocals = 1 := hml0
  have hown : s.vm.findClass "java/util/AbstractCollection" = some m.cls := findClass_of_methodNamed Bd.named
  have hnm := (name_of_methodNamed Bd.named Bd.method).1
  have hlk := Bd.notSynchronized
  have X0 : Stand p l e ({ frames := 1, cells := 0, slots := 0, locals := 12 } : Room) s m #[(.ref o0)] below meth c s₁ [] 0 0 := Stand.of_body Bd
  have e0 : s₁.heap = h0 := by rw [← hh, Bd.state]; rfl
  have N0 := Fr.nil n0
  show own_G p.tables e below s (Q_rmI1 Z o0 h0 n0) ({ frames := 1, cells := 0, slots := 0, locals := 12 } : Room).cells ({ frames := 1, cells := 0, slots := 0, locals := 12 } : Room).slots _
  refine own_thr (a := s₁.setTop (mkF m 0 #[.val (.ref o0)] [])) (fun t kt => castTop (ef_rmI1 m o0) kt) ?_
  refine own_thr (a := s₁.setTop (mkF m 1 #[.val (.ref o0)] [(.ref o0)])) (fun t kt => ?_) ?_
  · show Steps p.tables e below (s₁.setTop (mkF m 0 #[.val (.ref o0)] [])) _
    refine XS.aloadN X0.here hx rfl (hb hby d4_0) rfl rfl ?_
    exact kt
  obtain ⟨T1, X1, e1, st1⟩ := initO X0 hx hZ hown (hw _ (List.mem_of_getElem? (i := 30) rfl)) (hw _ (List.mem_of_getElem? (i := 31) rfl)) (hw _ (List.mem_of_getElem? (i := 32) rfl)) e0 (g := (mkF m 1 #[.val (.ref o0)] [(.ref o0)])) rfl (by rw [hml]; rfl) rfl (hb hby d4_1) (by decide) (W := 0) (by show 2 * 0 + _ ≤ _; exact Nat.le_of_eq rfl) (by decide)
  refine own_thr (a := T1.setTop (mkF m 4 #[.val (.ref o0)] [])) (fun t kt => st1 t kt) ?_
  exact own_end X1 hlk (v := none) (fun _ => rfl) (fun fs hr => X1.returnOut hx Bd.returns (hb hby d4_4) hr) (by rw [e1]; exact ⟨rfl, N0, rfl⟩) (by decide : 0 ≤ _) (by decide : 0 ≤ _)
theorem d3_0 : decode jdk_39_method_1_code 0 = .ok (.aload_n 0, 1) := by decide +kernel
theorem pd__28_29V : parseMethodDescriptor "()V" = some ⟨[], none⟩ := by decide +kernel
theorem d3_1 : decode jdk_39_method_1_code 1 = .ok (.invokespecial 1, 3) := by decide +kernel
theorem d3_4 : decode jdk_39_method_1_code 4 = .ok (.aload_n 0, 1) := by decide +kernel
theorem d3_5 : decode jdk_39_method_1_code 5 = .ok (.iconst 0, 1) := by decide +kernel
theorem d3_6 : decode jdk_39_method_1_code 6 = .ok (.putfield 7, 3) := by decide +kernel
theorem d3_9 : decode jdk_39_method_1_code 9 = .ok (.return_, 1) := by decide +kernel
theorem pn_java_util_AbstractList : plainName "java/util/AbstractList" = true := by first | (simp [plainName, overriddenIn]; done) | decide +kernel
theorem ef_rmI2 (m : MethodId) (o0 : Addr)  : entryFrame m #[(.ref o0)] 1 = mkF m 0 #[.val (.ref o0)] [] := by first |  (simp [entryFrame, mkF, argsToLocals, Value.category]; done) | rfl
def Q_rmI2 (Z : State) (o0 : Addr) (h0 : Heap) (n0 : Nat) (v : Option Value) (h : Heap) (L : List Loc) : Prop := v = none ∧ Fr n0 L ∧ Keep h0 h [o0] ∧ Exa Z h o0 "java/util/ArrayList" ∧ Fld Z h o0 "java/util/AbstractList" "modCount" "I" (.int (0 : Int32)) ∧ Fld Z h o0 "java/util/ArrayList" "elementData" "[Ljava/lang/Object;" .null ∧ Fld Z h o0 "java/util/ArrayList" "size" "I" (.int (0 : Int32))
set_option maxRecDepth 65536 in
set_option maxHeartbeats 40000000 in
theorem rmI2 (l : Launch) (Z : State) (a0 : Array Value) (hw : ∀ d ∈ tables_1, d.before a0 Z = true) (ws : List Jvm.Cond) (o0 : Addr) (h0 : Heap) (n0 : Nat) (Z0 : n0 ≤ h0.size) (E_o0 : Exa Z h0 o0 "java/util/ArrayList") (F_modCount_o0 : Fld Z h0 o0 "java/util/AbstractList" "modCount" "I" (.int (0 : Int32))) (F_elementData_o0 : Fld Z h0 o0 "java/util/ArrayList" "elementData" "[Ljava/lang/Object;" .null) (F_size_o0 : Fld Z h0 o0 "java/util/ArrayList" "size" "I" (.int (0 : Int32))) (g_o0 : n0 ≤ o0) :
    MetFree l (⟨"java/util/AbstractList", "<init>", "()V"⟩ : MethodName) (head1 (Jvm.Cond.code (⟨"java/util/AbstractList", "<init>", "()V"⟩ : MethodName) jdk_39_method_1_code 1 none :: ws) ({ frames := 2, cells := 0, slots := 0, locals := 24 } : Room)) (fun a U => a = #[(.ref o0)] ∧ Z.Warmed39 U.vm ∧ U.heap = h0) (fun _ _ _ _ _ => True) (fun _ U o U' => ∃ v L, o = .returned v ∧ Q_rmI2 Z o0 h0 n0 v U'.heap L ∧ FrameEnd U o U' L ({ frames := 2, cells := 0, slots := 0, locals := 24 } : Room).cells ({ frames := 2, cells := 0, slots := 0, locals := 24 } : Room).slots) := by
  refine MetFree.of_bodySF (plainFor_of_name pn_java_util_AbstractList) hisR ?_
  intro p e s m args below meth c s₁ Bd hml0 hP hK
  obtain ⟨rfl, hZ, hh⟩ := hP
  have hx := Bd.exec
  have hby := Bd.bytes
  have hml : c.maxLocals = 1 := hml0
  have hown : s.vm.findClass "java/util/AbstractList" = some m.cls := findClass_of_methodNamed Bd.named
  have hnm := (name_of_methodNamed Bd.named Bd.method).1
  have hlk := Bd.notSynchronized
  have X0 : Stand p l e ({ frames := 2, cells := 0, slots := 0, locals := 24 } : Room) s m #[(.ref o0)] below meth c s₁ [] 0 0 := Stand.of_body Bd
  have e0 : s₁.heap = h0 := by rw [← hh, Bd.state]; rfl
  have N0 := Fr.nil n0
  show own_G p.tables e below s (Q_rmI2 Z o0 h0 n0) ({ frames := 2, cells := 0, slots := 0, locals := 24 } : Room).cells ({ frames := 2, cells := 0, slots := 0, locals := 24 } : Room).slots _
  refine own_thr (a := s₁.setTop (mkF m 0 #[.val (.ref o0)] [])) (fun t kt => castTop (ef_rmI2 m o0) kt) ?_
  refine own_thr (a := s₁.setTop (mkF m 1 #[.val (.ref o0)] [(.ref o0)])) (fun t kt => ?_) ?_
  · show Steps p.tables e below (s₁.setTop (mkF m 0 #[.val (.ref o0)] [])) _
    refine XS.aloadN X0.here hx rfl (hb hby d3_0) rfl rfl ?_
    exact kt
  obtain ⟨_, _, ⟨T1, L1, k1, n1⟩, -, X1, ⟨Lc1, hQ1, l1, y1, z1⟩, st1⟩ := X0.specialBack hx (y := (⟨"java/util/AbstractCollection", "<init>", "()V"⟩ : MethodName)) rfl hown (mvT hZ (hw _ (List.mem_of_getElem? (i := 24) rfl))) (mvT hZ (hw _ (List.mem_of_getElem? (i := 25) rfl))) (mvT hZ (hw _ (List.mem_of_getElem? (i := 29) rfl))) (by decide) (backOf (W := 0) (rmI1 l Z a0 hw [] o0 h0 n0 Z0 E_o0) hZ (hw _ (List.mem_of_getElem? (i := 29) rfl)) (hw _ (List.mem_of_getElem? (i := 28) rfl)) (by decide) (by decide)) (g := (mkF m 1 #[.val (.ref o0)] [(.ref o0)])) rfl (by rw [hml]; rfl) (Steps.refl _) (a := o0) (argsL := []) (rest := []) (lenOf pd__28_29V rfl) rfl (by show 2 * 0 + _ ≤ _; exact Nat.le_of_eq rfl) (hb hby d3_1) (fun _ _ => ⟨rfl, e0, (by decide : 0 + 0 ≤ _), (by decide : 0 + 0 ≤ _)⟩)
  dsimp only [Pt.U, Pt.locs, Pt.cells, Pt.slots] at X1 l1 y1 z1 st1 hQ1
  obtain ⟨rfl, N1q, e1⟩ := hQ1
  obtain ⟨lc1, X1, N1⟩ := own_pack X1 l1 y1 z1 N0 N1q (C := 0) (S' := 0) rfl rfl
  refine own_thr (a := T1.setTop (mkF m 4 #[.val (.ref o0)] [])) (fun t kt => st1.trans kt) ?_
  refine own_thr (a := T1.setTop (mkF m 6 #[.val (.ref o0)] [(.int (0 : Int32)), (.ref o0)])) (fun t kt => ?_) ?_
  · show Steps p.tables e below (T1.setTop (mkF m 4 #[.val (.ref o0)] [])) _
    refine XS.aloadN X1.here hx rfl (hb hby d3_4) rfl rfl ?_
    refine XS.iconst X1.here hx rfl (hb hby d3_5) ?_
    exact kt
  obtain ⟨T2, h2, X2, e2, W2, st2⟩ := putF X1 hx hZ hown (host := "") (Or.inl (hw _ (List.mem_of_getElem? (i := 33) rfl))) Via.refl e1 F_modCount_o0 E_o0 (Or.inl (hw _ (List.mem_of_getElem? (i := 34) rfl))) (hw _ (List.mem_of_getElem? (i := 13) rfl)) (ty := .int) (by decide) rfl rfl (g := (mkF m 6 #[.val (.ref o0)] [(.int (0 : Int32)), (.ref o0)])) rfl rfl (hb hby d3_6)
  have Fw2 := F_modCount_o0.same W2
  have Z3 : n0 ≤ h2.size := Nat.le_trans Z0 (Nat.le_of_eq W2.size.symm)
  have Z3h : h0.size ≤ h2.size := Nat.le_trans (Nat.le_refl h0.size) (Nat.le_of_eq W2.size.symm)
  obtain ⟨lc2, X2, N2⟩ := own_pack1 X2 N1 g_o0
  refine own_thr (a := T2.setTop (mkF m 9 #[.val (.ref o0)] [])) (fun t kt => st2 t kt) ?_
  have c4 := (F_elementData_o0.other W2 (Or.inr (slot_ne (Or.inl (hw _ (List.mem_of_getElem? (i := 37) rfl))) (Or.inl (hw _ (List.mem_of_getElem? (i := 34) rfl))) (by decide) (t := (.array (.object "java/lang/Object"))) (t' := .int) (by decide) (by decide))))
  have c5 := (F_size_o0.other W2 (Or.inr (slot_ne (Or.inl (hw _ (List.mem_of_getElem? (i := 55) rfl))) (Or.inl (hw _ (List.mem_of_getElem? (i := 34) rfl))) (by decide) (t := .int) (t' := .int) (by decide) (by decide))))
  exact own_end X2 hlk (v := none) (fun _ => rfl) (fun fs hr => X2.returnOut hx Bd.returns (hb hby d3_9) hr) (by rw [e2]; exact ⟨rfl, N2, ((Keep.refl h0 [o0]).wr W2 (Or.inl (List.mem_of_getElem? (i := 0) rfl))), (E_o0.wr W2), Fw2, c4, c5⟩) (by decide : 0 ≤ _) (by decide : 0 ≤ _)
theorem d2_0 : decode jdk_38_method_2_code 0 = .ok (.aload_n 0, 1) := by decide +kernel
theorem d2_1 : decode jdk_38_method_2_code 1 = .ok (.invokespecial 1, 3) := by decide +kernel
theorem d2_4 : decode jdk_38_method_2_code 4 = .ok (.aload_n 0, 1) := by decide +kernel
theorem d2_5 : decode jdk_38_method_2_code 5 = .ok (.getstatic 39, 3) := by decide +kernel
theorem d2_8 : decode jdk_38_method_2_code 8 = .ok (.putfield 9, 3) := by decide +kernel
theorem d2_11 : decode jdk_38_method_2_code 11 = .ok (.return_, 1) := by decide +kernel
theorem pn_java_util_ArrayList : plainName "java/util/ArrayList" = true := by first | (simp [plainName, overriddenIn]; done) | decide +kernel
theorem ef_rmI3 (m : MethodId) (o0 : Addr)  : entryFrame m #[(.ref o0)] 1 = mkF m 0 #[.val (.ref o0)] [] := by first |  (simp [entryFrame, mkF, argsToLocals, Value.category]; done) | rfl
def Q_rmI3 (Z : State) (o0 : Addr) (de : Addr) (h0 : Heap) (n0 : Nat) (v : Option Value) (h : Heap) (L : List Loc) : Prop := v = none ∧ Fr n0 L ∧ Keep h0 h [o0] ∧ Exa Z h o0 "java/util/ArrayList" ∧ Fld Z h o0 "java/util/AbstractList" "modCount" "I" (.int (0 : Int32)) ∧ Fld Z h o0 "java/util/ArrayList" "elementData" "[Ljava/lang/Object;" (.ref de) ∧ Fld Z h o0 "java/util/ArrayList" "size" "I" (.int (0 : Int32))
set_option maxRecDepth 65536 in
set_option maxHeartbeats 40000000 in
theorem rmI3 (l : Launch) (Z : State) (a0 : Array Value) (hw : ∀ d ∈ tables_1, d.before a0 Z = true) (ws : List Jvm.Cond) (o0 : Addr) (de : Addr) (h0 : Heap) (n0 : Nat) (Z0 : n0 ≤ h0.size) (E_o0 : Exa Z h0 o0 "java/util/ArrayList") (F_modCount_o0 : Fld Z h0 o0 "java/util/AbstractList" "modCount" "I" (.int (0 : Int32))) (F_elementData_o0 : Fld Z h0 o0 "java/util/ArrayList" "elementData" "[Ljava/lang/Object;" .null) (F_size_o0 : Fld Z h0 o0 "java/util/ArrayList" "size" "I" (.int (0 : Int32))) (g_o0 : n0 ≤ o0) (S_de : Sta Z Z.heap "java/util/ArrayList" "DEFAULTCAPACITY_EMPTY_ELEMENTDATA" "[Ljava/lang/Object;" (.ref de)) (hO : Old Z n0 h0) :
    MetFree l (⟨"java/util/ArrayList", "<init>", "()V"⟩ : MethodName) (head1 (Jvm.Cond.code (⟨"java/util/ArrayList", "<init>", "()V"⟩ : MethodName) jdk_38_method_2_code 1 none :: ws) ({ frames := 3, cells := 0, slots := 0, locals := 36 } : Room)) (fun a U => a = #[(.ref o0)] ∧ Z.Warmed39 U.vm ∧ U.heap = h0) (fun _ _ _ _ _ => True) (fun _ U o U' => ∃ v L, o = .returned v ∧ Q_rmI3 Z o0 de h0 n0 v U'.heap L ∧ FrameEnd U o U' L ({ frames := 3, cells := 0, slots := 0, locals := 36 } : Room).cells ({ frames := 3, cells := 0, slots := 0, locals := 36 } : Room).slots) := by
  refine MetFree.of_bodySF (plainFor_of_name pn_java_util_ArrayList) hisR ?_
  intro p e s m args below meth c s₁ Bd hml0 hP hK
  obtain ⟨rfl, hZ, hh⟩ := hP
  have hx := Bd.exec
  have hby := Bd.bytes
  have hml : c.maxLocals = 1 := hml0
  have hown : s.vm.findClass "java/util/ArrayList" = some m.cls := findClass_of_methodNamed Bd.named
  have hnm := (name_of_methodNamed Bd.named Bd.method).1
  have hlk := Bd.notSynchronized
  have X0 : Stand p l e ({ frames := 3, cells := 0, slots := 0, locals := 36 } : Room) s m #[(.ref o0)] below meth c s₁ [] 0 0 := Stand.of_body Bd
  have e0 : s₁.heap = h0 := by rw [← hh, Bd.state]; rfl
  have N0 := Fr.nil n0
  show own_G p.tables e below s (Q_rmI3 Z o0 de h0 n0) ({ frames := 3, cells := 0, slots := 0, locals := 36 } : Room).cells ({ frames := 3, cells := 0, slots := 0, locals := 36 } : Room).slots _
  refine own_thr (a := s₁.setTop (mkF m 0 #[.val (.ref o0)] [])) (fun t kt => castTop (ef_rmI3 m o0) kt) ?_
  refine own_thr (a := s₁.setTop (mkF m 1 #[.val (.ref o0)] [(.ref o0)])) (fun t kt => ?_) ?_
  · show Steps p.tables e below (s₁.setTop (mkF m 0 #[.val (.ref o0)] [])) _
    refine XS.aloadN X0.here hx rfl (hb hby d2_0) rfl rfl ?_
    exact kt
  obtain ⟨_, _, ⟨T1, L1, k1, n1⟩, -, X1, ⟨Lc1, hQ1, l1, y1, z1⟩, st1⟩ := X0.specialBack hx (y := (⟨"java/util/AbstractList", "<init>", "()V"⟩ : MethodName)) rfl hown (mvT hZ (hw _ (List.mem_of_getElem? (i := 18) rfl))) (mvT hZ (hw _ (List.mem_of_getElem? (i := 19) rfl))) (mvT hZ (hw _ (List.mem_of_getElem? (i := 23) rfl))) (by decide) (backOf (W := 0) (rmI2 l Z a0 hw [] o0 h0 n0 Z0 E_o0 F_modCount_o0 F_elementData_o0 F_size_o0 g_o0) hZ (hw _ (List.mem_of_getElem? (i := 23) rfl)) (hw _ (List.mem_of_getElem? (i := 22) rfl)) (by decide) (by decide)) (g := (mkF m 1 #[.val (.ref o0)] [(.ref o0)])) rfl (by rw [hml]; rfl) (Steps.refl _) (a := o0) (argsL := []) (rest := []) (lenOf pd__28_29V rfl) rfl (by show 2 * 0 + _ ≤ _; exact Nat.le_of_eq rfl) (hb hby d2_1) (fun _ _ => ⟨rfl, e0, (by decide : 0 + 0 ≤ _), (by decide : 0 + 0 ≤ _)⟩)
  dsimp only [Pt.U, Pt.locs, Pt.cells, Pt.slots] at X1 l1 y1 z1 st1 hQ1
  obtain ⟨rfl, N1q, K1, o1_0, o1_1, o1_2, o1_3⟩ := hQ1
  have Z2 : n0 ≤ T1.heap.size := Nat.le_trans Z0 K1.1
  have Z2h : h0.size ≤ T1.heap.size := Nat.le_trans (Nat.le_refl h0.size) K1.1
  obtain ⟨lc1, X1, N1⟩ := own_pack X1 l1 y1 z1 N0 N1q (C := 0) (S' := 0) rfl rfl
  refine own_thr (a := T1.setTop (mkF m 4 #[.val (.ref o0)] [])) (fun t kt => st1.trans kt) ?_
  have S3 := S_de.ext (hO.keep K1 (allS g_o0 all0)).2
  refine own_thr (a := T1.setTop (mkF m 5 #[.val (.ref o0)] [(.ref o0)])) (fun t kt => ?_) ?_
  · show Steps p.tables e below (T1.setTop (mkF m 4 #[.val (.ref o0)] [])) _
    refine XS.aloadN X1.here hx rfl (hb hby d2_4) rfl rfl ?_
    exact kt
  obtain ⟨T4, X4, e4, st4⟩ := getS2 X1 hx hZ hown (host := "") (Or.inl (hw _ (List.mem_of_getElem? (i := 35) rfl))) Via.refl rfl S3 (g := (mkF m 5 #[.val (.ref o0)] [(.ref o0)])) rfl (hb hby d2_5)
  refine own_thr (a := T4.setTop (mkF m 8 #[.val (.ref o0)] [(.ref de), (.ref o0)])) (fun t kt => st4 t kt) ?_
  obtain ⟨T5, h5, X5, e5, W5, st5⟩ := putF X4 hx hZ hown (host := "") (Or.inl (hw _ (List.mem_of_getElem? (i := 36) rfl))) Via.refl e4 o1_2 o1_0 (Or.inl (hw _ (List.mem_of_getElem? (i := 37) rfl))) (hw _ (List.mem_of_getElem? (i := 13) rfl)) (ty := (.array (.object "java/lang/Object"))) (by decide) rfl rfl (g := (mkF m 8 #[.val (.ref o0)] [(.ref de), (.ref o0)])) rfl rfl (hb hby d2_8)
  have Fw5 := o1_2.same W5
  have Z6 : n0 ≤ h5.size := Nat.le_trans Z2 (Nat.le_of_eq W5.size.symm)
  have Z6h : h0.size ≤ h5.size := Nat.le_trans Z2h (Nat.le_of_eq W5.size.symm)
  obtain ⟨lc5, X5, N5⟩ := own_pack1 X5 N1 g_o0
  refine own_thr (a := T5.setTop (mkF m 11 #[.val (.ref o0)] [])) (fun t kt => st5 t kt) ?_
  have c7 := (o1_1.other W5 (Or.inr (slot_ne (Or.inl (hw _ (List.mem_of_getElem? (i := 34) rfl))) (Or.inl (hw _ (List.mem_of_getElem? (i := 37) rfl))) (by decide) (t := .int) (t' := (.array (.object "java/lang/Object"))) (by decide) (by decide))))
  have c8 := (o1_3.other W5 (Or.inr (slot_ne (Or.inl (hw _ (List.mem_of_getElem? (i := 55) rfl))) (Or.inl (hw _ (List.mem_of_getElem? (i := 37) rfl))) (by decide) (t := .int) (t' := (.array (.object "java/lang/Object"))) (by decide) (by decide))))
  exact own_end X5 hlk (v := none) (fun _ => rfl) (fun fs hr => X5.returnOut hx Bd.returns (hb hby d2_11) hr) (by rw [e5]; exact ⟨rfl, N5, (((Keep.refl h0 [o0]).trans K1 (allS (Or.inl (List.mem_of_getElem? (i := 0) rfl)) all0)).wr W5 (Or.inl (List.mem_of_getElem? (i := 0) rfl))), (o1_0.wr W5), c7, Fw5, c8⟩) (by decide : 0 ≤ _) (by decide : 0 ≤ _)
theorem d13_0 : decode jdk_29_method_65_code 0 = .ok (.iload_n 0, 1) := by decide +kernel
theorem d13_1 : decode jdk_29_method_65_code 1 = .ok (.iload_n 1, 1) := by decide +kernel
theorem d13_2 : decode jdk_29_method_65_code 2 = .ok (.if_icmp .lt 7, 3) := by decide +kernel
theorem d13_5 : decode jdk_29_method_65_code 5 = .ok (.iload_n 0, 1) := by decide +kernel
theorem d13_6 : decode jdk_29_method_65_code 6 = .ok (.goto 4, 3) := by decide +kernel
theorem d13_10 : decode jdk_29_method_65_code 10 = .ok (.ireturn, 1) := by decide +kernel
theorem ef_rmMX (m : MethodId)   : entryFrame m #[(.int (10 : Int32)), (.int (1 : Int32))] 2 = mkF m 0 #[.val (.int (10 : Int32)), .val (.int (1 : Int32))] [] := by first |  (simp [entryFrame, mkF, argsToLocals, Value.category]; done) | rfl
def Q_rmMX (Z : State)  (h0 : Heap) (n0 : Nat) (v : Option Value) (h : Heap) (L : List Loc) : Prop := v = some (.int (10 : Int32)) ∧ Fr n0 L ∧ h = h0
set_option maxRecDepth 65536 in
set_option maxHeartbeats 40000000 in
theorem rmMX (l : Launch) (Z : State) (a0 : Array Value) (hw : ∀ d ∈ tables_1, d.before a0 Z = true) (ws : List Jvm.Cond)  (h0 : Heap) (n0 : Nat) (Z0 : n0 ≤ h0.size) :
    MetFree l (⟨"java/lang/Math", "max", "(II)I"⟩ : MethodName) (head1 (Jvm.Cond.code (⟨"java/lang/Math", "max", "(II)I"⟩ : MethodName) jdk_29_method_65_code 2 (some .int) :: ws) ({ frames := 0, cells := 0, slots := 0, locals := 0 } : Room)) (fun a U => a = #[(.int (10 : Int32)), (.int (1 : Int32))] ∧ Z.Warmed39 U.vm ∧ U.heap = h0) (fun _ _ _ _ _ => True) (fun _ U o U' => ∃ v L, o = .returned v ∧ Q_rmMX Z  h0 n0 v U'.heap L ∧ FrameEnd U o U' L ({ frames := 0, cells := 0, slots := 0, locals := 0 } : Room).cells ({ frames := 0, cells := 0, slots := 0, locals := 0 } : Room).slots) := by
  refine MetFree.of_bodySF (Jvm.Free.JP.mathPlain rfl (by decide +kernel)) hisR ?_
  intro p e s m args below meth c s₁ Bd hml0 hP hK
  obtain ⟨rfl, hZ, hh⟩ := hP
  have hx := Bd.exec
  have hby := Bd.bytes
  have hml : c.maxLocals = 2 := hml0
  have hown : s.vm.findClass "java/lang/Math" = some m.cls := findClass_of_methodNamed Bd.named
  have hnm := (name_of_methodNamed Bd.named Bd.method).1
  have hlk := Bd.notSynchronized
  have X0 : Stand p l e ({ frames := 0, cells := 0, slots := 0, locals := 0 } : Room) s m #[(.int (10 : Int32)), (.int (1 : Int32))] below meth c s₁ [] 0 0 := Stand.of_body Bd
  have e0 : s₁.heap = h0 := by rw [← hh, Bd.state]; rfl
  have N0 := Fr.nil n0
  show own_G p.tables e below s (Q_rmMX Z  h0 n0) ({ frames := 0, cells := 0, slots := 0, locals := 0 } : Room).cells ({ frames := 0, cells := 0, slots := 0, locals := 0 } : Room).slots _
  refine own_thr (a := s₁.setTop (mkF m 0 #[.val (.int (10 : Int32)), .val (.int (1 : Int32))] [])) (fun t kt => castTop (ef_rmMX m ) kt) ?_
  refine own_thr (a := s₁.setTop (mkF m 10 #[.val (.int (10 : Int32)), .val (.int (1 : Int32))] [(.int (10 : Int32))])) (fun t kt => ?_) ?_
  · show Steps p.tables e below (s₁.setTop (mkF m 0 #[.val (.int (10 : Int32)), .val (.int (1 : Int32))] [])) _
    refine XS.iloadN X0.here hx rfl (hb hby d13_0) rfl ?_
    refine XS.iloadN X0.here hx rfl (hb hby d13_1) rfl ?_
    refine XS.icmpNo X0.here hx rfl (hb hby d13_2) rfl (flt (by decide)).1 ?_
    refine XS.iloadN X0.here hx rfl (hb hby d13_5) rfl ?_
    refine XS.goto X0.here hx rfl (pc0 := 6) (pc' := 10) rfl (hb hby d13_6) (by decide) (by decide) ?_
    exact kt
  exact own_end X0 hlk (v := some (.int (10 : Int32))) (fun h => by rw [Bd.returns] at h; cases h) (fun fs hr => retI X0 hx Bd.returns (hb hby d13_10) hr) (by rw [e0]; exact ⟨rfl, N0, rfl⟩) (by decide : 0 ≤ _) (by decide : 0 ≤ _)
theorem d12_0 : decode jdk_38_method_6_code 0 = .ok (.aload_n 0, 1) := by decide +kernel
theorem d12_1 : decode jdk_38_method_6_code 1 = .ok (.getfield 9, 3) := by decide +kernel
theorem d12_4 : decode jdk_38_method_6_code 4 = .ok (.arraylength, 1) := by decide +kernel
theorem d12_5 : decode jdk_38_method_6_code 5 = .ok (.istore_n 2, 1) := by decide +kernel
theorem d12_6 : decode jdk_38_method_6_code 6 = .ok (.iload_n 2, 1) := by decide +kernel
theorem d12_7 : decode jdk_38_method_6_code 7 = .ok (.ifCond .gt 13, 3) := by decide +kernel
theorem d12_10 : decode jdk_38_method_6_code 10 = .ok (.aload_n 0, 1) := by decide +kernel
theorem d12_11 : decode jdk_38_method_6_code 11 = .ok (.getfield 9, 3) := by decide +kernel
theorem d12_14 : decode jdk_38_method_6_code 14 = .ok (.getstatic 39, 3) := by decide +kernel
theorem d12_17 : decode jdk_38_method_6_code 17 = .ok (.if_acmp .eq 28, 3) := by decide +kernel
theorem d12_45 : decode jdk_38_method_6_code 45 = .ok (.aload_n 0, 1) := by decide +kernel
theorem d12_46 : decode jdk_38_method_6_code 46 = .ok (.bipush 10, 2) := by decide +kernel
theorem d12_48 : decode jdk_38_method_6_code 48 = .ok (.iload_n 1, 1) := by decide +kernel
theorem pd__28II_29I : parseMethodDescriptor "(II)I" = some ⟨[.int, .int], some .int⟩ := by decide +kernel
theorem d12_49 : decode jdk_38_method_6_code 49 = .ok (.invokestatic 79, 3) := by decide +kernel
theorem d12_52 : decode jdk_38_method_6_code 52 = .ok (.anewarray 7, 3) := by decide +kernel
theorem d12_55 : decode jdk_38_method_6_code 55 = .ok (.dup_x1, 1) := by decide +kernel
theorem d12_56 : decode jdk_38_method_6_code 56 = .ok (.putfield 9, 3) := by decide +kernel
theorem d12_59 : decode jdk_38_method_6_code 59 = .ok (.areturn, 1) := by decide +kernel
theorem ef_rmGI (m : MethodId) (o0 : Addr)  : entryFrame m #[(.ref o0), (.int (1 : Int32))] 4 = mkF m 0 #[.val (.ref o0), .val (.int (1 : Int32)), .unset, .unset] [] := by first |  (simp [entryFrame, mkF, argsToLocals, Value.category]; done) | rfl
def Q_rmGI (Z : State) (o0 : Addr) (de : Addr) (kd : ClassId) (h0 : Heap) (n0 : Nat) (v : Option Value) (h : Heap) (L : List Loc) : Prop := ∃ (b : Addr) (ke : ClassId), v = some (.ref b) ∧ Fr n0 L ∧ Keep h0 h [o0] ∧ Exa Z h o0 "java/util/ArrayList" ∧ Fld Z h o0 "java/util/AbstractList" "modCount" "I" (.int (1 : Int32)) ∧ Fld Z h o0 "java/util/ArrayList" "elementData" "[Ljava/lang/Object;" (.ref b) ∧ Fld Z h o0 "java/util/ArrayList" "size" "I" (.int (0 : Int32)) ∧ Arv Z h b ke (.object "java/lang/Object") (10 : Int32) [.null, .null, .null, .null, .null, .null, .null, .null, .null, .null] .null ∧ Ovr Z ke "java/lang/Object" ∧ h0.size ≤ b
set_option maxRecDepth 65536 in
set_option maxHeartbeats 40000000 in
theorem rmGI (l : Launch) (Z : State) (a0 : Array Value) (hw : ∀ d ∈ tables_1, d.before a0 Z = true) (ws : List Jvm.Cond) (o0 : Addr) (de : Addr) (kd : ClassId) (h0 : Heap) (n0 : Nat) (Z0 : n0 ≤ h0.size) (E_o0 : Exa Z h0 o0 "java/util/ArrayList") (F_mc : Fld Z h0 o0 "java/util/AbstractList" "modCount" "I" (.int (1 : Int32))) (F_ed : Fld Z h0 o0 "java/util/ArrayList" "elementData" "[Ljava/lang/Object;" (.ref de)) (F_sz : Fld Z h0 o0 "java/util/ArrayList" "size" "I" (.int (0 : Int32))) (S_de : Sta Z Z.heap "java/util/ArrayList" "DEFAULTCAPACITY_EMPTY_ELEMENTDATA" "[Ljava/lang/Object;" (.ref de)) (V_de : Arv Z Z.heap de kd (.object "java/lang/Object") (0 : Int32) [] .null) (hO : Old Z n0 h0) (g_o0 : n0 ≤ o0) :
    MetFree l (⟨"java/util/ArrayList", "grow", "(I)[Ljava/lang/Object;"⟩ : MethodName) (head1 (Jvm.Cond.code (⟨"java/util/ArrayList", "grow", "(I)[Ljava/lang/Object;"⟩ : MethodName) jdk_38_method_6_code 4 (some (.array (.object "java/lang/Object"))) :: ws) ({ frames := 1, cells := 1, slots := 10, locals := 14 } : Room)) (fun a U => a = #[(.ref o0), (.int (1 : Int32))] ∧ Z.Warmed39 U.vm ∧ U.heap = h0) (fun _ _ _ _ _ => True) (fun _ U o U' => ∃ v L, o = .returned v ∧ Q_rmGI Z o0 de kd h0 n0 v U'.heap L ∧ FrameEnd U o U' L ({ frames := 1, cells := 1, slots := 10, locals := 14 } : Room).cells ({ frames := 1, cells := 1, slots := 10, locals := 14 } : Room).slots) := by
  refine MetFree.of_bodySF (plainFor_of_name pn_java_util_ArrayList) hisR ?_
  intro p e s m args below meth c s₁ Bd hml0 hP hK
  obtain ⟨rfl, hZ, hh⟩ := hP
  have hx := Bd.exec
  have hby := Bd.bytes
  have hml : c.maxLocals = 4 := hml0
  have hown : s.vm.findClass "java/util/ArrayList" = some m.cls := findClass_of_methodNamed Bd.named
  have hnm := (name_of_methodNamed Bd.named Bd.method).1
  have hlk := Bd.notSynchronized
  have X0 : Stand p l e ({ frames := 1, cells := 1, slots := 10, locals := 14 } : Room) s m #[(.ref o0), (.int (1 : Int32))] below meth c s₁ [] 0 0 := Stand.of_body Bd
  have e0 : s₁.heap = h0 := by rw [← hh, Bd.state]; rfl
  have N0 := Fr.nil n0
  show own_G p.tables e below s (Q_rmGI Z o0 de kd h0 n0) ({ frames := 1, cells := 1, slots := 10, locals := 14 } : Room).cells ({ frames := 1, cells := 1, slots := 10, locals := 14 } : Room).slots _
  refine own_thr (a := s₁.setTop (mkF m 0 #[.val (.ref o0), .val (.int (1 : Int32)), .unset, .unset] [])) (fun t kt => castTop (ef_rmGI m o0) kt) ?_
  refine own_thr (a := s₁.setTop (mkF m 1 #[.val (.ref o0), .val (.int (1 : Int32)), .unset, .unset] [(.ref o0)])) (fun t kt => ?_) ?_
  · show Steps p.tables e below (s₁.setTop (mkF m 0 #[.val (.ref o0), .val (.int (1 : Int32)), .unset, .unset] [])) _
    refine XS.aloadN X0.here hx rfl (hb hby d12_0) rfl rfl ?_
    exact kt
  obtain ⟨T1, X1, e1, st1⟩ := getF X0 hx hZ hown (host := "") (Or.inl (hw _ (List.mem_of_getElem? (i := 36) rfl))) Via.refl e0 F_ed (g := (mkF m 1 #[.val (.ref o0), .val (.int (1 : Int32)), .unset, .unset] [(.ref o0)])) rfl rfl (hb hby d12_1)
  refine own_thr (a := T1.setTop (mkF m 4 #[.val (.ref o0), .val (.int (1 : Int32)), .unset, .unset] [(.ref de)])) (fun t kt => st1 t kt) ?_
  have vd2 := V_de.ext hO.2
  have S3 := S_de.ext hO.2
  obtain ⟨cl4, Ar4, -, S4, M4, -, -⟩ := id vd2
  refine own_thr (a := T1.setTop (mkF m 11 #[.val (.ref o0), .val (.int (1 : Int32)), .val (.int (0 : Int32)), .unset] [(.ref o0)])) (fun t kt => ?_) ?_
  · show Steps p.tables e below (T1.setTop (mkF m 4 #[.val (.ref o0), .val (.int (1 : Int32)), .unset, .unset] [(.ref de)])) _
    refine X1.arraylength hx (by rw [e1]; exact Ar4.1) (State.isArrayOf_alike hZ.alike Ar4.2.1) (g := (mkF m 4 #[.val (.ref o0), .val (.int (1 : Int32)), .unset, .unset] [(.ref de)])) rfl rfl (hb hby d12_4) _ ?_
    rw [len_of S4 M4]
    refine XS.istoreN X1.here hx rfl (hb hby d12_5) rfl (l' := #[.val (.ref o0), .val (.int (1 : Int32)), .val (.int (0 : Int32)), .unset]) rfl ?_
    refine XS.iloadN X1.here hx rfl (hb hby d12_6) rfl ?_
    refine XS.ifNo X1.here hx rfl (hb hby d12_7) rfl ((if0 _ _).trans (flt (by decide)).2.2.1) ?_
    refine XS.aloadN X1.here hx rfl (hb hby d12_10) rfl rfl ?_
    exact kt
  obtain ⟨T5, X5, e5, st5⟩ := getF X1 hx hZ hown (host := "") (Or.inl (hw _ (List.mem_of_getElem? (i := 36) rfl))) Via.refl e1 F_ed (g := (mkF m 11 #[.val (.ref o0), .val (.int (1 : Int32)), .val (.int (0 : Int32)), .unset] [(.ref o0)])) rfl rfl (hb hby d12_11)
  refine own_thr (a := T5.setTop (mkF m 14 #[.val (.ref o0), .val (.int (1 : Int32)), .val (.int (0 : Int32)), .unset] [(.ref de)])) (fun t kt => st5 t kt) ?_
  have vd6 := V_de.ext hO.2
  have S7 := S_de.ext hO.2
  obtain ⟨T8, X8, e8, st8⟩ := getS2 X5 hx hZ hown (host := "") (Or.inl (hw _ (List.mem_of_getElem? (i := 35) rfl))) Via.refl e5 S7 (g := (mkF m 14 #[.val (.ref o0), .val (.int (1 : Int32)), .val (.int (0 : Int32)), .unset] [(.ref de)])) rfl (hb hby d12_14)
  refine own_thr (a := T8.setTop (mkF m 17 #[.val (.ref o0), .val (.int (1 : Int32)), .val (.int (0 : Int32)), .unset] [(.ref de), (.ref de)])) (fun t kt => st8 t kt) ?_
  refine own_thr (a := T8.setTop (mkF m 49 #[.val (.ref o0), .val (.int (1 : Int32)), .val (.int (0 : Int32)), .unset] [(.int (1 : Int32)), (.int (10 : Int32)), (.ref o0)])) (fun t kt => ?_) ?_
  · show Steps p.tables e below (T8.setTop (mkF m 17 #[.val (.ref o0), .val (.int (1 : Int32)), .val (.int (0 : Int32)), .unset] [(.ref de), (.ref de)])) _
    refine Jvm.RoadKit.acmp (g := (mkF m 17 #[.val (.ref o0), .val (.int (1 : Int32)), .val (.int (0 : Int32)), .unset] [(.ref de), (.ref de)])) X8 hx rfl rfl rfl (pc0 := 17) (pc' := 45) (same := true) rfl (hb hby d12_17) rfl (decide_eq_true rfl) (by decide) (by decide) ?_
    refine XS.aloadN X8.here hx rfl (hb hby d12_45) rfl rfl ?_
    refine XS.bipush X8.here hx rfl (hb hby d12_46) ?_
    refine XS.iloadN X8.here hx rfl (hb hby d12_48) rfl ?_
    exact kt
  obtain ⟨_, _, ⟨T9, L9, k9, n9⟩, -, X9, ⟨Lc9, hQ9, l9, y9, z9⟩, st9⟩ := Jvm.LawKit.callS X8 hx (y := (⟨"java/lang/Math", "max", "(II)I"⟩ : MethodName)) hown (mvT hZ (hw _ (List.mem_of_getElem? (i := 81) rfl))) (mvT hZ (hw _ (List.mem_of_getElem? (i := 82) rfl))) (mvT hZ (hw _ (List.mem_of_getElem? (i := 83) rfl))) (mvT hZ (hw _ (List.mem_of_getElem? (i := 84) rfl))) (by decide) (backOf (W := 1) (rmMX l Z a0 hw []  h0 n0 Z0) hZ (hw _ (List.mem_of_getElem? (i := 84) rfl)) (hw _ (List.mem_of_getElem? (i := 83) rfl)) (by decide) (by decide)) (g := (mkF m 49 #[.val (.ref o0), .val (.int (1 : Int32)), .val (.int (0 : Int32)), .unset] [(.int (1 : Int32)), (.int (10 : Int32)), (.ref o0)])) rfl (by rw [hml]; rfl) (argsL := [(.int (10 : Int32)), (.int (1 : Int32))]) (rest := [(.ref o0)]) (lenOf pd__28II_29I rfl) rfl (by show 2 * 0 + _ ≤ _; exact Nat.le_of_eq rfl) (hb hby d12_49) (fun _ _ => ⟨rfl, e8, (by decide : 0 + 0 ≤ _), (by decide : 0 + 0 ≤ _)⟩)
  dsimp only [Pt.U, Pt.locs, Pt.cells, Pt.slots] at X9 l9 y9 z9 st9 hQ9
  obtain ⟨rfl, N9q, e9⟩ := hQ9
  obtain ⟨lc9, X9, N9⟩ := own_pack X9 l9 y9 z9 N0 N9q (C := 0) (S' := 0) rfl rfl
  refine own_thr (a := T9.setTop (mkF m 52 #[.val (.ref o0), .val (.int (1 : Int32)), .val (.int (0 : Int32)), .unset] [(.int (10 : Int32)), (.ref o0)])) (fun t kt => st9 t kt) ?_
  obtain ⟨T10, h10, k10, X10, e10, E10, A10, O10, st10⟩ := newR X9 hx hZ hown (hw _ (List.mem_of_getElem? (i := 85) rfl)) (hw _ (List.mem_of_getElem? (i := 86) rfl)) e9 (g := (mkF m 52 #[.val (.ref o0), .val (.int (1 : Int32)), .val (.int (0 : Int32)), .unset] [(.int (10 : Int32)), (.ref o0)])) rfl (hb hby d12_52) rfl (by decide) (cap := 10) (by decide) (by decide) (by decide : 0 + 1 ≤ _) (by decide : 0 + 10 ≤ _)
  obtain ⟨b10, g10⟩ : ∃ z, z = h0.size := ⟨_, rfl⟩
  rw [← g10] at A10 st10
  have g_b10 : n0 ≤ b10 := Nat.le_trans Z0 (Nat.le_of_eq g10.symm)
  have sz_b10 : h0.size ≤ b10 := Nat.le_trans (Nat.le_refl h0.size) (Nat.le_of_eq g10.symm)
  have lt_o0_b10 : o0 < b10 := Nat.lt_of_lt_of_le E_o0.lt (Nat.le_of_eq g10.symm)
  have ne_o0_b10 : o0 ≠ b10 := Nat.ne_of_lt lt_o0_b10
  have lt_de_b10 : de < b10 := Nat.lt_of_lt_of_le vd6.lt (Nat.le_of_eq g10.symm)
  have ne_de_b10 : de ≠ b10 := Nat.ne_of_lt lt_de_b10
  have V_b10 : Arv Z h10 b10 k10 (.object "java/lang/Object") (10 : Int32) [.null, .null, .null, .null, .null, .null, .null, .null, .null, .null] .null := (Arv.new A10 (by decide)).pad (pad_rep [] .null 10)
  have Z11 : n0 ≤ h10.size := Nat.le_trans Z0 E10.1
  have Z11h : h0.size ≤ h10.size := Nat.le_trans (Nat.le_refl h0.size) E10.1
  refine own_thr (a := T10.setTop (mkF m 55 #[.val (.ref o0), .val (.int (1 : Int32)), .val (.int (0 : Int32)), .unset] [(.ref b10), (.ref o0)])) (fun t kt => st10 t kt) ?_
  refine own_thr (a := T10.setTop (mkF m 56 #[.val (.ref o0), .val (.int (1 : Int32)), .val (.int (0 : Int32)), .unset] [(.ref b10), (.ref o0), (.ref b10)])) (fun t kt => ?_) ?_
  · show Steps p.tables e below (T10.setTop (mkF m 55 #[.val (.ref o0), .val (.int (1 : Int32)), .val (.int (0 : Int32)), .unset] [(.ref b10), (.ref o0)])) _
    refine XS.dupX1 X10.here hx rfl (hb hby d12_55) rfl rfl rfl ?_
    exact kt
  obtain ⟨T12, h12, X12, e12, W12, st12⟩ := putF X10 hx hZ hown (host := "") (Or.inl (hw _ (List.mem_of_getElem? (i := 36) rfl))) Via.refl e10 (F_ed.ext E10) (E_o0.ext E10) (Or.inl (hw _ (List.mem_of_getElem? (i := 37) rfl))) (hw _ (List.mem_of_getElem? (i := 13) rfl)) (ty := (.array (.object "java/lang/Object"))) (by decide) rfl rfl (g := (mkF m 56 #[.val (.ref o0), .val (.int (1 : Int32)), .val (.int (0 : Int32)), .unset] [(.ref b10), (.ref o0), (.ref b10)])) rfl rfl (hb hby d12_56)
  have Fw12 := (F_ed.ext E10).same W12
  have Z13 : n0 ≤ h12.size := Nat.le_trans Z11 (Nat.le_of_eq W12.size.symm)
  have Z13h : h0.size ≤ h12.size := Nat.le_trans Z11h (Nat.le_of_eq W12.size.symm)
  obtain ⟨lc12, X12, N12⟩ := own_pack1 X12 N9 g_o0
  refine own_thr (a := T12.setTop (mkF m 59 #[.val (.ref o0), .val (.int (1 : Int32)), .val (.int (0 : Int32)), .unset] [(.ref b10)])) (fun t kt => st12 t kt) ?_
  have c14 := ((F_mc.ext E10).other W12 (Or.inr (slot_ne (Or.inl (hw _ (List.mem_of_getElem? (i := 34) rfl))) (Or.inl (hw _ (List.mem_of_getElem? (i := 37) rfl))) (by decide) (t := .int) (t' := (.array (.object "java/lang/Object"))) (by decide) (by decide))))
  have c15 := ((F_sz.ext E10).other W12 (Or.inr (slot_ne (Or.inl (hw _ (List.mem_of_getElem? (i := 55) rfl))) (Or.inl (hw _ (List.mem_of_getElem? (i := 37) rfl))) (by decide) (t := .int) (t' := (.array (.object "java/lang/Object"))) (by decide) (by decide))))
  exact own_end X12 hlk (v := some (.ref b10)) (fun h => by rw [Bd.returns] at h; cases h) (fun fs hr => retA X12 hx Bd.returns rfl rfl (hb hby d12_59) hr) (by rw [e12]; exact ⟨b10, k10, rfl, N12, (((Keep.refl h0 [o0]).ext E10).wr W12 (Or.inl (List.mem_of_getElem? (i := 0) rfl))), ((E_o0.ext E10).wr W12), c14, Fw12, c15, (V_b10.other W12 (Ne.symm ne_o0_b10)), O10, sz_b10⟩) (by decide : 1 ≤ _) (by decide : 10 ≤ _)
theorem d11_0 : decode jdk_38_method_7_code 0 = .ok (.aload_n 0, 1) := by decide +kernel
theorem d11_1 : decode jdk_38_method_7_code 1 = .ok (.aload_n 0, 1) := by decide +kernel
theorem d11_2 : decode jdk_38_method_7_code 2 = .ok (.getfield 48, 3) := by decide +kernel
theorem d11_5 : decode jdk_38_method_7_code 5 = .ok (.iconst 1, 1) := by decide +kernel
theorem d11_6 : decode jdk_38_method_7_code 6 = .ok (.iadd, 1) := by decide +kernel
theorem pd__28I_29_5bLjava_2flang_2fObject_3b : parseMethodDescriptor "(I)[Ljava/lang/Object;" = some ⟨[.int], some (.array (.object "java/lang/Object"))⟩ := by decide +kernel
theorem d11_7 : decode jdk_38_method_7_code 7 = .ok (.invokevirtual 69, 3) := by decide +kernel
theorem d11_10 : decode jdk_38_method_7_code 10 = .ok (.areturn, 1) := by decide +kernel
theorem ef_rmGR (m : MethodId) (o0 : Addr)  : entryFrame m #[(.ref o0)] 1 = mkF m 0 #[.val (.ref o0)] [] := by first |  (simp [entryFrame, mkF, argsToLocals, Value.category]; done) | rfl
def Q_rmGR (Z : State) (o0 : Addr) (de : Addr) (kd : ClassId) (h0 : Heap) (n0 : Nat) (v : Option Value) (h : Heap) (L : List Loc) : Prop := ∃ (b : Addr) (ke : ClassId), v = some (.ref b) ∧ Fr n0 L ∧ Keep h0 h [o0] ∧ Exa Z h o0 "java/util/ArrayList" ∧ Fld Z h o0 "java/util/AbstractList" "modCount" "I" (.int (1 : Int32)) ∧ Fld Z h o0 "java/util/ArrayList" "elementData" "[Ljava/lang/Object;" (.ref b) ∧ Fld Z h o0 "java/util/ArrayList" "size" "I" (.int (0 : Int32)) ∧ Arv Z h b ke (.object "java/lang/Object") (10 : Int32) [.null, .null, .null, .null, .null, .null, .null, .null, .null, .null] .null ∧ Ovr Z ke "java/lang/Object" ∧ h0.size ≤ b
set_option maxRecDepth 65536 in
set_option maxHeartbeats 40000000 in
theorem rmGR (l : Launch) (Z : State) (a0 : Array Value) (hw : ∀ d ∈ tables_1, d.before a0 Z = true) (ws : List Jvm.Cond) (o0 : Addr) (de : Addr) (kd : ClassId) (h0 : Heap) (n0 : Nat) (Z0 : n0 ≤ h0.size) (E_o0 : Exa Z h0 o0 "java/util/ArrayList") (F_mc : Fld Z h0 o0 "java/util/AbstractList" "modCount" "I" (.int (1 : Int32))) (F_ed : Fld Z h0 o0 "java/util/ArrayList" "elementData" "[Ljava/lang/Object;" (.ref de)) (F_sz : Fld Z h0 o0 "java/util/ArrayList" "size" "I" (.int (0 : Int32))) (S_de : Sta Z Z.heap "java/util/ArrayList" "DEFAULTCAPACITY_EMPTY_ELEMENTDATA" "[Ljava/lang/Object;" (.ref de)) (V_de : Arv Z Z.heap de kd (.object "java/lang/Object") (0 : Int32) [] .null) (hO : Old Z n0 h0) (g_o0 : n0 ≤ o0) :
    MetFree l (⟨"java/util/ArrayList", "grow", "()[Ljava/lang/Object;"⟩ : MethodName) (head1 (Jvm.Cond.code (⟨"java/util/ArrayList", "grow", "()[Ljava/lang/Object;"⟩ : MethodName) jdk_38_method_7_code 1 (some (.array (.object "java/lang/Object"))) :: ws) ({ frames := 2, cells := 1, slots := 10, locals := 29 } : Room)) (fun a U => a = #[(.ref o0)] ∧ Z.Warmed39 U.vm ∧ U.heap = h0) (fun _ _ _ _ _ => True) (fun _ U o U' => ∃ v L, o = .returned v ∧ Q_rmGR Z o0 de kd h0 n0 v U'.heap L ∧ FrameEnd U o U' L ({ frames := 2, cells := 1, slots := 10, locals := 29 } : Room).cells ({ frames := 2, cells := 1, slots := 10, locals := 29 } : Room).slots) := by
  refine MetFree.of_bodySF (plainFor_of_name pn_java_util_ArrayList) hisR ?_
  intro p e s m args below meth c s₁ Bd hml0 hP hK
  obtain ⟨rfl, hZ, hh⟩ := hP
  have hx := Bd.exec
  have hby := Bd.bytes
  have hml : c.maxLocals = 1 := hml0
  have hown : s.vm.findClass "java/util/ArrayList" = some m.cls := findClass_of_methodNamed Bd.named
  have hnm := (name_of_methodNamed Bd.named Bd.method).1
  have hlk := Bd.notSynchronized
  have X0 : Stand p l e ({ frames := 2, cells := 1, slots := 10, locals := 29 } : Room) s m #[(.ref o0)] below meth c s₁ [] 0 0 := Stand.of_body Bd
  have e0 : s₁.heap = h0 := by rw [← hh, Bd.state]; rfl
  have N0 := Fr.nil n0
  show own_G p.tables e below s (Q_rmGR Z o0 de kd h0 n0) ({ frames := 2, cells := 1, slots := 10, locals := 29 } : Room).cells ({ frames := 2, cells := 1, slots := 10, locals := 29 } : Room).slots _
  refine own_thr (a := s₁.setTop (mkF m 0 #[.val (.ref o0)] [])) (fun t kt => castTop (ef_rmGR m o0) kt) ?_
  refine own_thr (a := s₁.setTop (mkF m 2 #[.val (.ref o0)] [(.ref o0), (.ref o0)])) (fun t kt => ?_) ?_
  · show Steps p.tables e below (s₁.setTop (mkF m 0 #[.val (.ref o0)] [])) _
    refine XS.aloadN X0.here hx rfl (hb hby d11_0) rfl rfl ?_
    refine XS.aloadN X0.here hx rfl (hb hby d11_1) rfl rfl ?_
    exact kt
  obtain ⟨T1, X1, e1, st1⟩ := getF X0 hx hZ hown (host := "") (Or.inl (hw _ (List.mem_of_getElem? (i := 54) rfl))) Via.refl e0 F_sz (g := (mkF m 2 #[.val (.ref o0)] [(.ref o0), (.ref o0)])) rfl rfl (hb hby d11_2)
  refine own_thr (a := T1.setTop (mkF m 5 #[.val (.ref o0)] [(.int (0 : Int32)), (.ref o0)])) (fun t kt => st1 t kt) ?_
  refine own_thr (a := T1.setTop (mkF m 7 #[.val (.ref o0)] [(.int (1 : Int32)), (.ref o0)])) (fun t kt => ?_) ?_
  · show Steps p.tables e below (T1.setTop (mkF m 5 #[.val (.ref o0)] [(.int (0 : Int32)), (.ref o0)])) _
    refine XS.iconst X1.here hx rfl (hb hby d11_5) ?_
    refine XS.iadd X1.here hx rfl (hb hby d11_6) rfl ?_
    exact kt
  obtain ⟨cq2, q2, q2'⟩ := E_o0.cell
  obtain ⟨_, _, ⟨T2, L2, k2, n2⟩, -, X2, ⟨Lc2, hQ2, l2, y2, z2⟩, st2⟩ := X1.privateBack hx (y := (⟨"java/util/ArrayList", "grow", "(I)[Ljava/lang/Object;"⟩ : MethodName)) hown (mvT hZ (hw _ (List.mem_of_getElem? (i := 76) rfl))) (mvT hZ (hw _ (List.mem_of_getElem? (i := 77) rfl))) (mvT hZ (hw _ (List.mem_of_getElem? (i := 79) rfl))) (Cond.privateMethod_at (mvP hZ (hw _ (List.mem_of_getElem? (i := 78) rfl)) (args := #[]))) (mvT hZ (hw _ (List.mem_of_getElem? (i := 80) rfl))) (by decide) (backOf (W := 0) (rmGI l Z a0 hw [] o0 de kd h0 n0 Z0 E_o0 F_mc F_ed F_sz S_de V_de hO g_o0) hZ (hw _ (List.mem_of_getElem? (i := 80) rfl)) (hw _ (List.mem_of_getElem? (i := 14) rfl)) (by decide) (by decide)) (g := (mkF m 7 #[.val (.ref o0)] [(.int (1 : Int32)), (.ref o0)])) rfl (by rw [hml]; rfl) (Steps.refl _) (a := o0) (by rw [e1]; exact q2) q2' (argsL := [(.int (1 : Int32))]) (rest := []) (lenOf pd__28I_29_5bLjava_2flang_2fObject_3b rfl) rfl (by show 2 * 0 + _ ≤ _; exact Nat.le_of_eq rfl) (hb hby d11_7) (fun _ _ => ⟨rfl, e1, (by decide : 0 + 1 ≤ _), (by decide : 0 + 10 ≤ _)⟩)
  dsimp only [Pt.U, Pt.locs, Pt.cells, Pt.slots] at X2 l2 y2 z2 st2 hQ2
  obtain ⟨B2, ke2, rfl, N2q, K2, o2_e, o2_m, o2_d, o2_s, o2_a, o2_o, hB2⟩ := hQ2
  have ne_o0_B2 : o0 ≠ B2 := Nat.ne_of_lt (Nat.lt_of_lt_of_le E_o0.lt hB2)
  have g_B2 : n0 ≤ B2 := Nat.le_trans Z0 hB2
  have sz_B2 : h0.size ≤ B2 := Nat.le_trans (Nat.le_refl h0.size) hB2
  have Z3 : n0 ≤ T2.heap.size := Nat.le_trans Z0 K2.1
  have Z3h : h0.size ≤ T2.heap.size := Nat.le_trans (Nat.le_refl h0.size) K2.1
  obtain ⟨lc2, X2, N2⟩ := own_pack X2 l2 y2 z2 N0 N2q (C := 1) (S' := 10) rfl rfl
  refine own_thr (a := T2.setTop (mkF m 10 #[.val (.ref o0)] [(.ref B2)])) (fun t kt => st2.trans kt) ?_
  exact own_end X2 hlk (v := some (.ref B2)) (fun h => by rw [Bd.returns] at h; cases h) (fun fs hr => retA X2 hx Bd.returns rfl rfl (hb hby d11_10) hr) ⟨B2, ke2, rfl, N2, ((Keep.refl h0 [o0]).trans K2 (allS (Or.inl (List.mem_of_getElem? (i := 0) rfl)) all0)), o2_e, o2_m, o2_d, o2_s, o2_a, o2_o, sz_B2⟩ (by decide : 1 ≤ _) (by decide : 10 ≤ _)
theorem d10_0 : decode jdk_38_method_24_code 0 = .ok (.iload_n 3, 1) := by decide +kernel
theorem d10_1 : decode jdk_38_method_24_code 1 = .ok (.aload_n 2, 1) := by decide +kernel
theorem d10_2 : decode jdk_38_method_24_code 2 = .ok (.arraylength, 1) := by decide +kernel
theorem d10_3 : decode jdk_38_method_24_code 3 = .ok (.if_icmp .ne 8, 3) := by decide +kernel
theorem d10_6 : decode jdk_38_method_24_code 6 = .ok (.aload_n 0, 1) := by decide +kernel
theorem pd__28_29_5bLjava_2flang_2fObject_3b : parseMethodDescriptor "()[Ljava/lang/Object;" = some ⟨[], some (.array (.object "java/lang/Object"))⟩ := by decide +kernel
theorem d10_7 : decode jdk_38_method_24_code 7 = .ok (.invokevirtual 129, 3) := by decide +kernel
theorem d10_10 : decode jdk_38_method_24_code 10 = .ok (.astore_n 2, 1) := by decide +kernel
theorem d10_11 : decode jdk_38_method_24_code 11 = .ok (.aload_n 2, 1) := by decide +kernel
theorem d10_12 : decode jdk_38_method_24_code 12 = .ok (.iload_n 3, 1) := by decide +kernel
theorem d10_13 : decode jdk_38_method_24_code 13 = .ok (.aload_n 1, 1) := by decide +kernel
theorem d10_14 : decode jdk_38_method_24_code 14 = .ok (.aastore, 1) := by decide +kernel
theorem d10_15 : decode jdk_38_method_24_code 15 = .ok (.aload_n 0, 1) := by decide +kernel
theorem d10_16 : decode jdk_38_method_24_code 16 = .ok (.iload_n 3, 1) := by decide +kernel
theorem d10_17 : decode jdk_38_method_24_code 17 = .ok (.iconst 1, 1) := by decide +kernel
theorem d10_18 : decode jdk_38_method_24_code 18 = .ok (.iadd, 1) := by decide +kernel
theorem d10_19 : decode jdk_38_method_24_code 19 = .ok (.putfield 48, 3) := by decide +kernel
theorem d10_22 : decode jdk_38_method_24_code 22 = .ok (.return_, 1) := by decide +kernel
theorem ef_rmA3 (m : MethodId) (o0 : Addr) (rn : Addr) (de : Addr)  : entryFrame m #[(.ref o0), (.ref rn), (.ref de), (.int (0 : Int32))] 4 = mkF m 0 #[.val (.ref o0), .val (.ref rn), .val (.ref de), .val (.int (0 : Int32))] [] := by first |  (simp [entryFrame, mkF, argsToLocals, Value.category]; done) | rfl
def Q_rmA3 (Z : State) (o0 : Addr) (rn : Addr) (de : Addr) (kd : ClassId) (h0 : Heap) (n0 : Nat) (v : Option Value) (h : Heap) (L : List Loc) : Prop := ∃ (b : Addr) (ke : ClassId), v = none ∧ Fr n0 L ∧ Keep h0 h [o0] ∧ Exa Z h o0 "java/util/ArrayList" ∧ Fld Z h o0 "java/util/AbstractList" "modCount" "I" (.int (1 : Int32)) ∧ Fld Z h o0 "java/util/ArrayList" "elementData" "[Ljava/lang/Object;" (.ref b) ∧ Fld Z h o0 "java/util/ArrayList" "size" "I" (.int (1 : Int32)) ∧ Arv Z h b ke (.object "java/lang/Object") (10 : Int32) [(.ref rn), .null, .null, .null, .null, .null, .null, .null, .null, .null] .null ∧ Ovr Z ke "java/lang/Object" ∧ h0.size ≤ b
set_option maxRecDepth 65536 in
set_option maxHeartbeats 40000000 in
theorem rmA3 (l : Launch) (Z : State) (a0 : Array Value) (hw : ∀ d ∈ tables_1, d.before a0 Z = true) (ws : List Jvm.Cond) (o0 : Addr) (rn : Addr) (de : Addr) (kd : ClassId) (h0 : Heap) (n0 : Nat) (Z0 : n0 ≤ h0.size) (E_o0 : Exa Z h0 o0 "java/util/ArrayList") (F_mc : Fld Z h0 o0 "java/util/AbstractList" "modCount" "I" (.int (1 : Int32))) (F_ed : Fld Z h0 o0 "java/util/ArrayList" "elementData" "[Ljava/lang/Object;" (.ref de)) (F_sz : Fld Z h0 o0 "java/util/ArrayList" "size" "I" (.int (0 : Int32))) (S_de : Sta Z Z.heap "java/util/ArrayList" "DEFAULTCAPACITY_EMPTY_ELEMENTDATA" "[Ljava/lang/Object;" (.ref de)) (V_de : Arv Z Z.heap de kd (.object "java/lang/Object") (0 : Int32) [] .null) (hO : Old Z n0 h0) (g_o0 : n0 ≤ o0) (E_rn : Exa Z h0 rn "java/lang/String") :
    MetFree l (⟨"java/util/ArrayList", "add", "(Ljava/lang/Object;[Ljava/lang/Object;I)V"⟩ : MethodName) (head1 (Jvm.Cond.code (⟨"java/util/ArrayList", "add", "(Ljava/lang/Object;[Ljava/lang/Object;I)V"⟩ : MethodName) jdk_38_method_24_code 4 none :: ws) ({ frames := 3, cells := 1, slots := 10, locals := 41 } : Room)) (fun a U => a = #[(.ref o0), (.ref rn), (.ref de), (.int (0 : Int32))] ∧ Z.Warmed39 U.vm ∧ U.heap = h0) (fun _ _ _ _ _ => True) (fun _ U o U' => ∃ v L, o = .returned v ∧ Q_rmA3 Z o0 rn de kd h0 n0 v U'.heap L ∧ FrameEnd U o U' L ({ frames := 3, cells := 1, slots := 10, locals := 41 } : Room).cells ({ frames := 3, cells := 1, slots := 10, locals := 41 } : Room).slots) := by
  refine MetFree.of_bodySF (plainFor_of_name pn_java_util_ArrayList) hisR ?_
  intro p e s m args below meth c s₁ Bd hml0 hP hK
  obtain ⟨rfl, hZ, hh⟩ := hP
  have hx := Bd.exec
  have hby := Bd.bytes
  have hml : c.maxLocals = 4 := hml0
  have hown : s.vm.findClass "java/util/ArrayList" = some m.cls := findClass_of_methodNamed Bd.named
  have hnm := (name_of_methodNamed Bd.named Bd.method).1
  have hlk := Bd.notSynchronized
  have X0 : Stand p l e ({ frames := 3, cells := 1, slots := 10, locals := 41 } : Room) s m #[(.ref o0), (.ref rn), (.ref de), (.int (0 : Int32))] below meth c s₁ [] 0 0 := Stand.of_body Bd
  have e0 : s₁.heap = h0 := by rw [← hh, Bd.state]; rfl
  have N0 := Fr.nil n0
  show own_G p.tables e below s (Q_rmA3 Z o0 rn de kd h0 n0) ({ frames := 3, cells := 1, slots := 10, locals := 41 } : Room).cells ({ frames := 3, cells := 1, slots := 10, locals := 41 } : Room).slots _
  refine own_thr (a := s₁.setTop (mkF m 0 #[.val (.ref o0), .val (.ref rn), .val (.ref de), .val (.int (0 : Int32))] [])) (fun t kt => castTop (ef_rmA3 m o0 rn de) kt) ?_
  have vd1 := V_de.ext hO.2
  have S2 := S_de.ext hO.2
  refine own_thr (a := s₁.setTop (mkF m 2 #[.val (.ref o0), .val (.ref rn), .val (.ref de), .val (.int (0 : Int32))] [(.ref de), (.int (0 : Int32))])) (fun t kt => ?_) ?_
  · show Steps p.tables e below (s₁.setTop (mkF m 0 #[.val (.ref o0), .val (.ref rn), .val (.ref de), .val (.int (0 : Int32))] [])) _
    refine XS.iloadN X0.here hx rfl (hb hby d10_0) rfl ?_
    refine XS.aloadN X0.here hx rfl (hb hby d10_1) rfl rfl ?_
    exact kt
  obtain ⟨cl3, Ar3, -, S3, M3, -, -⟩ := id vd1
  refine own_thr (a := s₁.setTop (mkF m 7 #[.val (.ref o0), .val (.ref rn), .val (.ref de), .val (.int (0 : Int32))] [(.ref o0)])) (fun t kt => ?_) ?_
  · show Steps p.tables e below (s₁.setTop (mkF m 2 #[.val (.ref o0), .val (.ref rn), .val (.ref de), .val (.int (0 : Int32))] [(.ref de), (.int (0 : Int32))])) _
    refine X0.arraylength hx (by rw [e0]; exact Ar3.1) (State.isArrayOf_alike hZ.alike Ar3.2.1) (g := (mkF m 2 #[.val (.ref o0), .val (.ref rn), .val (.ref de), .val (.int (0 : Int32))] [(.ref de), (.int (0 : Int32))])) rfl rfl (hb hby d10_2) _ ?_
    rw [len_of S3 M3]
    refine XS.icmpNo X0.here hx rfl (hb hby d10_3) rfl (teq rfl).2 ?_
    refine XS.aloadN X0.here hx rfl (hb hby d10_6) rfl rfl ?_
    exact kt
  obtain ⟨cq4, q4, q4'⟩ := E_o0.cell
  obtain ⟨_, _, ⟨T4, L4, k4, n4⟩, -, X4, ⟨Lc4, hQ4, l4, y4, z4⟩, st4⟩ := X0.privateBack hx (y := (⟨"java/util/ArrayList", "grow", "()[Ljava/lang/Object;"⟩ : MethodName)) hown (mvT hZ (hw _ (List.mem_of_getElem? (i := 71) rfl))) (mvT hZ (hw _ (List.mem_of_getElem? (i := 72) rfl))) (mvT hZ (hw _ (List.mem_of_getElem? (i := 74) rfl))) (Cond.privateMethod_at (mvP hZ (hw _ (List.mem_of_getElem? (i := 73) rfl)) (args := #[]))) (mvT hZ (hw _ (List.mem_of_getElem? (i := 75) rfl))) (by decide) (backOf (W := 0) (rmGR l Z a0 hw [] o0 de kd h0 n0 Z0 E_o0 F_mc F_ed F_sz S_de V_de hO g_o0) hZ (hw _ (List.mem_of_getElem? (i := 75) rfl)) (hw _ (List.mem_of_getElem? (i := 14) rfl)) (by decide) (by decide)) (g := (mkF m 7 #[.val (.ref o0), .val (.ref rn), .val (.ref de), .val (.int (0 : Int32))] [(.ref o0)])) rfl (by rw [hml]; rfl) (Steps.refl _) (a := o0) (by rw [e0]; exact q4) q4' (argsL := []) (rest := []) (lenOf pd__28_29_5bLjava_2flang_2fObject_3b rfl) rfl (by show 2 * 0 + _ ≤ _; exact Nat.le_of_eq rfl) (hb hby d10_7) (fun _ _ => ⟨rfl, e0, (by decide : 0 + 1 ≤ _), (by decide : 0 + 10 ≤ _)⟩)
  dsimp only [Pt.U, Pt.locs, Pt.cells, Pt.slots] at X4 l4 y4 z4 st4 hQ4
  obtain ⟨B4, ke4, rfl, N4q, K4, o4_e, o4_m, o4_d, o4_s, o4_a, o4_o, hB4⟩ := hQ4
  have ne_o0_B4 : o0 ≠ B4 := Nat.ne_of_lt (Nat.lt_of_lt_of_le E_o0.lt hB4)
  have ne_rn_B4 : rn ≠ B4 := Nat.ne_of_lt (Nat.lt_of_lt_of_le E_rn.lt hB4)
  have ne_de_B4 : de ≠ B4 := Nat.ne_of_lt (Nat.lt_of_lt_of_le vd1.lt hB4)
  have g_B4 : n0 ≤ B4 := Nat.le_trans Z0 hB4
  have sz_B4 : h0.size ≤ B4 := Nat.le_trans (Nat.le_refl h0.size) hB4
  have Z5 : n0 ≤ T4.heap.size := Nat.le_trans Z0 K4.1
  have Z5h : h0.size ≤ T4.heap.size := Nat.le_trans (Nat.le_refl h0.size) K4.1
  obtain ⟨lc4, X4, N4⟩ := own_pack X4 l4 y4 z4 N0 N4q (C := 1) (S' := 10) rfl rfl
  refine own_thr (a := T4.setTop (mkF m 10 #[.val (.ref o0), .val (.ref rn), .val (.ref de), .val (.int (0 : Int32))] [(.ref B4)])) (fun t kt => st4.trans kt) ?_
  refine own_thr (a := T4.setTop (mkF m 14 #[.val (.ref o0), .val (.ref rn), .val (.ref B4), .val (.int (0 : Int32))] [(.ref rn), (.int (0 : Int32)), (.ref B4)])) (fun t kt => ?_) ?_
  · show Steps p.tables e below (T4.setTop (mkF m 10 #[.val (.ref o0), .val (.ref rn), .val (.ref de), .val (.int (0 : Int32))] [(.ref B4)])) _
    refine XS.astoreN X4.here hx rfl (hb hby d10_10) rfl rfl (l' := #[.val (.ref o0), .val (.ref rn), .val (.ref B4), .val (.int (0 : Int32))]) rfl ?_
    refine XS.aloadN X4.here hx rfl (hb hby d10_11) rfl rfl ?_
    refine XS.iloadN X4.here hx rfl (hb hby d10_12) rfl ?_
    refine XS.aloadN X4.here hx rfl (hb hby d10_13) rfl rfl ?_
    exact kt
  obtain ⟨cl6, Ar6, q6, S6, M6, H6, G6⟩ := id o4_a
  have hin6 : ¬ ((0 : Int32) < 0 ∨ cl6.slots.size ≤ ((0 : Int32)).toNatClampNeg) := inb_of S6 ⟨by decide, by decide⟩
  obtain ⟨T6, h6, X6, e6, W6, st6⟩ := stR X4 hx hZ rfl Ar6 (j := (0 : Int32)) hin6 rfl (Sto.ofV Ar6 q6 o4_o (Ins.of_exa (E_rn.keep K4) (hw _ (List.mem_of_getElem? (i := 87) rfl)))) (g := (mkF m 14 #[.val (.ref o0), .val (.ref rn), .val (.ref B4), .val (.int (0 : Int32))] [(.ref rn), (.int (0 : Int32)), (.ref B4)])) rfl rfl (hb hby d10_14)
  have Z7 : n0 ≤ h6.size := Nat.le_trans Z5 (Nat.le_of_eq W6.size.symm)
  have Z7h : h0.size ≤ h6.size := Nat.le_trans Z5h (Nat.le_of_eq W6.size.symm)
  have V6 : Arv Z h6 B4 ke4 (.object "java/lang/Object") (10 : Int32) [(.ref rn), .null, .null, .null, .null, .null, .null, .null, .null, .null] .null := Arv.set Ar6 q6 S6 M6 H6 G6 rfl W6 0 rfl (Nat.le_of_ble_eq_true rfl)
  obtain ⟨lc6, X6, N6⟩ := own_pack1 X6 N4 g_B4
  refine own_thr (a := T6.setTop (mkF m 15 #[.val (.ref o0), .val (.ref rn), .val (.ref B4), .val (.int (0 : Int32))] [])) (fun t kt => st6 t kt) ?_
  refine own_thr (a := T6.setTop (mkF m 19 #[.val (.ref o0), .val (.ref rn), .val (.ref B4), .val (.int (0 : Int32))] [(.int (1 : Int32)), (.ref o0)])) (fun t kt => ?_) ?_
  · show Steps p.tables e below (T6.setTop (mkF m 15 #[.val (.ref o0), .val (.ref rn), .val (.ref B4), .val (.int (0 : Int32))] [])) _
    refine XS.aloadN X6.here hx rfl (hb hby d10_15) rfl rfl ?_
    refine XS.iloadN X6.here hx rfl (hb hby d10_16) rfl ?_
    refine XS.iconst X6.here hx rfl (hb hby d10_17) ?_
    refine XS.iadd X6.here hx rfl (hb hby d10_18) rfl ?_
    exact kt
  obtain ⟨T8, h8, X8, e8, W8, st8⟩ := putF X6 hx hZ hown (host := "") (Or.inl (hw _ (List.mem_of_getElem? (i := 54) rfl))) Via.refl e6 (o4_s.other W6 (Or.inl ne_o0_B4)) (o4_e.wr W6) (Or.inl (hw _ (List.mem_of_getElem? (i := 55) rfl))) (hw _ (List.mem_of_getElem? (i := 13) rfl)) (ty := .int) (by decide) rfl rfl (g := (mkF m 19 #[.val (.ref o0), .val (.ref rn), .val (.ref B4), .val (.int (0 : Int32))] [(.int (1 : Int32)), (.ref o0)])) rfl rfl (hb hby d10_19)
  have Fw8 := (o4_s.other W6 (Or.inl ne_o0_B4)).same W8
  have Z9 : n0 ≤ h8.size := Nat.le_trans Z7 (Nat.le_of_eq W8.size.symm)
  have Z9h : h0.size ≤ h8.size := Nat.le_trans Z7h (Nat.le_of_eq W8.size.symm)
  obtain ⟨lc8, X8, N8⟩ := own_pack1 X8 N6 g_o0
  refine own_thr (a := T8.setTop (mkF m 22 #[.val (.ref o0), .val (.ref rn), .val (.ref B4), .val (.int (0 : Int32))] [])) (fun t kt => st8 t kt) ?_
  have c10 := ((o4_m.other W6 (Or.inl ne_o0_B4)).other W8 (Or.inr (slot_ne (Or.inl (hw _ (List.mem_of_getElem? (i := 34) rfl))) (Or.inl (hw _ (List.mem_of_getElem? (i := 55) rfl))) (by decide) (t := .int) (t' := .int) (by decide) (by decide))))
  have c11 := ((o4_d.other W6 (Or.inl ne_o0_B4)).other W8 (Or.inr (slot_ne (Or.inl (hw _ (List.mem_of_getElem? (i := 37) rfl))) (Or.inl (hw _ (List.mem_of_getElem? (i := 55) rfl))) (by decide) (t := (.array (.object "java/lang/Object"))) (t' := .int) (by decide) (by decide))))
  exact own_end X8 hlk (v := none) (fun _ => rfl) (fun fs hr => X8.returnOut hx Bd.returns (hb hby d10_22) hr) (by rw [e8]; exact ⟨B4, ke4, rfl, N8, ((((Keep.refl h0 [o0]).trans K4 (allS (Or.inl (List.mem_of_getElem? (i := 0) rfl)) all0)).wr W6 (Or.inr sz_B4)).wr W8 (Or.inl (List.mem_of_getElem? (i := 0) rfl))), ((o4_e.wr W6).wr W8), c10, c11, Fw8, (V6.other W8 (Ne.symm ne_o0_B4)), o4_o, sz_B4⟩) (by decide : 1 ≤ _) (by decide : 10 ≤ _)
theorem d9_0 : decode jdk_38_method_25_code 0 = .ok (.aload_n 0, 1) := by decide +kernel
theorem d9_1 : decode jdk_38_method_25_code 1 = .ok (.dup, 1) := by decide +kernel
theorem d9_2 : decode jdk_38_method_25_code 2 = .ok (.getfield 63, 3) := by decide +kernel
theorem d9_5 : decode jdk_38_method_25_code 5 = .ok (.iconst 1, 1) := by decide +kernel
theorem d9_6 : decode jdk_38_method_25_code 6 = .ok (.iadd, 1) := by decide +kernel
theorem d9_7 : decode jdk_38_method_25_code 7 = .ok (.putfield 63, 3) := by decide +kernel
theorem d9_10 : decode jdk_38_method_25_code 10 = .ok (.aload_n 0, 1) := by decide +kernel
theorem d9_11 : decode jdk_38_method_25_code 11 = .ok (.aload_n 1, 1) := by decide +kernel
theorem d9_12 : decode jdk_38_method_25_code 12 = .ok (.aload_n 0, 1) := by decide +kernel
theorem d9_13 : decode jdk_38_method_25_code 13 = .ok (.getfield 9, 3) := by decide +kernel
theorem d9_16 : decode jdk_38_method_25_code 16 = .ok (.aload_n 0, 1) := by decide +kernel
theorem d9_17 : decode jdk_38_method_25_code 17 = .ok (.getfield 48, 3) := by decide +kernel
theorem pd__28Ljava_2flang_2fObject_3b_5bLjava_2flang_2fObject_3bI_29V : parseMethodDescriptor "(Ljava/lang/Object;[Ljava/lang/Object;I)V" = some ⟨[(.object "java/lang/Object"), (.array (.object "java/lang/Object")), .int], none⟩ := by decide +kernel
theorem d9_20 : decode jdk_38_method_25_code 20 = .ok (.invokevirtual 131, 3) := by decide +kernel
theorem d9_23 : decode jdk_38_method_25_code 23 = .ok (.iconst 1, 1) := by decide +kernel
theorem d9_24 : decode jdk_38_method_25_code 24 = .ok (.ireturn, 1) := by decide +kernel
theorem ef_rmA1 (m : MethodId) (o0 : Addr) (rn : Addr)  : entryFrame m #[(.ref o0), (.ref rn)] 2 = mkF m 0 #[.val (.ref o0), .val (.ref rn)] [] := by first |  (simp [entryFrame, mkF, argsToLocals, Value.category]; done) | rfl
def Q_rmA1 (Z : State) (o0 : Addr) (rn : Addr) (de : Addr) (kd : ClassId) (h0 : Heap) (n0 : Nat) (v : Option Value) (h : Heap) (L : List Loc) : Prop := ∃ (b : Addr) (ke : ClassId), v = some (.int (1 : Int32)) ∧ Fr n0 L ∧ Keep h0 h [o0] ∧ Exa Z h o0 "java/util/ArrayList" ∧ Fld Z h o0 "java/util/AbstractList" "modCount" "I" (.int (1 : Int32)) ∧ Fld Z h o0 "java/util/ArrayList" "elementData" "[Ljava/lang/Object;" (.ref b) ∧ Fld Z h o0 "java/util/ArrayList" "size" "I" (.int (1 : Int32)) ∧ Arv Z h b ke (.object "java/lang/Object") (10 : Int32) [(.ref rn), .null, .null, .null, .null, .null, .null, .null, .null, .null] .null ∧ Ovr Z ke "java/lang/Object" ∧ h0.size ≤ b
set_option maxRecDepth 65536 in
set_option maxHeartbeats 40000000 in
theorem rmA1 (l : Launch) (Z : State) (a0 : Array Value) (hw : ∀ d ∈ tables_1, d.before a0 Z = true) (ws : List Jvm.Cond) (o0 : Addr) (rn : Addr) (de : Addr) (kd : ClassId) (h0 : Heap) (n0 : Nat) (Z0 : n0 ≤ h0.size) (E_o0 : Exa Z h0 o0 "java/util/ArrayList") (F_mc : Fld Z h0 o0 "java/util/AbstractList" "modCount" "I" (.int (0 : Int32))) (F_ed : Fld Z h0 o0 "java/util/ArrayList" "elementData" "[Ljava/lang/Object;" (.ref de)) (F_sz : Fld Z h0 o0 "java/util/ArrayList" "size" "I" (.int (0 : Int32))) (S_de : Sta Z Z.heap "java/util/ArrayList" "DEFAULTCAPACITY_EMPTY_ELEMENTDATA" "[Ljava/lang/Object;" (.ref de)) (V_de : Arv Z Z.heap de kd (.object "java/lang/Object") (0 : Int32) [] .null) (hO : Old Z n0 h0) (g_o0 : n0 ≤ o0) (E_rn : Exa Z h0 rn "java/lang/String") :
    MetFree l (⟨"java/util/ArrayList", "add", "(Ljava/lang/Object;)Z"⟩ : MethodName) (head1 (Jvm.Cond.code (⟨"java/util/ArrayList", "add", "(Ljava/lang/Object;)Z"⟩ : MethodName) jdk_38_method_25_code 2 (some .boolean) :: ws) ({ frames := 4, cells := 1, slots := 10, locals := 56 } : Room)) (fun a U => a = #[(.ref o0), (.ref rn)] ∧ Z.Warmed39 U.vm ∧ U.heap = h0) (fun _ _ _ _ _ => True) (fun _ U o U' => ∃ v L, o = .returned v ∧ Q_rmA1 Z o0 rn de kd h0 n0 v U'.heap L ∧ FrameEnd U o U' L ({ frames := 4, cells := 1, slots := 10, locals := 56 } : Room).cells ({ frames := 4, cells := 1, slots := 10, locals := 56 } : Room).slots) := by
  refine MetFree.of_bodySF (plainFor_of_name pn_java_util_ArrayList) hisR ?_
  intro p e s m args below meth c s₁ Bd hml0 hP hK
  obtain ⟨rfl, hZ, hh⟩ := hP
  have hx := Bd.exec
  have hby := Bd.bytes
  have hml : c.maxLocals = 2 := hml0
  have hown : s.vm.findClass "java/util/ArrayList" = some m.cls := findClass_of_methodNamed Bd.named
  have hnm := (name_of_methodNamed Bd.named Bd.method).1
  have hlk := Bd.notSynchronized
  have X0 : Stand p l e ({ frames := 4, cells := 1, slots := 10, locals := 56 } : Room) s m #[(.ref o0), (.ref rn)] below meth c s₁ [] 0 0 := Stand.of_body Bd
  have e0 : s₁.heap = h0 := by rw [← hh, Bd.state]; rfl
  have N0 := Fr.nil n0
  show own_G p.tables e below s (Q_rmA1 Z o0 rn de kd h0 n0) ({ frames := 4, cells := 1, slots := 10, locals := 56 } : Room).cells ({ frames := 4, cells := 1, slots := 10, locals := 56 } : Room).slots _
  refine own_thr (a := s₁.setTop (mkF m 0 #[.val (.ref o0), .val (.ref rn)] [])) (fun t kt => castTop (ef_rmA1 m o0 rn) kt) ?_
  refine own_thr (a := s₁.setTop (mkF m 2 #[.val (.ref o0), .val (.ref rn)] [(.ref o0), (.ref o0)])) (fun t kt => ?_) ?_
  · show Steps p.tables e below (s₁.setTop (mkF m 0 #[.val (.ref o0), .val (.ref rn)] [])) _
    refine XS.aloadN X0.here hx rfl (hb hby d9_0) rfl rfl ?_
    refine XS.dup X0.here hx rfl (hb hby d9_1) rfl rfl ?_
    exact kt
  obtain ⟨T1, X1, e1, st1⟩ := getF X0 hx hZ hown (host := "") (Or.inl (hw _ (List.mem_of_getElem? (i := 64) rfl))) (Via.of (hw _ (List.mem_of_getElem? (i := 65) rfl))) e0 F_mc (g := (mkF m 2 #[.val (.ref o0), .val (.ref rn)] [(.ref o0), (.ref o0)])) rfl rfl (hb hby d9_2)
  refine own_thr (a := T1.setTop (mkF m 5 #[.val (.ref o0), .val (.ref rn)] [(.int (0 : Int32)), (.ref o0)])) (fun t kt => st1 t kt) ?_
  refine own_thr (a := T1.setTop (mkF m 7 #[.val (.ref o0), .val (.ref rn)] [(.int (1 : Int32)), (.ref o0)])) (fun t kt => ?_) ?_
  · show Steps p.tables e below (T1.setTop (mkF m 5 #[.val (.ref o0), .val (.ref rn)] [(.int (0 : Int32)), (.ref o0)])) _
    refine XS.iconst X1.here hx rfl (hb hby d9_5) ?_
    refine XS.iadd X1.here hx rfl (hb hby d9_6) rfl ?_
    exact kt
  obtain ⟨T2, h2, X2, e2, W2, st2⟩ := putF X1 hx hZ hown (host := "") (Or.inl (hw _ (List.mem_of_getElem? (i := 64) rfl))) (Via.of (hw _ (List.mem_of_getElem? (i := 65) rfl))) e1 F_mc E_o0 (Or.inl (hw _ (List.mem_of_getElem? (i := 34) rfl))) (hw _ (List.mem_of_getElem? (i := 13) rfl)) (ty := .int) (by decide) rfl rfl (g := (mkF m 7 #[.val (.ref o0), .val (.ref rn)] [(.int (1 : Int32)), (.ref o0)])) rfl rfl (hb hby d9_7)
  have Fw2 := F_mc.same W2
  have Z3 : n0 ≤ h2.size := Nat.le_trans Z0 (Nat.le_of_eq W2.size.symm)
  have Z3h : h0.size ≤ h2.size := Nat.le_trans (Nat.le_refl h0.size) (Nat.le_of_eq W2.size.symm)
  obtain ⟨lc2, X2, N2⟩ := own_pack1 X2 N0 g_o0
  refine own_thr (a := T2.setTop (mkF m 10 #[.val (.ref o0), .val (.ref rn)] [])) (fun t kt => st2 t kt) ?_
  refine own_thr (a := T2.setTop (mkF m 13 #[.val (.ref o0), .val (.ref rn)] [(.ref o0), (.ref rn), (.ref o0)])) (fun t kt => ?_) ?_
  · show Steps p.tables e below (T2.setTop (mkF m 10 #[.val (.ref o0), .val (.ref rn)] [])) _
    refine XS.aloadN X2.here hx rfl (hb hby d9_10) rfl rfl ?_
    refine XS.aloadN X2.here hx rfl (hb hby d9_11) rfl rfl ?_
    refine XS.aloadN X2.here hx rfl (hb hby d9_12) rfl rfl ?_
    exact kt
  have c4 := (F_ed.other W2 (Or.inr (slot_ne (Or.inl (hw _ (List.mem_of_getElem? (i := 37) rfl))) (Or.inl (hw _ (List.mem_of_getElem? (i := 34) rfl))) (by decide) (t := (.array (.object "java/lang/Object"))) (t' := .int) (by decide) (by decide))))
  obtain ⟨T5, X5, e5, st5⟩ := getF X2 hx hZ hown (host := "") (Or.inl (hw _ (List.mem_of_getElem? (i := 36) rfl))) Via.refl e2 c4 (g := (mkF m 13 #[.val (.ref o0), .val (.ref rn)] [(.ref o0), (.ref rn), (.ref o0)])) rfl rfl (hb hby d9_13)
  refine own_thr (a := T5.setTop (mkF m 16 #[.val (.ref o0), .val (.ref rn)] [(.ref de), (.ref rn), (.ref o0)])) (fun t kt => st5 t kt) ?_
  refine own_thr (a := T5.setTop (mkF m 17 #[.val (.ref o0), .val (.ref rn)] [(.ref o0), (.ref de), (.ref rn), (.ref o0)])) (fun t kt => ?_) ?_
  · show Steps p.tables e below (T5.setTop (mkF m 16 #[.val (.ref o0), .val (.ref rn)] [(.ref de), (.ref rn), (.ref o0)])) _
    refine XS.aloadN X5.here hx rfl (hb hby d9_16) rfl rfl ?_
    exact kt
  have c6 := (F_sz.other W2 (Or.inr (slot_ne (Or.inl (hw _ (List.mem_of_getElem? (i := 55) rfl))) (Or.inl (hw _ (List.mem_of_getElem? (i := 34) rfl))) (by decide) (t := .int) (t' := .int) (by decide) (by decide))))
  obtain ⟨T7, X7, e7, st7⟩ := getF X5 hx hZ hown (host := "") (Or.inl (hw _ (List.mem_of_getElem? (i := 54) rfl))) Via.refl e5 c6 (g := (mkF m 17 #[.val (.ref o0), .val (.ref rn)] [(.ref o0), (.ref de), (.ref rn), (.ref o0)])) rfl rfl (hb hby d9_17)
  refine own_thr (a := T7.setTop (mkF m 20 #[.val (.ref o0), .val (.ref rn)] [(.int (0 : Int32)), (.ref de), (.ref rn), (.ref o0)])) (fun t kt => st7 t kt) ?_
  obtain ⟨cq8, q8, q8'⟩ := (E_o0.wr W2).cell
  obtain ⟨_, _, ⟨T8, L8, k8, n8⟩, -, X8, ⟨Lc8, hQ8, l8, y8, z8⟩, st8⟩ := X7.privateBack hx (y := (⟨"java/util/ArrayList", "add", "(Ljava/lang/Object;[Ljava/lang/Object;I)V"⟩ : MethodName)) hown (mvT hZ (hw _ (List.mem_of_getElem? (i := 66) rfl))) (mvT hZ (hw _ (List.mem_of_getElem? (i := 67) rfl))) (mvT hZ (hw _ (List.mem_of_getElem? (i := 69) rfl))) (Cond.privateMethod_at (mvP hZ (hw _ (List.mem_of_getElem? (i := 68) rfl)) (args := #[]))) (mvT hZ (hw _ (List.mem_of_getElem? (i := 70) rfl))) (by decide) (backOf (W := 0) (rmA3 l Z a0 hw [] o0 rn de kd h2 n0 Z3 (E_o0.wr W2) Fw2 c4 c6 S_de V_de (hO.wr W2 g_o0) g_o0 (E_rn.wr W2)) hZ (hw _ (List.mem_of_getElem? (i := 70) rfl)) (hw _ (List.mem_of_getElem? (i := 14) rfl)) (by decide) (by decide)) (g := (mkF m 20 #[.val (.ref o0), .val (.ref rn)] [(.int (0 : Int32)), (.ref de), (.ref rn), (.ref o0)])) rfl (by rw [hml]; rfl) (Steps.refl _) (a := o0) (by rw [e7]; exact q8) q8' (argsL := [(.ref rn), (.ref de), (.int (0 : Int32))]) (rest := []) (lenOf pd__28Ljava_2flang_2fObject_3b_5bLjava_2flang_2fObject_3bI_29V rfl) rfl (by show 2 * 0 + _ ≤ _; exact Nat.le_of_eq rfl) (hb hby d9_20) (fun _ _ => ⟨rfl, e7, (by decide : 0 + 1 ≤ _), (by decide : 0 + 10 ≤ _)⟩)
  dsimp only [Pt.U, Pt.locs, Pt.cells, Pt.slots] at X8 l8 y8 z8 st8 hQ8
  obtain ⟨B8, ke8, rfl, N8q, K8, o8_e, o8_m, o8_d, o8_s, o8_a, o8_o, hB8⟩ := hQ8
  have ne_o0_B8 : o0 ≠ B8 := Nat.ne_of_lt (Nat.lt_of_lt_of_le (E_o0.wr W2).lt hB8)
  have ne_rn_B8 : rn ≠ B8 := Nat.ne_of_lt (Nat.lt_of_lt_of_le (E_rn.wr W2).lt hB8)
  have g_B8 : n0 ≤ B8 := Nat.le_trans Z3 hB8
  have sz_B8 : h0.size ≤ B8 := Nat.le_trans Z3h hB8
  have Z9 : n0 ≤ T8.heap.size := Nat.le_trans Z3 K8.1
  have Z9h : h0.size ≤ T8.heap.size := Nat.le_trans Z3h K8.1
  obtain ⟨lc8, X8, N8⟩ := own_pack X8 l8 y8 z8 N2 N8q (C := 1) (S' := 10) rfl rfl
  refine own_thr (a := T8.setTop (mkF m 23 #[.val (.ref o0), .val (.ref rn)] [])) (fun t kt => st8.trans kt) ?_
  refine own_thr (a := T8.setTop (mkF m 24 #[.val (.ref o0), .val (.ref rn)] [(.int (1 : Int32))])) (fun t kt => ?_) ?_
  · show Steps p.tables e below (T8.setTop (mkF m 23 #[.val (.ref o0), .val (.ref rn)] [])) _
    refine XS.iconst X8.here hx rfl (hb hby d9_23) ?_
    exact kt
  exact own_end X8 hlk (v := some (.int (1 : Int32))) (fun h => by rw [Bd.returns] at h; cases h) (fun fs hr => retN X8 hx (t := .boolean) Bd.returns (by simp) (hb hby d9_24) hr) ⟨B8, ke8, rfl, N8, (((Keep.refl h0 [o0]).wr W2 (Or.inl (List.mem_of_getElem? (i := 0) rfl))).trans K8 (allS (Or.inl (List.mem_of_getElem? (i := 0) rfl)) all0)), o8_e, o8_m, o8_d, o8_s, o8_a, o8_o, sz_B8⟩ (by decide : 1 ≤ _) (by decide : 10 ≤ _)
theorem ef_rmB31 (m : MethodId) (o0 : Addr) (rn : Addr) (ea : Addr)  : entryFrame m #[(.ref o0), (.ref rn), (.ref ea), (.int (1 : Int32))] 4 = mkF m 0 #[.val (.ref o0), .val (.ref rn), .val (.ref ea), .val (.int (1 : Int32))] [] := by first |  (simp [entryFrame, mkF, argsToLocals, Value.category]; done) | rfl
def Q_rmB31 (Z : State) (o0 : Addr) (rn : Addr) (ea : Addr) (ke : ClassId) (r0 : Addr) (h0 : Heap) (n0 : Nat) (v : Option Value) (h : Heap) (L : List Loc) : Prop := v = none ∧ Fr n0 L ∧ Keep h0 h [o0, ea] ∧ Exa Z h o0 "java/util/ArrayList" ∧ Fld Z h o0 "java/util/AbstractList" "modCount" "I" (.int (2 : Int32)) ∧ Fld Z h o0 "java/util/ArrayList" "elementData" "[Ljava/lang/Object;" (.ref ea) ∧ Fld Z h o0 "java/util/ArrayList" "size" "I" (.int (2 : Int32)) ∧ Arv Z h ea ke (.object "java/lang/Object") (10 : Int32) [(.ref r0), (.ref rn), .null, .null, .null, .null, .null, .null, .null, .null] .null
set_option maxRecDepth 65536 in
set_option maxHeartbeats 40000000 in
theorem rmB31 (l : Launch) (Z : State) (a0 : Array Value) (hw : ∀ d ∈ tables_1, d.before a0 Z = true) (ws : List Jvm.Cond) (o0 : Addr) (rn : Addr) (ea : Addr) (ke : ClassId) (r0 : Addr) (h0 : Heap) (n0 : Nat) (Z0 : n0 ≤ h0.size) (E_o0 : Exa Z h0 o0 "java/util/ArrayList") (F_modCount_o0 : Fld Z h0 o0 "java/util/AbstractList" "modCount" "I" (.int (2 : Int32))) (F_elementData_o0 : Fld Z h0 o0 "java/util/ArrayList" "elementData" "[Ljava/lang/Object;" (.ref ea)) (F_size_o0 : Fld Z h0 o0 "java/util/ArrayList" "size" "I" (.int (1 : Int32))) (E_rn : Exa Z h0 rn "java/lang/String") (V_ea : Arv Z h0 ea ke (.object "java/lang/Object") (10 : Int32) [(.ref r0), .null, .null, .null, .null, .null, .null, .null, .null, .null] .null) (g_o0 : n0 ≤ o0) (g_ea : n0 ≤ ea) (ne_o0_ea : o0 ≠ ea) (hov : Ovr Z ke "java/lang/Object") :
    MetFree l (⟨"java/util/ArrayList", "add", "(Ljava/lang/Object;[Ljava/lang/Object;I)V"⟩ : MethodName) (head1 (Jvm.Cond.code (⟨"java/util/ArrayList", "add", "(Ljava/lang/Object;[Ljava/lang/Object;I)V"⟩ : MethodName) jdk_38_method_24_code 4 none :: ws) ({ frames := 0, cells := 0, slots := 0, locals := 0 } : Room)) (fun a U => a = #[(.ref o0), (.ref rn), (.ref ea), (.int (1 : Int32))] ∧ Z.Warmed39 U.vm ∧ U.heap = h0) (fun _ _ _ _ _ => True) (fun _ U o U' => ∃ v L, o = .returned v ∧ Q_rmB31 Z o0 rn ea ke r0 h0 n0 v U'.heap L ∧ FrameEnd U o U' L ({ frames := 0, cells := 0, slots := 0, locals := 0 } : Room).cells ({ frames := 0, cells := 0, slots := 0, locals := 0 } : Room).slots) := by
  refine MetFree.of_bodySF (plainFor_of_name pn_java_util_ArrayList) hisR ?_
  intro p e s m args below meth c s₁ Bd hml0 hP hK
  obtain ⟨rfl, hZ, hh⟩ := hP
  have hx := Bd.exec
  have hby := Bd.bytes
  have hml : c.maxLocals = 4 := hml0
  have hown : s.vm.findClass "java/util/ArrayList" = some m.cls := findClass_of_methodNamed Bd.named
  have hnm := (name_of_methodNamed Bd.named Bd.method).1
  have hlk := Bd.notSynchronized
  have X0 : Stand p l e ({ frames := 0, cells := 0, slots := 0, locals := 0 } : Room) s m #[(.ref o0), (.ref rn), (.ref ea), (.int (1 : Int32))] below meth c s₁ [] 0 0 := Stand.of_body Bd
  have e0 : s₁.heap = h0 := by rw [← hh, Bd.state]; rfl
  have N0 := Fr.nil n0
  show own_G p.tables e below s (Q_rmB31 Z o0 rn ea ke r0 h0 n0) ({ frames := 0, cells := 0, slots := 0, locals := 0 } : Room).cells ({ frames := 0, cells := 0, slots := 0, locals := 0 } : Room).slots _
  refine own_thr (a := s₁.setTop (mkF m 0 #[.val (.ref o0), .val (.ref rn), .val (.ref ea), .val (.int (1 : Int32))] [])) (fun t kt => castTop (ef_rmB31 m o0 rn ea) kt) ?_
  refine own_thr (a := s₁.setTop (mkF m 2 #[.val (.ref o0), .val (.ref rn), .val (.ref ea), .val (.int (1 : Int32))] [(.ref ea), (.int (1 : Int32))])) (fun t kt => ?_) ?_
  · show Steps p.tables e below (s₁.setTop (mkF m 0 #[.val (.ref o0), .val (.ref rn), .val (.ref ea), .val (.int (1 : Int32))] [])) _
    refine XS.iloadN X0.here hx rfl (hb hby d10_0) rfl ?_
    refine XS.aloadN X0.here hx rfl (hb hby d10_1) rfl rfl ?_
    exact kt
  obtain ⟨cl1, Ar1, -, S1, M1, -, -⟩ := id V_ea
  refine own_thr (a := s₁.setTop (mkF m 14 #[.val (.ref o0), .val (.ref rn), .val (.ref ea), .val (.int (1 : Int32))] [(.ref rn), (.int (1 : Int32)), (.ref ea)])) (fun t kt => ?_) ?_
  · show Steps p.tables e below (s₁.setTop (mkF m 2 #[.val (.ref o0), .val (.ref rn), .val (.ref ea), .val (.int (1 : Int32))] [(.ref ea), (.int (1 : Int32))])) _
    refine X0.arraylength hx (by rw [e0]; exact Ar1.1) (State.isArrayOf_alike hZ.alike Ar1.2.1) (g := (mkF m 2 #[.val (.ref o0), .val (.ref rn), .val (.ref ea), .val (.int (1 : Int32))] [(.ref ea), (.int (1 : Int32))])) rfl rfl (hb hby d10_2) _ ?_
    rw [len_of S1 M1]
    refine XS.icmpYes X0.here hx rfl (pc0 := 3) (pc' := 11) rfl (hb hby d10_3) rfl (feq (by decide)).2 (by decide) (by decide) ?_
    refine XS.aloadN X0.here hx rfl (hb hby d10_11) rfl rfl ?_
    refine XS.iloadN X0.here hx rfl (hb hby d10_12) rfl ?_
    refine XS.aloadN X0.here hx rfl (hb hby d10_13) rfl rfl ?_
    exact kt
  obtain ⟨cl2, Ar2, q2, S2, M2, H2, G2⟩ := id V_ea
  have hin2 : ¬ ((1 : Int32) < 0 ∨ cl2.slots.size ≤ ((1 : Int32)).toNatClampNeg) := inb_of S2 ⟨by decide, by decide⟩
  obtain ⟨T2, h2, X2, e2, W2, st2⟩ := stR X0 hx hZ e0 Ar2 (j := (1 : Int32)) hin2 rfl (Sto.ofV Ar2 q2 hov (Ins.of_exa E_rn (hw _ (List.mem_of_getElem? (i := 87) rfl)))) (g := (mkF m 14 #[.val (.ref o0), .val (.ref rn), .val (.ref ea), .val (.int (1 : Int32))] [(.ref rn), (.int (1 : Int32)), (.ref ea)])) rfl rfl (hb hby d10_14)
  have Z3 : n0 ≤ h2.size := Nat.le_trans Z0 (Nat.le_of_eq W2.size.symm)
  have Z3h : h0.size ≤ h2.size := Nat.le_trans (Nat.le_refl h0.size) (Nat.le_of_eq W2.size.symm)
  have V2 : Arv Z h2 ea ke (.object "java/lang/Object") (10 : Int32) [(.ref r0), (.ref rn), .null, .null, .null, .null, .null, .null, .null, .null] .null := Arv.set Ar2 q2 S2 M2 H2 G2 rfl W2 1 rfl (Nat.le_of_ble_eq_true rfl)
  obtain ⟨lc2, X2, N2⟩ := own_pack1 X2 N0 g_ea
  refine own_thr (a := T2.setTop (mkF m 15 #[.val (.ref o0), .val (.ref rn), .val (.ref ea), .val (.int (1 : Int32))] [])) (fun t kt => st2 t kt) ?_
  refine own_thr (a := T2.setTop (mkF m 19 #[.val (.ref o0), .val (.ref rn), .val (.ref ea), .val (.int (1 : Int32))] [(.int (2 : Int32)), (.ref o0)])) (fun t kt => ?_) ?_
  · show Steps p.tables e below (T2.setTop (mkF m 15 #[.val (.ref o0), .val (.ref rn), .val (.ref ea), .val (.int (1 : Int32))] [])) _
    refine XS.aloadN X2.here hx rfl (hb hby d10_15) rfl rfl ?_
    refine XS.iloadN X2.here hx rfl (hb hby d10_16) rfl ?_
    refine XS.iconst X2.here hx rfl (hb hby d10_17) ?_
    refine XS.iadd X2.here hx rfl (hb hby d10_18) rfl ?_
    exact kt
  obtain ⟨T4, h4, X4, e4, W4, st4⟩ := putF X2 hx hZ hown (host := "") (Or.inl (hw _ (List.mem_of_getElem? (i := 54) rfl))) Via.refl e2 (F_size_o0.other W2 (Or.inl ne_o0_ea)) (E_o0.wr W2) (Or.inl (hw _ (List.mem_of_getElem? (i := 55) rfl))) (hw _ (List.mem_of_getElem? (i := 13) rfl)) (ty := .int) (by decide) rfl rfl (g := (mkF m 19 #[.val (.ref o0), .val (.ref rn), .val (.ref ea), .val (.int (1 : Int32))] [(.int (2 : Int32)), (.ref o0)])) rfl rfl (hb hby d10_19)
  have Fw4 := (F_size_o0.other W2 (Or.inl ne_o0_ea)).same W4
  have Z5 : n0 ≤ h4.size := Nat.le_trans Z3 (Nat.le_of_eq W4.size.symm)
  have Z5h : h0.size ≤ h4.size := Nat.le_trans Z3h (Nat.le_of_eq W4.size.symm)
  obtain ⟨lc4, X4, N4⟩ := own_pack1 X4 N2 g_o0
  refine own_thr (a := T4.setTop (mkF m 22 #[.val (.ref o0), .val (.ref rn), .val (.ref ea), .val (.int (1 : Int32))] [])) (fun t kt => st4 t kt) ?_
  have c6 := ((F_modCount_o0.other W2 (Or.inl ne_o0_ea)).other W4 (Or.inr (slot_ne (Or.inl (hw _ (List.mem_of_getElem? (i := 34) rfl))) (Or.inl (hw _ (List.mem_of_getElem? (i := 55) rfl))) (by decide) (t := .int) (t' := .int) (by decide) (by decide))))
  have c7 := ((F_elementData_o0.other W2 (Or.inl ne_o0_ea)).other W4 (Or.inr (slot_ne (Or.inl (hw _ (List.mem_of_getElem? (i := 37) rfl))) (Or.inl (hw _ (List.mem_of_getElem? (i := 55) rfl))) (by decide) (t := (.array (.object "java/lang/Object"))) (t' := .int) (by decide) (by decide))))
  exact own_end X4 hlk (v := none) (fun _ => rfl) (fun fs hr => X4.returnOut hx Bd.returns (hb hby d10_22) hr) (by rw [e4]; exact ⟨rfl, N4, (((Keep.refl h0 [o0, ea]).wr W2 (Or.inl (List.mem_of_getElem? (i := 1) rfl))).wr W4 (Or.inl (List.mem_of_getElem? (i := 0) rfl))), ((E_o0.wr W2).wr W4), c6, c7, Fw4, (V2.other W4 (Ne.symm ne_o0_ea))⟩) (by decide : 0 ≤ _) (by decide : 0 ≤ _)
theorem ef_rmB11 (m : MethodId) (o0 : Addr) (rn : Addr)  : entryFrame m #[(.ref o0), (.ref rn)] 2 = mkF m 0 #[.val (.ref o0), .val (.ref rn)] [] := by first |  (simp [entryFrame, mkF, argsToLocals, Value.category]; done) | rfl
def Q_rmB11 (Z : State) (o0 : Addr) (rn : Addr) (ea : Addr) (ke : ClassId) (r0 : Addr) (h0 : Heap) (n0 : Nat) (v : Option Value) (h : Heap) (L : List Loc) : Prop := v = some (.int (1 : Int32)) ∧ Fr n0 L ∧ Keep h0 h [o0, ea] ∧ Exa Z h o0 "java/util/ArrayList" ∧ Fld Z h o0 "java/util/AbstractList" "modCount" "I" (.int (2 : Int32)) ∧ Fld Z h o0 "java/util/ArrayList" "elementData" "[Ljava/lang/Object;" (.ref ea) ∧ Fld Z h o0 "java/util/ArrayList" "size" "I" (.int (2 : Int32)) ∧ Arv Z h ea ke (.object "java/lang/Object") (10 : Int32) [(.ref r0), (.ref rn), .null, .null, .null, .null, .null, .null, .null, .null] .null
set_option maxRecDepth 65536 in
set_option maxHeartbeats 40000000 in
theorem rmB11 (l : Launch) (Z : State) (a0 : Array Value) (hw : ∀ d ∈ tables_1, d.before a0 Z = true) (ws : List Jvm.Cond) (o0 : Addr) (rn : Addr) (ea : Addr) (ke : ClassId) (r0 : Addr) (h0 : Heap) (n0 : Nat) (Z0 : n0 ≤ h0.size) (E_o0 : Exa Z h0 o0 "java/util/ArrayList") (F_modCount_o0 : Fld Z h0 o0 "java/util/AbstractList" "modCount" "I" (.int (1 : Int32))) (F_elementData_o0 : Fld Z h0 o0 "java/util/ArrayList" "elementData" "[Ljava/lang/Object;" (.ref ea)) (F_size_o0 : Fld Z h0 o0 "java/util/ArrayList" "size" "I" (.int (1 : Int32))) (E_rn : Exa Z h0 rn "java/lang/String") (V_ea : Arv Z h0 ea ke (.object "java/lang/Object") (10 : Int32) [(.ref r0), .null, .null, .null, .null, .null, .null, .null, .null, .null] .null) (g_o0 : n0 ≤ o0) (g_ea : n0 ≤ ea) (ne_o0_ea : o0 ≠ ea) (hov : Ovr Z ke "java/lang/Object") :
    MetFree l (⟨"java/util/ArrayList", "add", "(Ljava/lang/Object;)Z"⟩ : MethodName) (head1 (Jvm.Cond.code (⟨"java/util/ArrayList", "add", "(Ljava/lang/Object;)Z"⟩ : MethodName) jdk_38_method_25_code 2 (some .boolean) :: ws) ({ frames := 1, cells := 0, slots := 0, locals := 15 } : Room)) (fun a U => a = #[(.ref o0), (.ref rn)] ∧ Z.Warmed39 U.vm ∧ U.heap = h0) (fun _ _ _ _ _ => True) (fun _ U o U' => ∃ v L, o = .returned v ∧ Q_rmB11 Z o0 rn ea ke r0 h0 n0 v U'.heap L ∧ FrameEnd U o U' L ({ frames := 1, cells := 0, slots := 0, locals := 15 } : Room).cells ({ frames := 1, cells := 0, slots := 0, locals := 15 } : Room).slots) := by
  refine MetFree.of_bodySF (plainFor_of_name pn_java_util_ArrayList) hisR ?_
  intro p e s m args below meth c s₁ Bd hml0 hP hK
  obtain ⟨rfl, hZ, hh⟩ := hP
  have hx := Bd.exec
  have hby := Bd.bytes
  have hml : c.maxLocals = 2 := hml0
  have hown : s.vm.findClass "java/util/ArrayList" = some m.cls := findClass_of_methodNamed Bd.named
  have hnm := (name_of_methodNamed Bd.named Bd.method).1
  have hlk := Bd.notSynchronized
  have X0 : Stand p l e ({ frames := 1, cells := 0, slots := 0, locals := 15 } : Room) s m #[(.ref o0), (.ref rn)] below meth c s₁ [] 0 0 := Stand.of_body Bd
  have e0 : s₁.heap = h0 := by rw [← hh, Bd.state]; rfl
  have N0 := Fr.nil n0
  show own_G p.tables e below s (Q_rmB11 Z o0 rn ea ke r0 h0 n0) ({ frames := 1, cells := 0, slots := 0, locals := 15 } : Room).cells ({ frames := 1, cells := 0, slots := 0, locals := 15 } : Room).slots _
  refine own_thr (a := s₁.setTop (mkF m 0 #[.val (.ref o0), .val (.ref rn)] [])) (fun t kt => castTop (ef_rmB11 m o0 rn) kt) ?_
  refine own_thr (a := s₁.setTop (mkF m 2 #[.val (.ref o0), .val (.ref rn)] [(.ref o0), (.ref o0)])) (fun t kt => ?_) ?_
  · show Steps p.tables e below (s₁.setTop (mkF m 0 #[.val (.ref o0), .val (.ref rn)] [])) _
    refine XS.aloadN X0.here hx rfl (hb hby d9_0) rfl rfl ?_
    refine XS.dup X0.here hx rfl (hb hby d9_1) rfl rfl ?_
    exact kt
  obtain ⟨T1, X1, e1, st1⟩ := getF X0 hx hZ hown (host := "") (Or.inl (hw _ (List.mem_of_getElem? (i := 64) rfl))) (Via.of (hw _ (List.mem_of_getElem? (i := 65) rfl))) e0 F_modCount_o0 (g := (mkF m 2 #[.val (.ref o0), .val (.ref rn)] [(.ref o0), (.ref o0)])) rfl rfl (hb hby d9_2)
  refine own_thr (a := T1.setTop (mkF m 5 #[.val (.ref o0), .val (.ref rn)] [(.int (1 : Int32)), (.ref o0)])) (fun t kt => st1 t kt) ?_
  refine own_thr (a := T1.setTop (mkF m 7 #[.val (.ref o0), .val (.ref rn)] [(.int (2 : Int32)), (.ref o0)])) (fun t kt => ?_) ?_
  · show Steps p.tables e below (T1.setTop (mkF m 5 #[.val (.ref o0), .val (.ref rn)] [(.int (1 : Int32)), (.ref o0)])) _
    refine XS.iconst X1.here hx rfl (hb hby d9_5) ?_
    refine XS.iadd X1.here hx rfl (hb hby d9_6) rfl ?_
    exact kt
  obtain ⟨T2, h2, X2, e2, W2, st2⟩ := putF X1 hx hZ hown (host := "") (Or.inl (hw _ (List.mem_of_getElem? (i := 64) rfl))) (Via.of (hw _ (List.mem_of_getElem? (i := 65) rfl))) e1 F_modCount_o0 E_o0 (Or.inl (hw _ (List.mem_of_getElem? (i := 34) rfl))) (hw _ (List.mem_of_getElem? (i := 13) rfl)) (ty := .int) (by decide) rfl rfl (g := (mkF m 7 #[.val (.ref o0), .val (.ref rn)] [(.int (2 : Int32)), (.ref o0)])) rfl rfl (hb hby d9_7)
  have Fw2 := F_modCount_o0.same W2
  have Z3 : n0 ≤ h2.size := Nat.le_trans Z0 (Nat.le_of_eq W2.size.symm)
  have Z3h : h0.size ≤ h2.size := Nat.le_trans (Nat.le_refl h0.size) (Nat.le_of_eq W2.size.symm)
  obtain ⟨lc2, X2, N2⟩ := own_pack1 X2 N0 g_o0
  refine own_thr (a := T2.setTop (mkF m 10 #[.val (.ref o0), .val (.ref rn)] [])) (fun t kt => st2 t kt) ?_
  refine own_thr (a := T2.setTop (mkF m 13 #[.val (.ref o0), .val (.ref rn)] [(.ref o0), (.ref rn), (.ref o0)])) (fun t kt => ?_) ?_
  · show Steps p.tables e below (T2.setTop (mkF m 10 #[.val (.ref o0), .val (.ref rn)] [])) _
    refine XS.aloadN X2.here hx rfl (hb hby d9_10) rfl rfl ?_
    refine XS.aloadN X2.here hx rfl (hb hby d9_11) rfl rfl ?_
    refine XS.aloadN X2.here hx rfl (hb hby d9_12) rfl rfl ?_
    exact kt
  have c4 := (F_elementData_o0.other W2 (Or.inr (slot_ne (Or.inl (hw _ (List.mem_of_getElem? (i := 37) rfl))) (Or.inl (hw _ (List.mem_of_getElem? (i := 34) rfl))) (by decide) (t := (.array (.object "java/lang/Object"))) (t' := .int) (by decide) (by decide))))
  obtain ⟨T5, X5, e5, st5⟩ := getF X2 hx hZ hown (host := "") (Or.inl (hw _ (List.mem_of_getElem? (i := 36) rfl))) Via.refl e2 c4 (g := (mkF m 13 #[.val (.ref o0), .val (.ref rn)] [(.ref o0), (.ref rn), (.ref o0)])) rfl rfl (hb hby d9_13)
  refine own_thr (a := T5.setTop (mkF m 16 #[.val (.ref o0), .val (.ref rn)] [(.ref ea), (.ref rn), (.ref o0)])) (fun t kt => st5 t kt) ?_
  refine own_thr (a := T5.setTop (mkF m 17 #[.val (.ref o0), .val (.ref rn)] [(.ref o0), (.ref ea), (.ref rn), (.ref o0)])) (fun t kt => ?_) ?_
  · show Steps p.tables e below (T5.setTop (mkF m 16 #[.val (.ref o0), .val (.ref rn)] [(.ref ea), (.ref rn), (.ref o0)])) _
    refine XS.aloadN X5.here hx rfl (hb hby d9_16) rfl rfl ?_
    exact kt
  have c6 := (F_size_o0.other W2 (Or.inr (slot_ne (Or.inl (hw _ (List.mem_of_getElem? (i := 55) rfl))) (Or.inl (hw _ (List.mem_of_getElem? (i := 34) rfl))) (by decide) (t := .int) (t' := .int) (by decide) (by decide))))
  obtain ⟨T7, X7, e7, st7⟩ := getF X5 hx hZ hown (host := "") (Or.inl (hw _ (List.mem_of_getElem? (i := 54) rfl))) Via.refl e5 c6 (g := (mkF m 17 #[.val (.ref o0), .val (.ref rn)] [(.ref o0), (.ref ea), (.ref rn), (.ref o0)])) rfl rfl (hb hby d9_17)
  refine own_thr (a := T7.setTop (mkF m 20 #[.val (.ref o0), .val (.ref rn)] [(.int (1 : Int32)), (.ref ea), (.ref rn), (.ref o0)])) (fun t kt => st7 t kt) ?_
  obtain ⟨cq8, q8, q8'⟩ := (E_o0.wr W2).cell
  obtain ⟨_, _, ⟨T8, L8, k8, n8⟩, -, X8, ⟨Lc8, hQ8, l8, y8, z8⟩, st8⟩ := X7.privateBack hx (y := (⟨"java/util/ArrayList", "add", "(Ljava/lang/Object;[Ljava/lang/Object;I)V"⟩ : MethodName)) hown (mvT hZ (hw _ (List.mem_of_getElem? (i := 66) rfl))) (mvT hZ (hw _ (List.mem_of_getElem? (i := 67) rfl))) (mvT hZ (hw _ (List.mem_of_getElem? (i := 69) rfl))) (Cond.privateMethod_at (mvP hZ (hw _ (List.mem_of_getElem? (i := 68) rfl)) (args := #[]))) (mvT hZ (hw _ (List.mem_of_getElem? (i := 70) rfl))) (by decide) (backOf (W := 0) (rmB31 l Z a0 hw [] o0 rn ea ke r0 h2 n0 Z3 (E_o0.wr W2) Fw2 c4 c6 (E_rn.wr W2) (V_ea.other W2 (Ne.symm ne_o0_ea)) g_o0 g_ea ne_o0_ea hov) hZ (hw _ (List.mem_of_getElem? (i := 70) rfl)) (hw _ (List.mem_of_getElem? (i := 14) rfl)) (by decide) (by decide)) (g := (mkF m 20 #[.val (.ref o0), .val (.ref rn)] [(.int (1 : Int32)), (.ref ea), (.ref rn), (.ref o0)])) rfl (by rw [hml]; rfl) (Steps.refl _) (a := o0) (by rw [e7]; exact q8) q8' (argsL := [(.ref rn), (.ref ea), (.int (1 : Int32))]) (rest := []) (lenOf pd__28Ljava_2flang_2fObject_3b_5bLjava_2flang_2fObject_3bI_29V rfl) rfl (by show 2 * 0 + _ ≤ _; exact Nat.le_of_eq rfl) (hb hby d9_20) (fun _ _ => ⟨rfl, e7, (by decide : 0 + 0 ≤ _), (by decide : 0 + 0 ≤ _)⟩)
  dsimp only [Pt.U, Pt.locs, Pt.cells, Pt.slots] at X8 l8 y8 z8 st8 hQ8
  obtain ⟨rfl, N8q, K8, o8_0, o8_1, o8_2, o8_3, o8_4⟩ := hQ8
  have Z9 : n0 ≤ T8.heap.size := Nat.le_trans Z3 K8.1
  have Z9h : h0.size ≤ T8.heap.size := Nat.le_trans Z3h K8.1
  obtain ⟨lc8, X8, N8⟩ := own_pack X8 l8 y8 z8 N2 N8q (C := 0) (S' := 0) rfl rfl
  refine own_thr (a := T8.setTop (mkF m 23 #[.val (.ref o0), .val (.ref rn)] [])) (fun t kt => st8.trans kt) ?_
  refine own_thr (a := T8.setTop (mkF m 24 #[.val (.ref o0), .val (.ref rn)] [(.int (1 : Int32))])) (fun t kt => ?_) ?_
  · show Steps p.tables e below (T8.setTop (mkF m 23 #[.val (.ref o0), .val (.ref rn)] [])) _
    refine XS.iconst X8.here hx rfl (hb hby d9_23) ?_
    exact kt
  exact own_end X8 hlk (v := some (.int (1 : Int32))) (fun h => by rw [Bd.returns] at h; cases h) (fun fs hr => retN X8 hx (t := .boolean) Bd.returns (by simp) (hb hby d9_24) hr) ⟨rfl, N8, (((Keep.refl h0 [o0, ea]).wr W2 (Or.inl (List.mem_of_getElem? (i := 0) rfl))).trans K8 (allS (Or.inl (List.mem_of_getElem? (i := 0) rfl)) (allS (Or.inl (List.mem_of_getElem? (i := 1) rfl)) all0))), o8_0, o8_1, o8_2, o8_3, o8_4⟩ (by decide : 0 ≤ _) (by decide : 0 ≤ _)
theorem ef_rmB32 (m : MethodId) (o0 : Addr) (rn : Addr) (ea : Addr)  : entryFrame m #[(.ref o0), (.ref rn), (.ref ea), (.int (2 : Int32))] 4 = mkF m 0 #[.val (.ref o0), .val (.ref rn), .val (.ref ea), .val (.int (2 : Int32))] [] := by first |  (simp [entryFrame, mkF, argsToLocals, Value.category]; done) | rfl
def Q_rmB32 (Z : State) (o0 : Addr) (rn : Addr) (ea : Addr) (ke : ClassId) (r0 : Addr) (r1 : Addr) (h0 : Heap) (n0 : Nat) (v : Option Value) (h : Heap) (L : List Loc) : Prop := v = none ∧ Fr n0 L ∧ Keep h0 h [o0, ea] ∧ Exa Z h o0 "java/util/ArrayList" ∧ Fld Z h o0 "java/util/AbstractList" "modCount" "I" (.int (3 : Int32)) ∧ Fld Z h o0 "java/util/ArrayList" "elementData" "[Ljava/lang/Object;" (.ref ea) ∧ Fld Z h o0 "java/util/ArrayList" "size" "I" (.int (3 : Int32)) ∧ Arv Z h ea ke (.object "java/lang/Object") (10 : Int32) [(.ref r0), (.ref r1), (.ref rn), .null, .null, .null, .null, .null, .null, .null] .null
set_option maxRecDepth 65536 in
set_option maxHeartbeats 40000000 in
theorem rmB32 (l : Launch) (Z : State) (a0 : Array Value) (hw : ∀ d ∈ tables_1, d.before a0 Z = true) (ws : List Jvm.Cond) (o0 : Addr) (rn : Addr) (ea : Addr) (ke : ClassId) (r0 : Addr) (r1 : Addr) (h0 : Heap) (n0 : Nat) (Z0 : n0 ≤ h0.size) (E_o0 : Exa Z h0 o0 "java/util/ArrayList") (F_modCount_o0 : Fld Z h0 o0 "java/util/AbstractList" "modCount" "I" (.int (3 : Int32))) (F_elementData_o0 : Fld Z h0 o0 "java/util/ArrayList" "elementData" "[Ljava/lang/Object;" (.ref ea)) (F_size_o0 : Fld Z h0 o0 "java/util/ArrayList" "size" "I" (.int (2 : Int32))) (E_rn : Exa Z h0 rn "java/lang/String") (V_ea : Arv Z h0 ea ke (.object "java/lang/Object") (10 : Int32) [(.ref r0), (.ref r1), .null, .null, .null, .null, .null, .null, .null, .null] .null) (g_o0 : n0 ≤ o0) (g_ea : n0 ≤ ea) (ne_o0_ea : o0 ≠ ea) (hov : Ovr Z ke "java/lang/Object") :
    MetFree l (⟨"java/util/ArrayList", "add", "(Ljava/lang/Object;[Ljava/lang/Object;I)V"⟩ : MethodName) (head1 (Jvm.Cond.code (⟨"java/util/ArrayList", "add", "(Ljava/lang/Object;[Ljava/lang/Object;I)V"⟩ : MethodName) jdk_38_method_24_code 4 none :: ws) ({ frames := 0, cells := 0, slots := 0, locals := 0 } : Room)) (fun a U => a = #[(.ref o0), (.ref rn), (.ref ea), (.int (2 : Int32))] ∧ Z.Warmed39 U.vm ∧ U.heap = h0) (fun _ _ _ _ _ => True) (fun _ U o U' => ∃ v L, o = .returned v ∧ Q_rmB32 Z o0 rn ea ke r0 r1 h0 n0 v U'.heap L ∧ FrameEnd U o U' L ({ frames := 0, cells := 0, slots := 0, locals := 0 } : Room).cells ({ frames := 0, cells := 0, slots := 0, locals := 0 } : Room).slots) := by
  refine MetFree.of_bodySF (plainFor_of_name pn_java_util_ArrayList) hisR ?_
  intro p e s m args below meth c s₁ Bd hml0 hP hK
  obtain ⟨rfl, hZ, hh⟩ := hP
  have hx := Bd.exec
  have hby := Bd.bytes
  have hml : c.maxLocals = 4 := hml0
  have hown : s.vm.findClass "java/util/ArrayList" = some m.cls := findClass_of_methodNamed Bd.named
  have hnm := (name_of_methodNamed Bd.named Bd.method).1
  have hlk := Bd.notSynchronized
  have X0 : Stand p l e ({ frames := 0, cells := 0, slots := 0, locals := 0 } : Room) s m #[(.ref o0), (.ref rn), (.ref ea), (.int (2 : Int32))] below meth c s₁ [] 0 0 := Stand.of_body Bd
  have e0 : s₁.heap = h0 := by rw [← hh, Bd.state]; rfl
  have N0 := Fr.nil n0
  show own_G p.tables e below s (Q_rmB32 Z o0 rn ea ke r0 r1 h0 n0) ({ frames := 0, cells := 0, slots := 0, locals := 0 } : Room).cells ({ frames := 0, cells := 0, slots := 0, locals := 0 } : Room).slots _
  refine own_thr (a := s₁.setTop (mkF m 0 #[.val (.ref o0), .val (.ref rn), .val (.ref ea), .val (.int (2 : Int32))] [])) (fun t kt => castTop (ef_rmB32 m o0 rn ea) kt) ?_
  refine own_thr (a := s₁.setTop (mkF m 2 #[.val (.ref o0), .val (.ref rn), .val (.ref ea), .val (.int (2 : Int32))] [(.ref ea), (.int (2 : Int32))])) (fun t kt => ?_) ?_
  · show Steps p.tables e below (s₁.setTop (mkF m 0 #[.val (.ref o0), .val (.ref rn), .val (.ref ea), .val (.int (2 : Int32))] [])) _
    refine XS.iloadN X0.here hx rfl (hb hby d10_0) rfl ?_
    refine XS.aloadN X0.here hx rfl (hb hby d10_1) rfl rfl ?_
    exact kt
  obtain ⟨cl1, Ar1, -, S1, M1, -, -⟩ := id V_ea
  refine own_thr (a := s₁.setTop (mkF m 14 #[.val (.ref o0), .val (.ref rn), .val (.ref ea), .val (.int (2 : Int32))] [(.ref rn), (.int (2 : Int32)), (.ref ea)])) (fun t kt => ?_) ?_
  · show Steps p.tables e below (s₁.setTop (mkF m 2 #[.val (.ref o0), .val (.ref rn), .val (.ref ea), .val (.int (2 : Int32))] [(.ref ea), (.int (2 : Int32))])) _
    refine X0.arraylength hx (by rw [e0]; exact Ar1.1) (State.isArrayOf_alike hZ.alike Ar1.2.1) (g := (mkF m 2 #[.val (.ref o0), .val (.ref rn), .val (.ref ea), .val (.int (2 : Int32))] [(.ref ea), (.int (2 : Int32))])) rfl rfl (hb hby d10_2) _ ?_
    rw [len_of S1 M1]
    refine XS.icmpYes X0.here hx rfl (pc0 := 3) (pc' := 11) rfl (hb hby d10_3) rfl (feq (by decide)).2 (by decide) (by decide) ?_
    refine XS.aloadN X0.here hx rfl (hb hby d10_11) rfl rfl ?_
    refine XS.iloadN X0.here hx rfl (hb hby d10_12) rfl ?_
    refine XS.aloadN X0.here hx rfl (hb hby d10_13) rfl rfl ?_
    exact kt
  obtain ⟨cl2, Ar2, q2, S2, M2, H2, G2⟩ := id V_ea
  have hin2 : ¬ ((2 : Int32) < 0 ∨ cl2.slots.size ≤ ((2 : Int32)).toNatClampNeg) := inb_of S2 ⟨by decide, by decide⟩
  obtain ⟨T2, h2, X2, e2, W2, st2⟩ := stR X0 hx hZ e0 Ar2 (j := (2 : Int32)) hin2 rfl (Sto.ofV Ar2 q2 hov (Ins.of_exa E_rn (hw _ (List.mem_of_getElem? (i := 87) rfl)))) (g := (mkF m 14 #[.val (.ref o0), .val (.ref rn), .val (.ref ea), .val (.int (2 : Int32))] [(.ref rn), (.int (2 : Int32)), (.ref ea)])) rfl rfl (hb hby d10_14)
  have Z3 : n0 ≤ h2.size := Nat.le_trans Z0 (Nat.le_of_eq W2.size.symm)
  have Z3h : h0.size ≤ h2.size := Nat.le_trans (Nat.le_refl h0.size) (Nat.le_of_eq W2.size.symm)
  have V2 : Arv Z h2 ea ke (.object "java/lang/Object") (10 : Int32) [(.ref r0), (.ref r1), (.ref rn), .null, .null, .null, .null, .null, .null, .null] .null := Arv.set Ar2 q2 S2 M2 H2 G2 rfl W2 2 rfl (Nat.le_of_ble_eq_true rfl)
  obtain ⟨lc2, X2, N2⟩ := own_pack1 X2 N0 g_ea
  refine own_thr (a := T2.setTop (mkF m 15 #[.val (.ref o0), .val (.ref rn), .val (.ref ea), .val (.int (2 : Int32))] [])) (fun t kt => st2 t kt) ?_
  refine own_thr (a := T2.setTop (mkF m 19 #[.val (.ref o0), .val (.ref rn), .val (.ref ea), .val (.int (2 : Int32))] [(.int (3 : Int32)), (.ref o0)])) (fun t kt => ?_) ?_
  · show Steps p.tables e below (T2.setTop (mkF m 15 #[.val (.ref o0), .val (.ref rn), .val (.ref ea), .val (.int (2 : Int32))] [])) _
    refine XS.aloadN X2.here hx rfl (hb hby d10_15) rfl rfl ?_
    refine XS.iloadN X2.here hx rfl (hb hby d10_16) rfl ?_
    refine XS.iconst X2.here hx rfl (hb hby d10_17) ?_
    refine XS.iadd X2.here hx rfl (hb hby d10_18) rfl ?_
    exact kt
  obtain ⟨T4, h4, X4, e4, W4, st4⟩ := putF X2 hx hZ hown (host := "") (Or.inl (hw _ (List.mem_of_getElem? (i := 54) rfl))) Via.refl e2 (F_size_o0.other W2 (Or.inl ne_o0_ea)) (E_o0.wr W2) (Or.inl (hw _ (List.mem_of_getElem? (i := 55) rfl))) (hw _ (List.mem_of_getElem? (i := 13) rfl)) (ty := .int) (by decide) rfl rfl (g := (mkF m 19 #[.val (.ref o0), .val (.ref rn), .val (.ref ea), .val (.int (2 : Int32))] [(.int (3 : Int32)), (.ref o0)])) rfl rfl (hb hby d10_19)
  have Fw4 := (F_size_o0.other W2 (Or.inl ne_o0_ea)).same W4
  have Z5 : n0 ≤ h4.size := Nat.le_trans Z3 (Nat.le_of_eq W4.size.symm)
  have Z5h : h0.size ≤ h4.size := Nat.le_trans Z3h (Nat.le_of_eq W4.size.symm)
  obtain ⟨lc4, X4, N4⟩ := own_pack1 X4 N2 g_o0
  refine own_thr (a := T4.setTop (mkF m 22 #[.val (.ref o0), .val (.ref rn), .val (.ref ea), .val (.int (2 : Int32))] [])) (fun t kt => st4 t kt) ?_
  have c6 := ((F_modCount_o0.other W2 (Or.inl ne_o0_ea)).other W4 (Or.inr (slot_ne (Or.inl (hw _ (List.mem_of_getElem? (i := 34) rfl))) (Or.inl (hw _ (List.mem_of_getElem? (i := 55) rfl))) (by decide) (t := .int) (t' := .int) (by decide) (by decide))))
  have c7 := ((F_elementData_o0.other W2 (Or.inl ne_o0_ea)).other W4 (Or.inr (slot_ne (Or.inl (hw _ (List.mem_of_getElem? (i := 37) rfl))) (Or.inl (hw _ (List.mem_of_getElem? (i := 55) rfl))) (by decide) (t := (.array (.object "java/lang/Object"))) (t' := .int) (by decide) (by decide))))
  exact own_end X4 hlk (v := none) (fun _ => rfl) (fun fs hr => X4.returnOut hx Bd.returns (hb hby d10_22) hr) (by rw [e4]; exact ⟨rfl, N4, (((Keep.refl h0 [o0, ea]).wr W2 (Or.inl (List.mem_of_getElem? (i := 1) rfl))).wr W4 (Or.inl (List.mem_of_getElem? (i := 0) rfl))), ((E_o0.wr W2).wr W4), c6, c7, Fw4, (V2.other W4 (Ne.symm ne_o0_ea))⟩) (by decide : 0 ≤ _) (by decide : 0 ≤ _)
theorem ef_rmB12 (m : MethodId) (o0 : Addr) (rn : Addr)  : entryFrame m #[(.ref o0), (.ref rn)] 2 = mkF m 0 #[.val (.ref o0), .val (.ref rn)] [] := by first |  (simp [entryFrame, mkF, argsToLocals, Value.category]; done) | rfl
def Q_rmB12 (Z : State) (o0 : Addr) (rn : Addr) (ea : Addr) (ke : ClassId) (r0 : Addr) (r1 : Addr) (h0 : Heap) (n0 : Nat) (v : Option Value) (h : Heap) (L : List Loc) : Prop := v = some (.int (1 : Int32)) ∧ Fr n0 L ∧ Keep h0 h [o0, ea] ∧ Exa Z h o0 "java/util/ArrayList" ∧ Fld Z h o0 "java/util/AbstractList" "modCount" "I" (.int (3 : Int32)) ∧ Fld Z h o0 "java/util/ArrayList" "elementData" "[Ljava/lang/Object;" (.ref ea) ∧ Fld Z h o0 "java/util/ArrayList" "size" "I" (.int (3 : Int32)) ∧ Arv Z h ea ke (.object "java/lang/Object") (10 : Int32) [(.ref r0), (.ref r1), (.ref rn), .null, .null, .null, .null, .null, .null, .null] .null
set_option maxRecDepth 65536 in
set_option maxHeartbeats 40000000 in
theorem rmB12 (l : Launch) (Z : State) (a0 : Array Value) (hw : ∀ d ∈ tables_1, d.before a0 Z = true) (ws : List Jvm.Cond) (o0 : Addr) (rn : Addr) (ea : Addr) (ke : ClassId) (r0 : Addr) (r1 : Addr) (h0 : Heap) (n0 : Nat) (Z0 : n0 ≤ h0.size) (E_o0 : Exa Z h0 o0 "java/util/ArrayList") (F_modCount_o0 : Fld Z h0 o0 "java/util/AbstractList" "modCount" "I" (.int (2 : Int32))) (F_elementData_o0 : Fld Z h0 o0 "java/util/ArrayList" "elementData" "[Ljava/lang/Object;" (.ref ea)) (F_size_o0 : Fld Z h0 o0 "java/util/ArrayList" "size" "I" (.int (2 : Int32))) (E_rn : Exa Z h0 rn "java/lang/String") (V_ea : Arv Z h0 ea ke (.object "java/lang/Object") (10 : Int32) [(.ref r0), (.ref r1), .null, .null, .null, .null, .null, .null, .null, .null] .null) (g_o0 : n0 ≤ o0) (g_ea : n0 ≤ ea) (ne_o0_ea : o0 ≠ ea) (hov : Ovr Z ke "java/lang/Object") :
    MetFree l (⟨"java/util/ArrayList", "add", "(Ljava/lang/Object;)Z"⟩ : MethodName) (head1 (Jvm.Cond.code (⟨"java/util/ArrayList", "add", "(Ljava/lang/Object;)Z"⟩ : MethodName) jdk_38_method_25_code 2 (some .boolean) :: ws) ({ frames := 1, cells := 0, slots := 0, locals := 15 } : Room)) (fun a U => a = #[(.ref o0), (.ref rn)] ∧ Z.Warmed39 U.vm ∧ U.heap = h0) (fun _ _ _ _ _ => True) (fun _ U o U' => ∃ v L, o = .returned v ∧ Q_rmB12 Z o0 rn ea ke r0 r1 h0 n0 v U'.heap L ∧ FrameEnd U o U' L ({ frames := 1, cells := 0, slots := 0, locals := 15 } : Room).cells ({ frames := 1, cells := 0, slots := 0, locals := 15 } : Room).slots) := by
  refine MetFree.of_bodySF (plainFor_of_name pn_java_util_ArrayList) hisR ?_
  intro p e s m args below meth c s₁ Bd hml0 hP hK
  obtain ⟨rfl, hZ, hh⟩ := hP
  have hx := Bd.exec
  have hby := Bd.bytes
  have hml : c.maxLocals = 2 := hml0
  have hown : s.vm.findClass "java/util/ArrayList" = some m.cls := findClass_of_methodNamed Bd.named
  have hnm := (name_of_methodNamed Bd.named Bd.method).1
  have hlk := Bd.notSynchronized
  have X0 : Stand p l e ({ frames := 1, cells := 0, slots := 0, locals := 15 } : Room) s m #[(.ref o0), (.ref rn)] below meth c s₁ [] 0 0 := Stand.of_body Bd
  have e0 : s₁.heap = h0 := by rw [← hh, Bd.state]; rfl
  have N0 := Fr.nil n0
  show own_G p.tables e below s (Q_rmB12 Z o0 rn ea ke r0 r1 h0 n0) ({ frames := 1, cells := 0, slots := 0, locals := 15 } : Room).cells ({ frames := 1, cells := 0, slots := 0, locals := 15 } : Room).slots _
  refine own_thr (a := s₁.setTop (mkF m 0 #[.val (.ref o0), .val (.ref rn)] [])) (fun t kt => castTop (ef_rmB12 m o0 rn) kt) ?_
  refine own_thr (a := s₁.setTop (mkF m 2 #[.val (.ref o0), .val (.ref rn)] [(.ref o0), (.ref o0)])) (fun t kt => ?_) ?_
  · show Steps p.tables e below (s₁.setTop (mkF m 0 #[.val (.ref o0), .val (.ref rn)] [])) _
    refine XS.aloadN X0.here hx rfl (hb hby d9_0) rfl rfl ?_
    refine XS.dup X0.here hx rfl (hb hby d9_1) rfl rfl ?_
    exact kt
  obtain ⟨T1, X1, e1, st1⟩ := getF X0 hx hZ hown (host := "") (Or.inl (hw _ (List.mem_of_getElem? (i := 64) rfl))) (Via.of (hw _ (List.mem_of_getElem? (i := 65) rfl))) e0 F_modCount_o0 (g := (mkF m 2 #[.val (.ref o0), .val (.ref rn)] [(.ref o0), (.ref o0)])) rfl rfl (hb hby d9_2)
  refine own_thr (a := T1.setTop (mkF m 5 #[.val (.ref o0), .val (.ref rn)] [(.int (2 : Int32)), (.ref o0)])) (fun t kt => st1 t kt) ?_
  refine own_thr (a := T1.setTop (mkF m 7 #[.val (.ref o0), .val (.ref rn)] [(.int (3 : Int32)), (.ref o0)])) (fun t kt => ?_) ?_
  · show Steps p.tables e below (T1.setTop (mkF m 5 #[.val (.ref o0), .val (.ref rn)] [(.int (2 : Int32)), (.ref o0)])) _
    refine XS.iconst X1.here hx rfl (hb hby d9_5) ?_
    refine XS.iadd X1.here hx rfl (hb hby d9_6) rfl ?_
    exact kt
  obtain ⟨T2, h2, X2, e2, W2, st2⟩ := putF X1 hx hZ hown (host := "") (Or.inl (hw _ (List.mem_of_getElem? (i := 64) rfl))) (Via.of (hw _ (List.mem_of_getElem? (i := 65) rfl))) e1 F_modCount_o0 E_o0 (Or.inl (hw _ (List.mem_of_getElem? (i := 34) rfl))) (hw _ (List.mem_of_getElem? (i := 13) rfl)) (ty := .int) (by decide) rfl rfl (g := (mkF m 7 #[.val (.ref o0), .val (.ref rn)] [(.int (3 : Int32)), (.ref o0)])) rfl rfl (hb hby d9_7)
  have Fw2 := F_modCount_o0.same W2
  have Z3 : n0 ≤ h2.size := Nat.le_trans Z0 (Nat.le_of_eq W2.size.symm)
  have Z3h : h0.size ≤ h2.size := Nat.le_trans (Nat.le_refl h0.size) (Nat.le_of_eq W2.size.symm)
  obtain ⟨lc2, X2, N2⟩ := own_pack1 X2 N0 g_o0
  refine own_thr (a := T2.setTop (mkF m 10 #[.val (.ref o0), .val (.ref rn)] [])) (fun t kt => st2 t kt) ?_
  refine own_thr (a := T2.setTop (mkF m 13 #[.val (.ref o0), .val (.ref rn)] [(.ref o0), (.ref rn), (.ref o0)])) (fun t kt => ?_) ?_
  · show Steps p.tables e below (T2.setTop (mkF m 10 #[.val (.ref o0), .val (.ref rn)] [])) _
    refine XS.aloadN X2.here hx rfl (hb hby d9_10) rfl rfl ?_
    refine XS.aloadN X2.here hx rfl (hb hby d9_11) rfl rfl ?_
    refine XS.aloadN X2.here hx rfl (hb hby d9_12) rfl rfl ?_
    exact kt
  have c4 := (F_elementData_o0.other W2 (Or.inr (slot_ne (Or.inl (hw _ (List.mem_of_getElem? (i := 37) rfl))) (Or.inl (hw _ (List.mem_of_getElem? (i := 34) rfl))) (by decide) (t := (.array (.object "java/lang/Object"))) (t' := .int) (by decide) (by decide))))
  obtain ⟨T5, X5, e5, st5⟩ := getF X2 hx hZ hown (host := "") (Or.inl (hw _ (List.mem_of_getElem? (i := 36) rfl))) Via.refl e2 c4 (g := (mkF m 13 #[.val (.ref o0), .val (.ref rn)] [(.ref o0), (.ref rn), (.ref o0)])) rfl rfl (hb hby d9_13)
  refine own_thr (a := T5.setTop (mkF m 16 #[.val (.ref o0), .val (.ref rn)] [(.ref ea), (.ref rn), (.ref o0)])) (fun t kt => st5 t kt) ?_
  refine own_thr (a := T5.setTop (mkF m 17 #[.val (.ref o0), .val (.ref rn)] [(.ref o0), (.ref ea), (.ref rn), (.ref o0)])) (fun t kt => ?_) ?_
  · show Steps p.tables e below (T5.setTop (mkF m 16 #[.val (.ref o0), .val (.ref rn)] [(.ref ea), (.ref rn), (.ref o0)])) _
    refine XS.aloadN X5.here hx rfl (hb hby d9_16) rfl rfl ?_
    exact kt
  have c6 := (F_size_o0.other W2 (Or.inr (slot_ne (Or.inl (hw _ (List.mem_of_getElem? (i := 55) rfl))) (Or.inl (hw _ (List.mem_of_getElem? (i := 34) rfl))) (by decide) (t := .int) (t' := .int) (by decide) (by decide))))
  obtain ⟨T7, X7, e7, st7⟩ := getF X5 hx hZ hown (host := "") (Or.inl (hw _ (List.mem_of_getElem? (i := 54) rfl))) Via.refl e5 c6 (g := (mkF m 17 #[.val (.ref o0), .val (.ref rn)] [(.ref o0), (.ref ea), (.ref rn), (.ref o0)])) rfl rfl (hb hby d9_17)
  refine own_thr (a := T7.setTop (mkF m 20 #[.val (.ref o0), .val (.ref rn)] [(.int (2 : Int32)), (.ref ea), (.ref rn), (.ref o0)])) (fun t kt => st7 t kt) ?_
  obtain ⟨cq8, q8, q8'⟩ := (E_o0.wr W2).cell
  obtain ⟨_, _, ⟨T8, L8, k8, n8⟩, -, X8, ⟨Lc8, hQ8, l8, y8, z8⟩, st8⟩ := X7.privateBack hx (y := (⟨"java/util/ArrayList", "add", "(Ljava/lang/Object;[Ljava/lang/Object;I)V"⟩ : MethodName)) hown (mvT hZ (hw _ (List.mem_of_getElem? (i := 66) rfl))) (mvT hZ (hw _ (List.mem_of_getElem? (i := 67) rfl))) (mvT hZ (hw _ (List.mem_of_getElem? (i := 69) rfl))) (Cond.privateMethod_at (mvP hZ (hw _ (List.mem_of_getElem? (i := 68) rfl)) (args := #[]))) (mvT hZ (hw _ (List.mem_of_getElem? (i := 70) rfl))) (by decide) (backOf (W := 0) (rmB32 l Z a0 hw [] o0 rn ea ke r0 r1 h2 n0 Z3 (E_o0.wr W2) Fw2 c4 c6 (E_rn.wr W2) (V_ea.other W2 (Ne.symm ne_o0_ea)) g_o0 g_ea ne_o0_ea hov) hZ (hw _ (List.mem_of_getElem? (i := 70) rfl)) (hw _ (List.mem_of_getElem? (i := 14) rfl)) (by decide) (by decide)) (g := (mkF m 20 #[.val (.ref o0), .val (.ref rn)] [(.int (2 : Int32)), (.ref ea), (.ref rn), (.ref o0)])) rfl (by rw [hml]; rfl) (Steps.refl _) (a := o0) (by rw [e7]; exact q8) q8' (argsL := [(.ref rn), (.ref ea), (.int (2 : Int32))]) (rest := []) (lenOf pd__28Ljava_2flang_2fObject_3b_5bLjava_2flang_2fObject_3bI_29V rfl) rfl (by show 2 * 0 + _ ≤ _; exact Nat.le_of_eq rfl) (hb hby d9_20) (fun _ _ => ⟨rfl, e7, (by decide : 0 + 0 ≤ _), (by decide : 0 + 0 ≤ _)⟩)
  dsimp only [Pt.U, Pt.locs, Pt.cells, Pt.slots] at X8 l8 y8 z8 st8 hQ8
  obtain ⟨rfl, N8q, K8, o8_0, o8_1, o8_2, o8_3, o8_4⟩ := hQ8
  have Z9 : n0 ≤ T8.heap.size := Nat.le_trans Z3 K8.1
  have Z9h : h0.size ≤ T8.heap.size := Nat.le_trans Z3h K8.1
  obtain ⟨lc8, X8, N8⟩ := own_pack X8 l8 y8 z8 N2 N8q (C := 0) (S' := 0) rfl rfl
  refine own_thr (a := T8.setTop (mkF m 23 #[.val (.ref o0), .val (.ref rn)] [])) (fun t kt => st8.trans kt) ?_
  refine own_thr (a := T8.setTop (mkF m 24 #[.val (.ref o0), .val (.ref rn)] [(.int (1 : Int32))])) (fun t kt => ?_) ?_
  · show Steps p.tables e below (T8.setTop (mkF m 23 #[.val (.ref o0), .val (.ref rn)] [])) _
    refine XS.iconst X8.here hx rfl (hb hby d9_23) ?_
    exact kt
  exact own_end X8 hlk (v := some (.int (1 : Int32))) (fun h => by rw [Bd.returns] at h; cases h) (fun fs hr => retN X8 hx (t := .boolean) Bd.returns (by simp) (hb hby d9_24) hr) ⟨rfl, N8, (((Keep.refl h0 [o0, ea]).wr W2 (Or.inl (List.mem_of_getElem? (i := 0) rfl))).trans K8 (allS (Or.inl (List.mem_of_getElem? (i := 0) rfl)) (allS (Or.inl (List.mem_of_getElem? (i := 1) rfl)) all0))), o8_0, o8_1, o8_2, o8_3, o8_4⟩ (by decide : 0 ≤ _) (by decide : 0 ≤ _)
theorem ef_rmB33 (m : MethodId) (o0 : Addr) (rn : Addr) (ea : Addr)  : entryFrame m #[(.ref o0), (.ref rn), (.ref ea), (.int (3 : Int32))] 4 = mkF m 0 #[.val (.ref o0), .val (.ref rn), .val (.ref ea), .val (.int (3 : Int32))] [] := by first |  (simp [entryFrame, mkF, argsToLocals, Value.category]; done) | rfl
def Q_rmB33 (Z : State) (o0 : Addr) (rn : Addr) (ea : Addr) (ke : ClassId) (r0 : Addr) (r1 : Addr) (r2 : Addr) (h0 : Heap) (n0 : Nat) (v : Option Value) (h : Heap) (L : List Loc) : Prop := v = none ∧ Fr n0 L ∧ Keep h0 h [o0, ea] ∧ Exa Z h o0 "java/util/ArrayList" ∧ Fld Z h o0 "java/util/AbstractList" "modCount" "I" (.int (4 : Int32)) ∧ Fld Z h o0 "java/util/ArrayList" "elementData" "[Ljava/lang/Object;" (.ref ea) ∧ Fld Z h o0 "java/util/ArrayList" "size" "I" (.int (4 : Int32)) ∧ Arv Z h ea ke (.object "java/lang/Object") (10 : Int32) [(.ref r0), (.ref r1), (.ref r2), (.ref rn), .null, .null, .null, .null, .null, .null] .null
set_option maxRecDepth 65536 in
set_option maxHeartbeats 40000000 in
theorem rmB33 (l : Launch) (Z : State) (a0 : Array Value) (hw : ∀ d ∈ tables_1, d.before a0 Z = true) (ws : List Jvm.Cond) (o0 : Addr) (rn : Addr) (ea : Addr) (ke : ClassId) (r0 : Addr) (r1 : Addr) (r2 : Addr) (h0 : Heap) (n0 : Nat) (Z0 : n0 ≤ h0.size) (E_o0 : Exa Z h0 o0 "java/util/ArrayList") (F_modCount_o0 : Fld Z h0 o0 "java/util/AbstractList" "modCount" "I" (.int (4 : Int32))) (F_elementData_o0 : Fld Z h0 o0 "java/util/ArrayList" "elementData" "[Ljava/lang/Object;" (.ref ea)) (F_size_o0 : Fld Z h0 o0 "java/util/ArrayList" "size" "I" (.int (3 : Int32))) (E_rn : Exa Z h0 rn "java/lang/String") (V_ea : Arv Z h0 ea ke (.object "java/lang/Object") (10 : Int32) [(.ref r0), (.ref r1), (.ref r2), .null, .null, .null, .null, .null, .null, .null] .null) (g_o0 : n0 ≤ o0) (g_ea : n0 ≤ ea) (ne_o0_ea : o0 ≠ ea) (hov : Ovr Z ke "java/lang/Object") :
    MetFree l (⟨"java/util/ArrayList", "add", "(Ljava/lang/Object;[Ljava/lang/Object;I)V"⟩ : MethodName) (head1 (Jvm.Cond.code (⟨"java/util/ArrayList", "add", "(Ljava/lang/Object;[Ljava/lang/Object;I)V"⟩ : MethodName) jdk_38_method_24_code 4 none :: ws) ({ frames := 0, cells := 0, slots := 0, locals := 0 } : Room)) (fun a U => a = #[(.ref o0), (.ref rn), (.ref ea), (.int (3 : Int32))] ∧ Z.Warmed39 U.vm ∧ U.heap = h0) (fun _ _ _ _ _ => True) (fun _ U o U' => ∃ v L, o = .returned v ∧ Q_rmB33 Z o0 rn ea ke r0 r1 r2 h0 n0 v U'.heap L ∧ FrameEnd U o U' L ({ frames := 0, cells := 0, slots := 0, locals := 0 } : Room).cells ({ frames := 0, cells := 0, slots := 0, locals := 0 } : Room).slots) := by
  refine MetFree.of_bodySF (plainFor_of_name pn_java_util_ArrayList) hisR ?_
  intro p e s m args below meth c s₁ Bd hml0 hP hK
  obtain ⟨rfl, hZ, hh⟩ := hP
  have hx := Bd.exec
  have hby := Bd.bytes
  have hml : c.maxLocals = 4 := hml0
  have hown : s.vm.findClass "java/util/ArrayList" = some m.cls := findClass_of_methodNamed Bd.named
  have hnm := (name_of_methodNamed Bd.named Bd.method).1
  have hlk := Bd.notSynchronized
  have X0 : Stand p l e ({ frames := 0, cells := 0, slots := 0, locals := 0 } : Room) s m #[(.ref o0), (.ref rn), (.ref ea), (.int (3 : Int32))] below meth c s₁ [] 0 0 := Stand.of_body Bd
  have e0 : s₁.heap = h0 := by rw [← hh, Bd.state]; rfl
  have N0 := Fr.nil n0
  show own_G p.tables e below s (Q_rmB33 Z o0 rn ea ke r0 r1 r2 h0 n0) ({ frames := 0, cells := 0, slots := 0, locals := 0 } : Room).cells ({ frames := 0, cells := 0, slots := 0, locals := 0 } : Room).slots _
  refine own_thr (a := s₁.setTop (mkF m 0 #[.val (.ref o0), .val (.ref rn), .val (.ref ea), .val (.int (3 : Int32))] [])) (fun t kt => castTop (ef_rmB33 m o0 rn ea) kt) ?_
  refine own_thr (a := s₁.setTop (mkF m 2 #[.val (.ref o0), .val (.ref rn), .val (.ref ea), .val (.int (3 : Int32))] [(.ref ea), (.int (3 : Int32))])) (fun t kt => ?_) ?_
  · show Steps p.tables e below (s₁.setTop (mkF m 0 #[.val (.ref o0), .val (.ref rn), .val (.ref ea), .val (.int (3 : Int32))] [])) _
    refine XS.iloadN X0.here hx rfl (hb hby d10_0) rfl ?_
    refine XS.aloadN X0.here hx rfl (hb hby d10_1) rfl rfl ?_
    exact kt
  obtain ⟨cl1, Ar1, -, S1, M1, -, -⟩ := id V_ea
  refine own_thr (a := s₁.setTop (mkF m 14 #[.val (.ref o0), .val (.ref rn), .val (.ref ea), .val (.int (3 : Int32))] [(.ref rn), (.int (3 : Int32)), (.ref ea)])) (fun t kt => ?_) ?_
  · show Steps p.tables e below (s₁.setTop (mkF m 2 #[.val (.ref o0), .val (.ref rn), .val (.ref ea), .val (.int (3 : Int32))] [(.ref ea), (.int (3 : Int32))])) _
    refine X0.arraylength hx (by rw [e0]; exact Ar1.1) (State.isArrayOf_alike hZ.alike Ar1.2.1) (g := (mkF m 2 #[.val (.ref o0), .val (.ref rn), .val (.ref ea), .val (.int (3 : Int32))] [(.ref ea), (.int (3 : Int32))])) rfl rfl (hb hby d10_2) _ ?_
    rw [len_of S1 M1]
    refine XS.icmpYes X0.here hx rfl (pc0 := 3) (pc' := 11) rfl (hb hby d10_3) rfl (feq (by decide)).2 (by decide) (by decide) ?_
    refine XS.aloadN X0.here hx rfl (hb hby d10_11) rfl rfl ?_
    refine XS.iloadN X0.here hx rfl (hb hby d10_12) rfl ?_
    refine XS.aloadN X0.here hx rfl (hb hby d10_13) rfl rfl ?_
    exact kt
  obtain ⟨cl2, Ar2, q2, S2, M2, H2, G2⟩ := id V_ea
  have hin2 : ¬ ((3 : Int32) < 0 ∨ cl2.slots.size ≤ ((3 : Int32)).toNatClampNeg) := inb_of S2 ⟨by decide, by decide⟩
  obtain ⟨T2, h2, X2, e2, W2, st2⟩ := stR X0 hx hZ e0 Ar2 (j := (3 : Int32)) hin2 rfl (Sto.ofV Ar2 q2 hov (Ins.of_exa E_rn (hw _ (List.mem_of_getElem? (i := 87) rfl)))) (g := (mkF m 14 #[.val (.ref o0), .val (.ref rn), .val (.ref ea), .val (.int (3 : Int32))] [(.ref rn), (.int (3 : Int32)), (.ref ea)])) rfl rfl (hb hby d10_14)
  have Z3 : n0 ≤ h2.size := Nat.le_trans Z0 (Nat.le_of_eq W2.size.symm)
  have Z3h : h0.size ≤ h2.size := Nat.le_trans (Nat.le_refl h0.size) (Nat.le_of_eq W2.size.symm)
  have V2 : Arv Z h2 ea ke (.object "java/lang/Object") (10 : Int32) [(.ref r0), (.ref r1), (.ref r2), (.ref rn), .null, .null, .null, .null, .null, .null] .null := Arv.set Ar2 q2 S2 M2 H2 G2 rfl W2 3 rfl (Nat.le_of_ble_eq_true rfl)
  obtain ⟨lc2, X2, N2⟩ := own_pack1 X2 N0 g_ea
  refine own_thr (a := T2.setTop (mkF m 15 #[.val (.ref o0), .val (.ref rn), .val (.ref ea), .val (.int (3 : Int32))] [])) (fun t kt => st2 t kt) ?_
  refine own_thr (a := T2.setTop (mkF m 19 #[.val (.ref o0), .val (.ref rn), .val (.ref ea), .val (.int (3 : Int32))] [(.int (4 : Int32)), (.ref o0)])) (fun t kt => ?_) ?_
  · show Steps p.tables e below (T2.setTop (mkF m 15 #[.val (.ref o0), .val (.ref rn), .val (.ref ea), .val (.int (3 : Int32))] [])) _
    refine XS.aloadN X2.here hx rfl (hb hby d10_15) rfl rfl ?_
    refine XS.iloadN X2.here hx rfl (hb hby d10_16) rfl ?_
    refine XS.iconst X2.here hx rfl (hb hby d10_17) ?_
    refine XS.iadd X2.here hx rfl (hb hby d10_18) rfl ?_
    exact kt
  obtain ⟨T4, h4, X4, e4, W4, st4⟩ := putF X2 hx hZ hown (host := "") (Or.inl (hw _ (List.mem_of_getElem? (i := 54) rfl))) Via.refl e2 (F_size_o0.other W2 (Or.inl ne_o0_ea)) (E_o0.wr W2) (Or.inl (hw _ (List.mem_of_getElem? (i := 55) rfl))) (hw _ (List.mem_of_getElem? (i := 13) rfl)) (ty := .int) (by decide) rfl rfl (g := (mkF m 19 #[.val (.ref o0), .val (.ref rn), .val (.ref ea), .val (.int (3 : Int32))] [(.int (4 : Int32)), (.ref o0)])) rfl rfl (hb hby d10_19)
  have Fw4 := (F_size_o0.other W2 (Or.inl ne_o0_ea)).same W4
  have Z5 : n0 ≤ h4.size := Nat.le_trans Z3 (Nat.le_of_eq W4.size.symm)
  have Z5h : h0.size ≤ h4.size := Nat.le_trans Z3h (Nat.le_of_eq W4.size.symm)
  obtain ⟨lc4, X4, N4⟩ := own_pack1 X4 N2 g_o0
  refine own_thr (a := T4.setTop (mkF m 22 #[.val (.ref o0), .val (.ref rn), .val (.ref ea), .val (.int (3 : Int32))] [])) (fun t kt => st4 t kt) ?_
  have c6 := ((F_modCount_o0.other W2 (Or.inl ne_o0_ea)).other W4 (Or.inr (slot_ne (Or.inl (hw _ (List.mem_of_getElem? (i := 34) rfl))) (Or.inl (hw _ (List.mem_of_getElem? (i := 55) rfl))) (by decide) (t := .int) (t' := .int) (by decide) (by decide))))
  have c7 := ((F_elementData_o0.other W2 (Or.inl ne_o0_ea)).other W4 (Or.inr (slot_ne (Or.inl (hw _ (List.mem_of_getElem? (i := 37) rfl))) (Or.inl (hw _ (List.mem_of_getElem? (i := 55) rfl))) (by decide) (t := (.array (.object "java/lang/Object"))) (t' := .int) (by decide) (by decide))))
  exact own_end X4 hlk (v := none) (fun _ => rfl) (fun fs hr => X4.returnOut hx Bd.returns (hb hby d10_22) hr) (by rw [e4]; exact ⟨rfl, N4, (((Keep.refl h0 [o0, ea]).wr W2 (Or.inl (List.mem_of_getElem? (i := 1) rfl))).wr W4 (Or.inl (List.mem_of_getElem? (i := 0) rfl))), ((E_o0.wr W2).wr W4), c6, c7, Fw4, (V2.other W4 (Ne.symm ne_o0_ea))⟩) (by decide : 0 ≤ _) (by decide : 0 ≤ _)
theorem ef_rmB13 (m : MethodId) (o0 : Addr) (rn : Addr)  : entryFrame m #[(.ref o0), (.ref rn)] 2 = mkF m 0 #[.val (.ref o0), .val (.ref rn)] [] := by first |  (simp [entryFrame, mkF, argsToLocals, Value.category]; done) | rfl
def Q_rmB13 (Z : State) (o0 : Addr) (rn : Addr) (ea : Addr) (ke : ClassId) (r0 : Addr) (r1 : Addr) (r2 : Addr) (h0 : Heap) (n0 : Nat) (v : Option Value) (h : Heap) (L : List Loc) : Prop := v = some (.int (1 : Int32)) ∧ Fr n0 L ∧ Keep h0 h [o0, ea] ∧ Exa Z h o0 "java/util/ArrayList" ∧ Fld Z h o0 "java/util/AbstractList" "modCount" "I" (.int (4 : Int32)) ∧ Fld Z h o0 "java/util/ArrayList" "elementData" "[Ljava/lang/Object;" (.ref ea) ∧ Fld Z h o0 "java/util/ArrayList" "size" "I" (.int (4 : Int32)) ∧ Arv Z h ea ke (.object "java/lang/Object") (10 : Int32) [(.ref r0), (.ref r1), (.ref r2), (.ref rn), .null, .null, .null, .null, .null, .null] .null
set_option maxRecDepth 65536 in
set_option maxHeartbeats 40000000 in
theorem rmB13 (l : Launch) (Z : State) (a0 : Array Value) (hw : ∀ d ∈ tables_1, d.before a0 Z = true) (ws : List Jvm.Cond) (o0 : Addr) (rn : Addr) (ea : Addr) (ke : ClassId) (r0 : Addr) (r1 : Addr) (r2 : Addr) (h0 : Heap) (n0 : Nat) (Z0 : n0 ≤ h0.size) (E_o0 : Exa Z h0 o0 "java/util/ArrayList") (F_modCount_o0 : Fld Z h0 o0 "java/util/AbstractList" "modCount" "I" (.int (3 : Int32))) (F_elementData_o0 : Fld Z h0 o0 "java/util/ArrayList" "elementData" "[Ljava/lang/Object;" (.ref ea)) (F_size_o0 : Fld Z h0 o0 "java/util/ArrayList" "size" "I" (.int (3 : Int32))) (E_rn : Exa Z h0 rn "java/lang/String") (V_ea : Arv Z h0 ea ke (.object "java/lang/Object") (10 : Int32) [(.ref r0), (.ref r1), (.ref r2), .null, .null, .null, .null, .null, .null, .null] .null) (g_o0 : n0 ≤ o0) (g_ea : n0 ≤ ea) (ne_o0_ea : o0 ≠ ea) (hov : Ovr Z ke "java/lang/Object") :
    MetFree l (⟨"java/util/ArrayList", "add", "(Ljava/lang/Object;)Z"⟩ : MethodName) (head1 (Jvm.Cond.code (⟨"java/util/ArrayList", "add", "(Ljava/lang/Object;)Z"⟩ : MethodName) jdk_38_method_25_code 2 (some .boolean) :: ws) ({ frames := 1, cells := 0, slots := 0, locals := 15 } : Room)) (fun a U => a = #[(.ref o0), (.ref rn)] ∧ Z.Warmed39 U.vm ∧ U.heap = h0) (fun _ _ _ _ _ => True) (fun _ U o U' => ∃ v L, o = .returned v ∧ Q_rmB13 Z o0 rn ea ke r0 r1 r2 h0 n0 v U'.heap L ∧ FrameEnd U o U' L ({ frames := 1, cells := 0, slots := 0, locals := 15 } : Room).cells ({ frames := 1, cells := 0, slots := 0, locals := 15 } : Room).slots) := by
  refine MetFree.of_bodySF (plainFor_of_name pn_java_util_ArrayList) hisR ?_
  intro p e s m args below meth c s₁ Bd hml0 hP hK
  obtain ⟨rfl, hZ, hh⟩ := hP
  have hx := Bd.exec
  have hby := Bd.bytes
  have hml : c.maxLocals = 2 := hml0
  have hown : s.vm.findClass "java/util/ArrayList" = some m.cls := findClass_of_methodNamed Bd.named
  have hnm := (name_of_methodNamed Bd.named Bd.method).1
  have hlk := Bd.notSynchronized
  have X0 : Stand p l e ({ frames := 1, cells := 0, slots := 0, locals := 15 } : Room) s m #[(.ref o0), (.ref rn)] below meth c s₁ [] 0 0 := Stand.of_body Bd
  have e0 : s₁.heap = h0 := by rw [← hh, Bd.state]; rfl
  have N0 := Fr.nil n0
  show own_G p.tables e below s (Q_rmB13 Z o0 rn ea ke r0 r1 r2 h0 n0) ({ frames := 1, cells := 0, slots := 0, locals := 15 } : Room).cells ({ frames := 1, cells := 0, slots := 0, locals := 15 } : Room).slots _
  refine own_thr (a := s₁.setTop (mkF m 0 #[.val (.ref o0), .val (.ref rn)] [])) (fun t kt => castTop (ef_rmB13 m o0 rn) kt) ?_
  refine own_thr (a := s₁.setTop (mkF m 2 #[.val (.ref o0), .val (.ref rn)] [(.ref o0), (.ref o0)])) (fun t kt => ?_) ?_
  · show Steps p.tables e below (s₁.setTop (mkF m 0 #[.val (.ref o0), .val (.ref rn)] [])) _
    refine XS.aloadN X0.here hx rfl (hb hby d9_0) rfl rfl ?_
    refine XS.dup X0.here hx rfl (hb hby d9_1) rfl rfl ?_
    exact kt
  obtain ⟨T1, X1, e1, st1⟩ := getF X0 hx hZ hown (host := "") (Or.inl (hw _ (List.mem_of_getElem? (i := 64) rfl))) (Via.of (hw _ (List.mem_of_getElem? (i := 65) rfl))) e0 F_modCount_o0 (g := (mkF m 2 #[.val (.ref o0), .val (.ref rn)] [(.ref o0), (.ref o0)])) rfl rfl (hb hby d9_2)
  refine own_thr (a := T1.setTop (mkF m 5 #[.val (.ref o0), .val (.ref rn)] [(.int (3 : Int32)), (.ref o0)])) (fun t kt => st1 t kt) ?_
  refine own_thr (a := T1.setTop (mkF m 7 #[.val (.ref o0), .val (.ref rn)] [(.int (4 : Int32)), (.ref o0)])) (fun t kt => ?_) ?_
  · show Steps p.tables e below (T1.setTop (mkF m 5 #[.val (.ref o0), .val (.ref rn)] [(.int (3 : Int32)), (.ref o0)])) _
    refine XS.iconst X1.here hx rfl (hb hby d9_5) ?_
    refine XS.iadd X1.here hx rfl (hb hby d9_6) rfl ?_
    exact kt
  obtain ⟨T2, h2, X2, e2, W2, st2⟩ := putF X1 hx hZ hown (host := "") (Or.inl (hw _ (List.mem_of_getElem? (i := 64) rfl))) (Via.of (hw _ (List.mem_of_getElem? (i := 65) rfl))) e1 F_modCount_o0 E_o0 (Or.inl (hw _ (List.mem_of_getElem? (i := 34) rfl))) (hw _ (List.mem_of_getElem? (i := 13) rfl)) (ty := .int) (by decide) rfl rfl (g := (mkF m 7 #[.val (.ref o0), .val (.ref rn)] [(.int (4 : Int32)), (.ref o0)])) rfl rfl (hb hby d9_7)
  have Fw2 := F_modCount_o0.same W2
  have Z3 : n0 ≤ h2.size := Nat.le_trans Z0 (Nat.le_of_eq W2.size.symm)
  have Z3h : h0.size ≤ h2.size := Nat.le_trans (Nat.le_refl h0.size) (Nat.le_of_eq W2.size.symm)
  obtain ⟨lc2, X2, N2⟩ := own_pack1 X2 N0 g_o0
  refine own_thr (a := T2.setTop (mkF m 10 #[.val (.ref o0), .val (.ref rn)] [])) (fun t kt => st2 t kt) ?_
  refine own_thr (a := T2.setTop (mkF m 13 #[.val (.ref o0), .val (.ref rn)] [(.ref o0), (.ref rn), (.ref o0)])) (fun t kt => ?_) ?_
  · show Steps p.tables e below (T2.setTop (mkF m 10 #[.val (.ref o0), .val (.ref rn)] [])) _
    refine XS.aloadN X2.here hx rfl (hb hby d9_10) rfl rfl ?_
    refine XS.aloadN X2.here hx rfl (hb hby d9_11) rfl rfl ?_
    refine XS.aloadN X2.here hx rfl (hb hby d9_12) rfl rfl ?_
    exact kt
  have c4 := (F_elementData_o0.other W2 (Or.inr (slot_ne (Or.inl (hw _ (List.mem_of_getElem? (i := 37) rfl))) (Or.inl (hw _ (List.mem_of_getElem? (i := 34) rfl))) (by decide) (t := (.array (.object "java/lang/Object"))) (t' := .int) (by decide) (by decide))))
  obtain ⟨T5, X5, e5, st5⟩ := getF X2 hx hZ hown (host := "") (Or.inl (hw _ (List.mem_of_getElem? (i := 36) rfl))) Via.refl e2 c4 (g := (mkF m 13 #[.val (.ref o0), .val (.ref rn)] [(.ref o0), (.ref rn), (.ref o0)])) rfl rfl (hb hby d9_13)
  refine own_thr (a := T5.setTop (mkF m 16 #[.val (.ref o0), .val (.ref rn)] [(.ref ea), (.ref rn), (.ref o0)])) (fun t kt => st5 t kt) ?_
  refine own_thr (a := T5.setTop (mkF m 17 #[.val (.ref o0), .val (.ref rn)] [(.ref o0), (.ref ea), (.ref rn), (.ref o0)])) (fun t kt => ?_) ?_
  · show Steps p.tables e below (T5.setTop (mkF m 16 #[.val (.ref o0), .val (.ref rn)] [(.ref ea), (.ref rn), (.ref o0)])) _
    refine XS.aloadN X5.here hx rfl (hb hby d9_16) rfl rfl ?_
    exact kt
  have c6 := (F_size_o0.other W2 (Or.inr (slot_ne (Or.inl (hw _ (List.mem_of_getElem? (i := 55) rfl))) (Or.inl (hw _ (List.mem_of_getElem? (i := 34) rfl))) (by decide) (t := .int) (t' := .int) (by decide) (by decide))))
  obtain ⟨T7, X7, e7, st7⟩ := getF X5 hx hZ hown (host := "") (Or.inl (hw _ (List.mem_of_getElem? (i := 54) rfl))) Via.refl e5 c6 (g := (mkF m 17 #[.val (.ref o0), .val (.ref rn)] [(.ref o0), (.ref ea), (.ref rn), (.ref o0)])) rfl rfl (hb hby d9_17)
  refine own_thr (a := T7.setTop (mkF m 20 #[.val (.ref o0), .val (.ref rn)] [(.int (3 : Int32)), (.ref ea), (.ref rn), (.ref o0)])) (fun t kt => st7 t kt) ?_
  obtain ⟨cq8, q8, q8'⟩ := (E_o0.wr W2).cell
  obtain ⟨_, _, ⟨T8, L8, k8, n8⟩, -, X8, ⟨Lc8, hQ8, l8, y8, z8⟩, st8⟩ := X7.privateBack hx (y := (⟨"java/util/ArrayList", "add", "(Ljava/lang/Object;[Ljava/lang/Object;I)V"⟩ : MethodName)) hown (mvT hZ (hw _ (List.mem_of_getElem? (i := 66) rfl))) (mvT hZ (hw _ (List.mem_of_getElem? (i := 67) rfl))) (mvT hZ (hw _ (List.mem_of_getElem? (i := 69) rfl))) (Cond.privateMethod_at (mvP hZ (hw _ (List.mem_of_getElem? (i := 68) rfl)) (args := #[]))) (mvT hZ (hw _ (List.mem_of_getElem? (i := 70) rfl))) (by decide) (backOf (W := 0) (rmB33 l Z a0 hw [] o0 rn ea ke r0 r1 r2 h2 n0 Z3 (E_o0.wr W2) Fw2 c4 c6 (E_rn.wr W2) (V_ea.other W2 (Ne.symm ne_o0_ea)) g_o0 g_ea ne_o0_ea hov) hZ (hw _ (List.mem_of_getElem? (i := 70) rfl)) (hw _ (List.mem_of_getElem? (i := 14) rfl)) (by decide) (by decide)) (g := (mkF m 20 #[.val (.ref o0), .val (.ref rn)] [(.int (3 : Int32)), (.ref ea), (.ref rn), (.ref o0)])) rfl (by rw [hml]; rfl) (Steps.refl _) (a := o0) (by rw [e7]; exact q8) q8' (argsL := [(.ref rn), (.ref ea), (.int (3 : Int32))]) (rest := []) (lenOf pd__28Ljava_2flang_2fObject_3b_5bLjava_2flang_2fObject_3bI_29V rfl) rfl (by show 2 * 0 + _ ≤ _; exact Nat.le_of_eq rfl) (hb hby d9_20) (fun _ _ => ⟨rfl, e7, (by decide : 0 + 0 ≤ _), (by decide : 0 + 0 ≤ _)⟩)
  dsimp only [Pt.U, Pt.locs, Pt.cells, Pt.slots] at X8 l8 y8 z8 st8 hQ8
  obtain ⟨rfl, N8q, K8, o8_0, o8_1, o8_2, o8_3, o8_4⟩ := hQ8
  have Z9 : n0 ≤ T8.heap.size := Nat.le_trans Z3 K8.1
  have Z9h : h0.size ≤ T8.heap.size := Nat.le_trans Z3h K8.1
  obtain ⟨lc8, X8, N8⟩ := own_pack X8 l8 y8 z8 N2 N8q (C := 0) (S' := 0) rfl rfl
  refine own_thr (a := T8.setTop (mkF m 23 #[.val (.ref o0), .val (.ref rn)] [])) (fun t kt => st8.trans kt) ?_
  refine own_thr (a := T8.setTop (mkF m 24 #[.val (.ref o0), .val (.ref rn)] [(.int (1 : Int32))])) (fun t kt => ?_) ?_
  · show Steps p.tables e below (T8.setTop (mkF m 23 #[.val (.ref o0), .val (.ref rn)] [])) _
    refine XS.iconst X8.here hx rfl (hb hby d9_23) ?_
    exact kt
  exact own_end X8 hlk (v := some (.int (1 : Int32))) (fun h => by rw [Bd.returns] at h; cases h) (fun fs hr => retN X8 hx (t := .boolean) Bd.returns (by simp) (hb hby d9_24) hr) ⟨rfl, N8, (((Keep.refl h0 [o0, ea]).wr W2 (Or.inl (List.mem_of_getElem? (i := 0) rfl))).trans K8 (allS (Or.inl (List.mem_of_getElem? (i := 0) rfl)) (allS (Or.inl (List.mem_of_getElem? (i := 1) rfl)) all0))), o8_0, o8_1, o8_2, o8_3, o8_4⟩ (by decide : 0 ≤ _) (by decide : 0 ≤ _)
theorem d8_0 : decode jdk_38_method_8_code 0 = .ok (.aload_n 0, 1) := by decide +kernel
theorem d8_1 : decode jdk_38_method_8_code 1 = .ok (.getfield 48, 3) := by decide +kernel
theorem d8_4 : decode jdk_38_method_8_code 4 = .ok (.ireturn, 1) := by decide +kernel
theorem ef_rmSZ (m : MethodId) (o0 : Addr)  : entryFrame m #[(.ref o0)] 1 = mkF m 0 #[.val (.ref o0)] [] := by first |  (simp [entryFrame, mkF, argsToLocals, Value.category]; done) | rfl
def Q_rmSZ (Z : State) (o0 : Addr) (n : Int32) (h0 : Heap) (n0 : Nat) (v : Option Value) (h : Heap) (L : List Loc) : Prop := v = some (.int n) ∧ Fr n0 L ∧ h = h0
set_option maxRecDepth 65536 in
set_option maxHeartbeats 40000000 in
theorem rmSZ (l : Launch) (Z : State) (a0 : Array Value) (hw : ∀ d ∈ tables_1, d.before a0 Z = true) (ws : List Jvm.Cond) (o0 : Addr) (n : Int32) (h0 : Heap) (n0 : Nat) (Z0 : n0 ≤ h0.size) (E_o0 : Exa Z h0 o0 "java/util/ArrayList") (F_size_o0 : Fld Z h0 o0 "java/util/ArrayList" "size" "I" (.int n)) :
    MetFree l (⟨"java/util/ArrayList", "size", "()I"⟩ : MethodName) (head1 (Jvm.Cond.code (⟨"java/util/ArrayList", "size", "()I"⟩ : MethodName) jdk_38_method_8_code 1 (some .int) :: ws) ({ frames := 0, cells := 0, slots := 0, locals := 0 } : Room)) (fun a U => a = #[(.ref o0)] ∧ Z.Warmed39 U.vm ∧ U.heap = h0) (fun _ _ _ _ _ => True) (fun _ U o U' => ∃ v L, o = .returned v ∧ Q_rmSZ Z o0 n h0 n0 v U'.heap L ∧ FrameEnd U o U' L ({ frames := 0, cells := 0, slots := 0, locals := 0 } : Room).cells ({ frames := 0, cells := 0, slots := 0, locals := 0 } : Room).slots) := by
  refine MetFree.of_bodySF (plainFor_of_name pn_java_util_ArrayList) hisR ?_
  intro p e s m args below meth c s₁ Bd hml0 hP hK
  obtain ⟨rfl, hZ, hh⟩ := hP
  have hx := Bd.exec
  have hby := Bd.bytes
  have hml : c.maxLocals = 1 := hml0
  have hown : s.vm.findClass "java/util/ArrayList" = some m.cls := findClass_of_methodNamed Bd.named
  have hnm := (name_of_methodNamed Bd.named Bd.method).1
  have hlk := Bd.notSynchronized
  have X0 : Stand p l e ({ frames := 0, cells := 0, slots := 0, locals := 0 } : Room) s m #[(.ref o0)] below meth c s₁ [] 0 0 := Stand.of_body Bd
  have e0 : s₁.heap = h0 := by rw [← hh, Bd.state]; rfl
  have N0 := Fr.nil n0
  show own_G p.tables e below s (Q_rmSZ Z o0 n h0 n0) ({ frames := 0, cells := 0, slots := 0, locals := 0 } : Room).cells ({ frames := 0, cells := 0, slots := 0, locals := 0 } : Room).slots _
  refine own_thr (a := s₁.setTop (mkF m 0 #[.val (.ref o0)] [])) (fun t kt => castTop (ef_rmSZ m o0) kt) ?_
  refine own_thr (a := s₁.setTop (mkF m 1 #[.val (.ref o0)] [(.ref o0)])) (fun t kt => ?_) ?_
  · show Steps p.tables e below (s₁.setTop (mkF m 0 #[.val (.ref o0)] [])) _
    refine XS.aloadN X0.here hx rfl (hb hby d8_0) rfl rfl ?_
    exact kt
  obtain ⟨T1, X1, e1, st1⟩ := getF X0 hx hZ hown (host := "") (Or.inl (hw _ (List.mem_of_getElem? (i := 54) rfl))) Via.refl e0 F_size_o0 (g := (mkF m 1 #[.val (.ref o0)] [(.ref o0)])) rfl rfl (hb hby d8_1)
  refine own_thr (a := T1.setTop (mkF m 4 #[.val (.ref o0)] [(.int n)])) (fun t kt => st1 t kt) ?_
  exact own_end X1 hlk (v := some (.int n)) (fun h => by rw [Bd.returns] at h; cases h) (fun fs hr => retI X1 hx Bd.returns (hb hby d8_4) hr) (by rw [e1]; exact ⟨rfl, N0, rfl⟩) (by decide : 0 ≤ _) (by decide : 0 ≤ _)
theorem d16_0 : decode jdk_41_method_11_code 0 = .ok (.iload_n 0, 1) := by decide +kernel
theorem d16_1 : decode jdk_41_method_11_code 1 = .ok (.ifCond .lt 8, 3) := by decide +kernel
theorem d16_4 : decode jdk_41_method_11_code 4 = .ok (.iload_n 0, 1) := by decide +kernel
theorem d16_5 : decode jdk_41_method_11_code 5 = .ok (.iload_n 1, 1) := by decide +kernel
theorem d16_6 : decode jdk_41_method_11_code 6 = .ok (.if_icmp .lt 10, 3) := by decide +kernel
theorem d16_16 : decode jdk_41_method_11_code 16 = .ok (.iload_n 0, 1) := by decide +kernel
theorem d16_17 : decode jdk_41_method_11_code 17 = .ok (.ireturn, 1) := by decide +kernel
theorem pn_jdk_internal_util_Preconditions : plainName "jdk/internal/util/Preconditions" = true := by first | (simp [plainName, overriddenIn]; done) | decide +kernel
theorem ef_rmPN (m : MethodId) (p0 : Int32) (p1 : Int32)  : entryFrame m #[(.int p0), (.int p1), .null] 3 = mkF m 0 #[.val (.int p0), .val (.int p1), .val .null] [] := by first |  (simp [entryFrame, mkF, argsToLocals, Value.category]; done) | rfl
def Q_rmPN (Z : State) (p0 : Int32) (p1 : Int32) (h0 : Heap) (n0 : Nat) (v : Option Value) (h : Heap) (L : List Loc) : Prop := v = some (.int p0) ∧ Fr n0 L ∧ h = h0
set_option maxRecDepth 65536 in
set_option maxHeartbeats 40000000 in
theorem rmPN (l : Launch) (Z : State) (a0 : Array Value) (hw : ∀ d ∈ tables_1, d.before a0 Z = true) (ws : List Jvm.Cond) (p0 : Int32) (p1 : Int32) (h0 : Heap) (n0 : Nat) (Z0 : n0 ≤ h0.size) (hi0 : ¬ p0 < 0) (hi1 : p0 < p1) :
    MetFree l (⟨"jdk/internal/util/Preconditions", "checkIndex", "(IILjava/util/function/BiFunction;)I"⟩ : MethodName) (head1 (Jvm.Cond.code (⟨"jdk/internal/util/Preconditions", "checkIndex", "(IILjava/util/function/BiFunction;)I"⟩ : MethodName) jdk_41_method_11_code 3 (some .int) :: ws) ({ frames := 0, cells := 0, slots := 0, locals := 0 } : Room)) (fun a U => a = #[(.int p0), (.int p1), .null] ∧ Z.Warmed39 U.vm ∧ U.heap = h0) (fun _ _ _ _ _ => True) (fun _ U o U' => ∃ v L, o = .returned v ∧ Q_rmPN Z p0 p1 h0 n0 v U'.heap L ∧ FrameEnd U o U' L ({ frames := 0, cells := 0, slots := 0, locals := 0 } : Room).cells ({ frames := 0, cells := 0, slots := 0, locals := 0 } : Room).slots) := by
  refine MetFree.of_bodySF (plainFor_of_name pn_jdk_internal_util_Preconditions) hisR ?_
  intro p e s m args below meth c s₁ Bd hml0 hP hK
  obtain ⟨rfl, hZ, hh⟩ := hP
  have hx := Bd.exec
  have hby := Bd.bytes
  have hml : c.maxLocals = 3 := hml0
  have hown : s.vm.findClass "jdk/internal/util/Preconditions" = some m.cls := findClass_of_methodNamed Bd.named
  have hnm := (name_of_methodNamed Bd.named Bd.method).1
  have hlk := Bd.notSynchronized
  have X0 : Stand p l e ({ frames := 0, cells := 0, slots := 0, locals := 0 } : Room) s m #[(.int p0), (.int p1), .null] below meth c s₁ [] 0 0 := Stand.of_body Bd
  have e0 : s₁.heap = h0 := by rw [← hh, Bd.state]; rfl
  have N0 := Fr.nil n0
  show own_G p.tables e below s (Q_rmPN Z p0 p1 h0 n0) ({ frames := 0, cells := 0, slots := 0, locals := 0 } : Room).cells ({ frames := 0, cells := 0, slots := 0, locals := 0 } : Room).slots _
  refine own_thr (a := s₁.setTop (mkF m 0 #[.val (.int p0), .val (.int p1), .val .null] [])) (fun t kt => castTop (ef_rmPN m p0 p1) kt) ?_
  refine own_thr (a := s₁.setTop (mkF m 17 #[.val (.int p0), .val (.int p1), .val .null] [(.int p0)])) (fun t kt => ?_) ?_
  · show Steps p.tables e below (s₁.setTop (mkF m 0 #[.val (.int p0), .val (.int p1), .val .null] [])) _
    refine XS.iloadN X0.here hx rfl (hb hby d16_0) rfl ?_
    refine XS.ifNo X0.here hx rfl (hb hby d16_1) rfl ((if0 _ _).trans (flt hi0).1) ?_
    refine XS.iloadN X0.here hx rfl (hb hby d16_4) rfl ?_
    refine XS.iloadN X0.here hx rfl (hb hby d16_5) rfl ?_
    refine XS.icmpYes X0.here hx rfl (pc0 := 6) (pc' := 16) rfl (hb hby d16_6) rfl (tlt hi1).1 (by decide) (by decide) ?_
    refine XS.iloadN X0.here hx rfl (hb hby d16_16) rfl ?_
    exact kt
  exact own_end X0 hlk (v := some (.int p0)) (fun h => by rw [Bd.returns] at h; cases h) (fun fs hr => retI X0 hx Bd.returns (hb hby d16_17) hr) (by rw [e0]; exact ⟨rfl, N0, rfl⟩) (by decide : 0 ≤ _) (by decide : 0 ≤ _)
theorem d15_0 : decode jdk_31_method_17_code 0 = .ok (.iload_n 0, 1) := by decide +kernel
theorem d15_1 : decode jdk_31_method_17_code 1 = .ok (.iload_n 1, 1) := by decide +kernel
theorem d15_2 : decode jdk_31_method_17_code 2 = .ok (.aconst_null, 1) := by decide +kernel
theorem pd__28IILjava_2futil_2ffunction_2fBiFunction_3b_29I : parseMethodDescriptor "(IILjava/util/function/BiFunction;)I" = some ⟨[.int, .int, (.object "java/util/function/BiFunction")], some .int⟩ := by decide +kernel
theorem d15_3 : decode jdk_31_method_17_code 3 = .ok (.invokestatic 105, 3) := by decide +kernel
theorem d15_6 : decode jdk_31_method_17_code 6 = .ok (.ireturn, 1) := by decide +kernel
theorem pn_java_util_Objects : plainName "java/util/Objects" = true := by first | (simp [plainName, overriddenIn]; done) | decide +kernel
theorem ef_rmON (m : MethodId) (p0 : Int32) (p1 : Int32)  : entryFrame m #[(.int p0), (.int p1)] 2 = mkF m 0 #[.val (.int p0), .val (.int p1)] [] := by first |  (simp [entryFrame, mkF, argsToLocals, Value.category]; done) | rfl
def Q_rmON (Z : State) (p0 : Int32) (p1 : Int32) (h0 : Heap) (n0 : Nat) (v : Option Value) (h : Heap) (L : List Loc) : Prop := v = some (.int p0) ∧ Fr n0 L ∧ h = h0
set_option maxRecDepth 65536 in
set_option maxHeartbeats 40000000 in
theorem rmON (l : Launch) (Z : State) (a0 : Array Value) (hw : ∀ d ∈ tables_1, d.before a0 Z = true) (ws : List Jvm.Cond) (p0 : Int32) (p1 : Int32) (h0 : Heap) (n0 : Nat) (Z0 : n0 ≤ h0.size) (hi0 : ¬ p0 < 0) (hi1 : p0 < p1) :
    MetFree l (⟨"java/util/Objects", "checkIndex", "(II)I"⟩ : MethodName) (head1 (Jvm.Cond.code (⟨"java/util/Objects", "checkIndex", "(II)I"⟩ : MethodName) jdk_31_method_17_code 2 (some .int) :: ws) ({ frames := 1, cells := 0, slots := 0, locals := 14 } : Room)) (fun a U => a = #[(.int p0), (.int p1)] ∧ Z.Warmed39 U.vm ∧ U.heap = h0) (fun _ _ _ _ _ => True) (fun _ U o U' => ∃ v L, o = .returned v ∧ Q_rmON Z p0 p1 h0 n0 v U'.heap L ∧ FrameEnd U o U' L ({ frames := 1, cells := 0, slots := 0, locals := 14 } : Room).cells ({ frames := 1, cells := 0, slots := 0, locals := 14 } : Room).slots) := by
  refine MetFree.of_bodySF (plainFor_of_name pn_java_util_Objects) hisR ?_
  intro p e s m args below meth c s₁ Bd hml0 hP hK
  obtain ⟨rfl, hZ, hh⟩ := hP
  have hx := Bd.exec
  have hby := Bd.bytes
  have hml : c.maxLocals = 2 := hml0
  have hown : s.vm.findClass "java/util/Objects" = some m.cls := findClass_of_methodNamed Bd.named
  have hnm := (name_of_methodNamed Bd.named Bd.method).1
  have hlk := Bd.notSynchronized
  have X0 : Stand p l e ({ frames := 1, cells := 0, slots := 0, locals := 14 } : Room) s m #[(.int p0), (.int p1)] below meth c s₁ [] 0 0 := Stand.of_body Bd
  have e0 : s₁.heap = h0 := by rw [← hh, Bd.state]; rfl
  have N0 := Fr.nil n0
  show own_G p.tables e below s (Q_rmON Z p0 p1 h0 n0) ({ frames := 1, cells := 0, slots := 0, locals := 14 } : Room).cells ({ frames := 1, cells := 0, slots := 0, locals := 14 } : Room).slots _
  refine own_thr (a := s₁.setTop (mkF m 0 #[.val (.int p0), .val (.int p1)] [])) (fun t kt => castTop (ef_rmON m p0 p1) kt) ?_
  refine own_thr (a := s₁.setTop (mkF m 3 #[.val (.int p0), .val (.int p1)] [.null, (.int p1), (.int p0)])) (fun t kt => ?_) ?_
  · show Steps p.tables e below (s₁.setTop (mkF m 0 #[.val (.int p0), .val (.int p1)] [])) _
    refine XS.iloadN X0.here hx rfl (hb hby d15_0) rfl ?_
    refine XS.iloadN X0.here hx rfl (hb hby d15_1) rfl ?_
    refine XS.aconstNull X0.here hx rfl (hb hby d15_2) ?_
    exact kt
  obtain ⟨_, _, ⟨T1, L1, k1, n1⟩, -, X1, ⟨Lc1, hQ1, l1, y1, z1⟩, st1⟩ := Jvm.LawKit.callS X0 hx (y := (⟨"jdk/internal/util/Preconditions", "checkIndex", "(IILjava/util/function/BiFunction;)I"⟩ : MethodName)) hown (mvT hZ (hw _ (List.mem_of_getElem? (i := 100) rfl))) (mvT hZ (hw _ (List.mem_of_getElem? (i := 101) rfl))) (mvT hZ (hw _ (List.mem_of_getElem? (i := 102) rfl))) (mvT hZ (hw _ (List.mem_of_getElem? (i := 103) rfl))) (by decide) (backOf (W := 0) (rmPN l Z a0 hw [] p0 p1 h0 n0 Z0 hi0 hi1) hZ (hw _ (List.mem_of_getElem? (i := 103) rfl)) (hw _ (List.mem_of_getElem? (i := 102) rfl)) (by decide) (by decide)) (g := (mkF m 3 #[.val (.int p0), .val (.int p1)] [.null, (.int p1), (.int p0)])) rfl (by rw [hml]; rfl) (argsL := [(.int p0), (.int p1), .null]) (rest := []) (lenOf pd__28IILjava_2futil_2ffunction_2fBiFunction_3b_29I rfl) rfl (by show 2 * 0 + _ ≤ _; exact Nat.le_of_eq rfl) (hb hby d15_3) (fun _ _ => ⟨rfl, e0, (by decide : 0 + 0 ≤ _), (by decide : 0 + 0 ≤ _)⟩)
  dsimp only [Pt.U, Pt.locs, Pt.cells, Pt.slots] at X1 l1 y1 z1 st1 hQ1
  obtain ⟨rfl, N1q, e1⟩ := hQ1
  obtain ⟨lc1, X1, N1⟩ := own_pack X1 l1 y1 z1 N0 N1q (C := 0) (S' := 0) rfl rfl
  refine own_thr (a := T1.setTop (mkF m 6 #[.val (.int p0), .val (.int p1)] [(.int p0)])) (fun t kt => st1 t kt) ?_
  exact own_end X1 hlk (v := some (.int p0)) (fun h => by rw [Bd.returns] at h; cases h) (fun fs hr => retI X1 hx Bd.returns (hb hby d15_6) hr) (by rw [e1]; exact ⟨rfl, N1, rfl⟩) (by decide : 0 ≤ _) (by decide : 0 ≤ _)
theorem d17_0 : decode jdk_38_method_18_code 0 = .ok (.aload_n 0, 1) := by decide +kernel
theorem d17_1 : decode jdk_38_method_18_code 1 = .ok (.getfield 9, 3) := by decide +kernel
theorem d17_4 : decode jdk_38_method_18_code 4 = .ok (.iload_n 1, 1) := by decide +kernel
theorem d17_5 : decode jdk_38_method_18_code 5 = .ok (.aaload, 1) := by decide +kernel
theorem d17_6 : decode jdk_38_method_18_code 6 = .ok (.areturn, 1) := by decide +kernel
theorem ef_rmED (m : MethodId) (o0 : Addr) (p1 : Int32)  : entryFrame m #[(.ref o0), (.int p1)] 2 = mkF m 0 #[.val (.ref o0), .val (.int p1)] [] := by first |  (simp [entryFrame, mkF, argsToLocals, Value.category]; done) | rfl
def Q_rmED (Z : State) (o0 : Addr) (p1 : Int32) (ea : Addr) (ke : ClassId) (vs : List Value) (r : Addr) (h0 : Heap) (n0 : Nat) (v : Option Value) (h : Heap) (L : List Loc) : Prop := v = some (.ref r) ∧ Fr n0 L ∧ h = h0
set_option maxRecDepth 65536 in
set_option maxHeartbeats 40000000 in
theorem rmED (l : Launch) (Z : State) (a0 : Array Value) (hw : ∀ d ∈ tables_1, d.before a0 Z = true) (ws : List Jvm.Cond) (o0 : Addr) (p1 : Int32) (ea : Addr) (ke : ClassId) (vs : List Value) (r : Addr) (h0 : Heap) (n0 : Nat) (Z0 : n0 ≤ h0.size) (E_o0 : Exa Z h0 o0 "java/util/ArrayList") (F_elementData_o0 : Fld Z h0 o0 "java/util/ArrayList" "elementData" "[Ljava/lang/Object;" (.ref ea)) (V_ea : Arv Z h0 ea ke (.object "java/lang/Object") (10 : Int32) vs .null) (hi0 : ¬ p1 < 0) (hi10 : p1 < (10 : Int32)) (hg : vs.getD p1.toNatClampNeg .null = (.ref r)) :
    MetFree l (⟨"java/util/ArrayList", "elementData", "(I)Ljava/lang/Object;"⟩ : MethodName) (head1 (Jvm.Cond.code (⟨"java/util/ArrayList", "elementData", "(I)Ljava/lang/Object;"⟩ : MethodName) jdk_38_method_18_code 2 (some (.object "java/lang/Object")) :: ws) ({ frames := 0, cells := 0, slots := 0, locals := 0 } : Room)) (fun a U => a = #[(.ref o0), (.int p1)] ∧ Z.Warmed39 U.vm ∧ U.heap = h0) (fun _ _ _ _ _ => True) (fun _ U o U' => ∃ v L, o = .returned v ∧ Q_rmED Z o0 p1 ea ke vs r h0 n0 v U'.heap L ∧ FrameEnd U o U' L ({ frames := 0, cells := 0, slots := 0, locals := 0 } : Room).cells ({ frames := 0, cells := 0, slots := 0, locals := 0 } : Room).slots) := by
  refine MetFree.of_bodySF (plainFor_of_name pn_java_util_ArrayList) hisR ?_
  intro p e s m args below meth c s₁ Bd hml0 hP hK
  obtain ⟨rfl, hZ, hh⟩ := hP
  have hx := Bd.exec
  have hby := Bd.bytes
  have hml : c.maxLocals = 2 := hml0
  have hown : s.vm.findClass "java/util/ArrayList" = some m.cls := findClass_of_methodNamed Bd.named
  have hnm := (name_of_methodNamed Bd.named Bd.method).1
  have hlk := Bd.notSynchronized
  have X0 : Stand p l e ({ frames := 0, cells := 0, slots := 0, locals := 0 } : Room) s m #[(.ref o0), (.int p1)] below meth c s₁ [] 0 0 := Stand.of_body Bd
  have e0 : s₁.heap = h0 := by rw [← hh, Bd.state]; rfl
  have N0 := Fr.nil n0
  show own_G p.tables e below s (Q_rmED Z o0 p1 ea ke vs r h0 n0) ({ frames := 0, cells := 0, slots := 0, locals := 0 } : Room).cells ({ frames := 0, cells := 0, slots := 0, locals := 0 } : Room).slots _
  refine own_thr (a := s₁.setTop (mkF m 0 #[.val (.ref o0), .val (.int p1)] [])) (fun t kt => castTop (ef_rmED m o0 p1) kt) ?_
  refine own_thr (a := s₁.setTop (mkF m 1 #[.val (.ref o0), .val (.int p1)] [(.ref o0)])) (fun t kt => ?_) ?_
  · show Steps p.tables e below (s₁.setTop (mkF m 0 #[.val (.ref o0), .val (.int p1)] [])) _
    refine XS.aloadN X0.here hx rfl (hb hby d17_0) rfl rfl ?_
    exact kt
  obtain ⟨T1, X1, e1, st1⟩ := getF X0 hx hZ hown (host := "") (Or.inl (hw _ (List.mem_of_getElem? (i := 36) rfl))) Via.refl e0 F_elementData_o0 (g := (mkF m 1 #[.val (.ref o0), .val (.int p1)] [(.ref o0)])) rfl rfl (hb hby d17_1)
  refine own_thr (a := T1.setTop (mkF m 4 #[.val (.ref o0), .val (.int p1)] [(.ref ea)])) (fun t kt => st1 t kt) ?_
  refine own_thr (a := T1.setTop (mkF m 5 #[.val (.ref o0), .val (.int p1)] [(.int p1), (.ref ea)])) (fun t kt => ?_) ?_
  · show Steps p.tables e below (T1.setTop (mkF m 4 #[.val (.ref o0), .val (.int p1)] [(.ref ea)])) _
    refine XS.iloadN X1.here hx rfl (hb hby d17_4) rfl ?_
    exact kt
  obtain ⟨cl2, Ar2, -, S2, M2, H2, -⟩ := id V_ea
  have hin2 : ¬ (p1 < 0 ∨ cl2.slots.size ≤ (p1).toNatClampNeg) := inb_of S2 ⟨hi0, hi10⟩
  have hat2 : cl2.slots[(p1).toNatClampNeg]? = some (.ref r) := Has.at H2 hin2 hg
  refine own_thr (a := T1.setTop (mkF m 6 #[.val (.ref o0), .val (.int p1)] [(.ref r)])) (fun t kt => ?_) ?_
  · show Steps p.tables e below (T1.setTop (mkF m 5 #[.val (.ref o0), .val (.int p1)] [(.int p1), (.ref ea)])) _
    refine X1.aaload hx (j := p1) (v := (.ref r)) (by rw [e1]; exact Ar2.1) (State.isArrayOf_alike hZ.alike Ar2.2.1) rfl Ar2.2.2 hin2 hat2 (g := (mkF m 5 #[.val (.ref o0), .val (.int p1)] [(.int p1), (.ref ea)])) rfl rfl (hb hby d17_5) _ ?_
    exact kt
  exact own_end X1 hlk (v := some (.ref r)) (fun h => by rw [Bd.returns] at h; cases h) (fun fs hr => retA X1 hx Bd.returns rfl rfl (hb hby d17_6) hr) (by rw [e1]; exact ⟨rfl, N0, rfl⟩) (by decide : 0 ≤ _) (by decide : 0 ≤ _)
theorem d14_0 : decode jdk_38_method_20_code 0 = .ok (.iload_n 1, 1) := by decide +kernel
theorem d14_1 : decode jdk_38_method_20_code 1 = .ok (.aload_n 0, 1) := by decide +kernel
theorem d14_2 : decode jdk_38_method_20_code 2 = .ok (.getfield 48, 3) := by decide +kernel
theorem d14_5 : decode jdk_38_method_20_code 5 = .ok (.invokestatic 118, 3) := by decide +kernel
theorem d14_8 : decode jdk_38_method_20_code 8 = .ok (.pop, 1) := by decide +kernel
theorem d14_9 : decode jdk_38_method_20_code 9 = .ok (.aload_n 0, 1) := by decide +kernel
theorem d14_10 : decode jdk_38_method_20_code 10 = .ok (.iload_n 1, 1) := by decide +kernel
theorem pd__28I_29Ljava_2flang_2fObject_3b : parseMethodDescriptor "(I)Ljava/lang/Object;" = some ⟨[.int], some (.object "java/lang/Object")⟩ := by decide +kernel
theorem d14_11 : decode jdk_38_method_20_code 11 = .ok (.invokevirtual 123, 3) := by decide +kernel
theorem d14_14 : decode jdk_38_method_20_code 14 = .ok (.areturn, 1) := by decide +kernel
theorem ef_rmGE (m : MethodId) (o0 : Addr) (p1 : Int32)  : entryFrame m #[(.ref o0), (.int p1)] 2 = mkF m 0 #[.val (.ref o0), .val (.int p1)] [] := by first |  (simp [entryFrame, mkF, argsToLocals, Value.category]; done) | rfl
def Q_rmGE (Z : State) (o0 : Addr) (p1 : Int32) (ea : Addr) (ke : ClassId) (vs : List Value) (r : Addr) (n : Int32) (h0 : Heap) (n0 : Nat) (v : Option Value) (h : Heap) (L : List Loc) : Prop := v = some (.ref r) ∧ Fr n0 L ∧ h = h0
set_option maxRecDepth 65536 in
set_option maxHeartbeats 40000000 in
theorem rmGE (l : Launch) (Z : State) (a0 : Array Value) (hw : ∀ d ∈ tables_1, d.before a0 Z = true) (ws : List Jvm.Cond) (o0 : Addr) (p1 : Int32) (ea : Addr) (ke : ClassId) (vs : List Value) (r : Addr) (n : Int32) (h0 : Heap) (n0 : Nat) (Z0 : n0 ≤ h0.size) (E_o0 : Exa Z h0 o0 "java/util/ArrayList") (F_size_o0 : Fld Z h0 o0 "java/util/ArrayList" "size" "I" (.int n)) (F_elementData_o0 : Fld Z h0 o0 "java/util/ArrayList" "elementData" "[Ljava/lang/Object;" (.ref ea)) (V_ea : Arv Z h0 ea ke (.object "java/lang/Object") (10 : Int32) vs .null) (hi0 : ¬ p1 < 0) (hi10 : p1 < (10 : Int32)) (hg : vs.getD p1.toNatClampNeg .null = (.ref r)) (hi1 : p1 < n) :
    MetFree l (⟨"java/util/ArrayList", "get", "(I)Ljava/lang/Object;"⟩ : MethodName) (head1 (Jvm.Cond.code (⟨"java/util/ArrayList", "get", "(I)Ljava/lang/Object;"⟩ : MethodName) jdk_38_method_20_code 2 (some (.object "java/lang/Object")) :: ws) ({ frames := 2, cells := 0, slots := 0, locals := 27 } : Room)) (fun a U => a = #[(.ref o0), (.int p1)] ∧ Z.Warmed39 U.vm ∧ U.heap = h0) (fun _ _ _ _ _ => True) (fun _ U o U' => ∃ v L, o = .returned v ∧ Q_rmGE Z o0 p1 ea ke vs r n h0 n0 v U'.heap L ∧ FrameEnd U o U' L ({ frames := 2, cells := 0, slots := 0, locals := 27 } : Room).cells ({ frames := 2, cells := 0, slots := 0, locals := 27 } : Room).slots) := by
  refine MetFree.of_bodySF (plainFor_of_name pn_java_util_ArrayList) hisR ?_
  intro p e s m args below meth c s₁ Bd hml0 hP hK
  obtain ⟨rfl, hZ, hh⟩ := hP
  have hx := Bd.exec
  have hby := Bd.bytes
  have hml : c.maxLocals = 2 := hml0
  have hown : s.vm.findClass "java/util/ArrayList" = some m.cls := findClass_of_methodNamed Bd.named
  have hnm := (name_of_methodNamed Bd.named Bd.method).1
  have hlk := Bd.notSynchronized
  have X0 : Stand p l e ({ frames := 2, cells := 0, slots := 0, locals := 27 } : Room) s m #[(.ref o0), (.int p1)] below meth c s₁ [] 0 0 := Stand.of_body Bd
  have e0 : s₁.heap = h0 := by rw [← hh, Bd.state]; rfl
  have N0 := Fr.nil n0
  show own_G p.tables e below s (Q_rmGE Z o0 p1 ea ke vs r n h0 n0) ({ frames := 2, cells := 0, slots := 0, locals := 27 } : Room).cells ({ frames := 2, cells := 0, slots := 0, locals := 27 } : Room).slots _
  refine own_thr (a := s₁.setTop (mkF m 0 #[.val (.ref o0), .val (.int p1)] [])) (fun t kt => castTop (ef_rmGE m o0 p1) kt) ?_
  refine own_thr (a := s₁.setTop (mkF m 2 #[.val (.ref o0), .val (.int p1)] [(.ref o0), (.int p1)])) (fun t kt => ?_) ?_
  · show Steps p.tables e below (s₁.setTop (mkF m 0 #[.val (.ref o0), .val (.int p1)] [])) _
    refine XS.iloadN X0.here hx rfl (hb hby d14_0) rfl ?_
    refine XS.aloadN X0.here hx rfl (hb hby d14_1) rfl rfl ?_
    exact kt
  obtain ⟨T1, X1, e1, st1⟩ := getF X0 hx hZ hown (host := "") (Or.inl (hw _ (List.mem_of_getElem? (i := 54) rfl))) Via.refl e0 F_size_o0 (g := (mkF m 2 #[.val (.ref o0), .val (.int p1)] [(.ref o0), (.int p1)])) rfl rfl (hb hby d14_2)
  refine own_thr (a := T1.setTop (mkF m 5 #[.val (.ref o0), .val (.int p1)] [(.int n), (.int p1)])) (fun t kt => st1 t kt) ?_
  obtain ⟨_, _, ⟨T2, L2, k2, n2⟩, -, X2, ⟨Lc2, hQ2, l2, y2, z2⟩, st2⟩ := Jvm.LawKit.callS X1 hx (y := (⟨"java/util/Objects", "checkIndex", "(II)I"⟩ : MethodName)) hown (mvT hZ (hw _ (List.mem_of_getElem? (i := 96) rfl))) (mvT hZ (hw _ (List.mem_of_getElem? (i := 97) rfl))) (mvT hZ (hw _ (List.mem_of_getElem? (i := 98) rfl))) (mvT hZ (hw _ (List.mem_of_getElem? (i := 99) rfl))) (by decide) (backOf (W := 0) (rmON l Z a0 hw [] p1 n h0 n0 Z0 hi0 hi1) hZ (hw _ (List.mem_of_getElem? (i := 99) rfl)) (hw _ (List.mem_of_getElem? (i := 98) rfl)) (by decide) (by decide)) (g := (mkF m 5 #[.val (.ref o0), .val (.int p1)] [(.int n), (.int p1)])) rfl (by rw [hml]; rfl) (argsL := [(.int p1), (.int n)]) (rest := []) (lenOf pd__28II_29I rfl) rfl (by show 2 * 0 + _ ≤ _; exact Nat.le_of_eq rfl) (hb hby d14_5) (fun _ _ => ⟨rfl, e1, (by decide : 0 + 0 ≤ _), (by decide : 0 + 0 ≤ _)⟩)
  dsimp only [Pt.U, Pt.locs, Pt.cells, Pt.slots] at X2 l2 y2 z2 st2 hQ2
  obtain ⟨rfl, N2q, e2⟩ := hQ2
  obtain ⟨lc2, X2, N2⟩ := own_pack X2 l2 y2 z2 N0 N2q (C := 0) (S' := 0) rfl rfl
  refine own_thr (a := T2.setTop (mkF m 8 #[.val (.ref o0), .val (.int p1)] [(.int p1)])) (fun t kt => st2 t kt) ?_
  refine own_thr (a := T2.setTop (mkF m 11 #[.val (.ref o0), .val (.int p1)] [(.int p1), (.ref o0)])) (fun t kt => ?_) ?_
  · show Steps p.tables e below (T2.setTop (mkF m 8 #[.val (.ref o0), .val (.int p1)] [(.int p1)])) _
    refine XS.pop X2.here hx rfl (hb hby d14_8) rfl rfl ?_
    refine XS.aloadN X2.here hx rfl (hb hby d14_9) rfl rfl ?_
    refine XS.iloadN X2.here hx rfl (hb hby d14_10) rfl ?_
    exact kt
  obtain ⟨cq3, kq3, q3a, q3b, q3c⟩ := isOf hZ e2 E_o0
  obtain ⟨_, _, ⟨T3, L3, k3, n3⟩, -, X3, ⟨Lc3, hQ3, l3, y3, z3⟩, st3⟩ := X2.virtualBack hx (y := (⟨"java/util/ArrayList", "elementData", "(I)Ljava/lang/Object;"⟩ : MethodName)) (z := (⟨"java/util/ArrayList", "elementData", "(I)Ljava/lang/Object;"⟩ : MethodName)) hown (mvT hZ (hw _ (List.mem_of_getElem? (i := 104) rfl))) (mvT hZ (hw _ (List.mem_of_getElem? (i := 105) rfl))) (notFace_of_selects (args := #[]) (mvT hZ (hw _ (List.mem_of_getElem? (i := 107) rfl)))) (mvT hZ (hw _ (List.mem_of_getElem? (i := 107) rfl))) (mvT hZ (hw _ (List.mem_of_getElem? (i := 106) rfl))) (by decide) (backOf (W := 0) (rmED l Z a0 hw [] o0 p1 ea ke vs r h0 n0 Z0 E_o0 F_elementData_o0 V_ea hi0 hi10 hg) hZ (hw _ (List.mem_of_getElem? (i := 108) rfl)) (hw _ (List.mem_of_getElem? (i := 14) rfl)) (by decide) (by decide)) q3a q3c (g := (mkF m 11 #[.val (.ref o0), .val (.int p1)] [(.int p1), (.ref o0)])) rfl (by rw [hml]; rfl) (Steps.refl _) (argsL := [(.int p1)]) (rest := []) (lenOf pd__28I_29Ljava_2flang_2fObject_3b rfl) rfl (by show 2 * 0 + _ ≤ _; exact Nat.le_of_eq rfl) (hb hby d14_11) (fun _ _ => ⟨rfl, e2, (by decide : 0 + 0 ≤ _), (by decide : 0 + 0 ≤ _)⟩)
  dsimp only [Pt.U, Pt.locs, Pt.cells, Pt.slots] at X3 l3 y3 z3 st3 hQ3
  obtain ⟨rfl, N3q, e3⟩ := hQ3
  obtain ⟨lc3, X3, N3⟩ := own_pack X3 l3 y3 z3 N2 N3q (C := 0) (S' := 0) rfl rfl
  refine own_thr (a := T3.setTop (mkF m 14 #[.val (.ref o0), .val (.int p1)] [(.ref r)])) (fun t kt => st3.trans kt) ?_
  exact own_end X3 hlk (v := some (.ref r)) (fun h => by rw [Bd.returns] at h; cases h) (fun fs hr => retA X3 hx Bd.returns rfl rfl (hb hby d14_14) hr) (by rw [e3]; exact ⟨rfl, N3, rfl⟩) (by decide : 0 ≤ _) (by decide : 0 ≤ _)
theorem d20_0 : decode jdk_42_method_152_code 0 = .ok (.getstatic 38, 3) := by decide +kernel
theorem d20_3 : decode jdk_42_method_152_code 3 = .ok (.ifCond .eq 10, 3) := by decide +kernel
theorem d20_6 : decode jdk_42_method_152_code 6 = .ok (.aload_n 0, 1) := by decide +kernel
theorem d20_7 : decode jdk_42_method_152_code 7 = .ok (.getfield 15, 3) := by decide +kernel
theorem d20_10 : decode jdk_42_method_152_code 10 = .ok (.goto 4, 3) := by decide +kernel
theorem d20_14 : decode jdk_42_method_152_code 14 = .ok (.ireturn, 1) := by decide +kernel
theorem ef_rmCO (m : MethodId) (o0 : Addr)  : entryFrame m #[(.ref o0)] 1 = mkF m 0 #[.val (.ref o0)] [] := by first |  (simp [entryFrame, mkF, argsToLocals, Value.category]; done) | rfl
def Q_rmCO (Z : State) (o0 : Addr) (cs : Int32) (h0 : Heap) (n0 : Nat) (v : Option Value) (h : Heap) (L : List Loc) : Prop := v = some (.int (0 : Int32)) ∧ Fr n0 L ∧ h = h0
set_option maxRecDepth 65536 in
set_option maxHeartbeats 40000000 in
theorem rmCO (l : Launch) (Z : State) (a0 : Array Value) (hw : ∀ d ∈ tables_1, d.before a0 Z = true) (ws : List Jvm.Cond) (o0 : Addr) (cs : Int32) (h0 : Heap) (n0 : Nat) (Z0 : n0 ≤ h0.size) (E_o0 : Exa Z h0 o0 "java/lang/String") (F_coder_o0 : Fld Z h0 o0 "java/lang/String" "coder" "B" (.int (0 : Int32))) (S_COMPACT_STRINGS : Sta Z h0 "java/lang/String" "COMPACT_STRINGS" "Z" (.int cs)) (hcs : ¬ cs = (0 : Int32)) :
    MetFree l (⟨"java/lang/String", "coder", "()B"⟩ : MethodName) (head1 (Jvm.Cond.code (⟨"java/lang/String", "coder", "()B"⟩ : MethodName) jdk_42_method_152_code 1 (some .byte) :: ws) ({ frames := 0, cells := 0, slots := 0, locals := 0 } : Room)) (fun a U => a = #[(.ref o0)] ∧ Z.Warmed39 U.vm ∧ U.heap = h0) (fun _ _ _ _ _ => True) (fun _ U o U' => ∃ v L, o = .returned v ∧ Q_rmCO Z o0 cs h0 n0 v U'.heap L ∧ FrameEnd U o U' L ({ frames := 0, cells := 0, slots := 0, locals := 0 } : Room).cells ({ frames := 0, cells := 0, slots := 0, locals := 0 } : Room).slots) := by
  refine MetFree.of_bodySF (plainFor_of_name pn_java_lang_String) hisR ?_
  intro p e s m args below meth c s₁ Bd hml0 hP hK
  obtain ⟨rfl, hZ, hh⟩ := hP
  have hx := Bd.exec
  have hby := Bd.bytes
  have hml : c.maxLocals = 1 := hml0
  have hown : s.vm.findClass "java/lang/String" = some m.cls := findClass_of_methodNamed Bd.named
  have hnm := (name_of_methodNamed Bd.named Bd.method).1
  have hlk := Bd.notSynchronized
  have X0 : Stand p l e ({ frames := 0, cells := 0, slots := 0, locals := 0 } : Room) s m #[(.ref o0)] below meth c s₁ [] 0 0 := Stand.of_body Bd
  have e0 : s₁.heap = h0 := by rw [← hh, Bd.state]; rfl
  have N0 := Fr.nil n0
  show own_G p.tables e below s (Q_rmCO Z o0 cs h0 n0) ({ frames := 0, cells := 0, slots := 0, locals := 0 } : Room).cells ({ frames := 0, cells := 0, slots := 0, locals := 0 } : Room).slots _
  refine own_thr (a := s₁.setTop (mkF m 0 #[.val (.ref o0)] [])) (fun t kt => castTop (ef_rmCO m o0) kt) ?_
  obtain ⟨T1, X1, e1, st1⟩ := getS2 X0 hx hZ hown (host := "") (Or.inl (hw _ (List.mem_of_getElem? (i := 126) rfl))) Via.refl e0 S_COMPACT_STRINGS (g := (mkF m 0 #[.val (.ref o0)] [])) rfl (hb hby d20_0)
  refine own_thr (a := T1.setTop (mkF m 3 #[.val (.ref o0)] [(.int cs)])) (fun t kt => st1 t kt) ?_
  refine own_thr (a := T1.setTop (mkF m 7 #[.val (.ref o0)] [(.ref o0)])) (fun t kt => ?_) ?_
  · show Steps p.tables e below (T1.setTop (mkF m 3 #[.val (.ref o0)] [(.int cs)])) _
    refine XS.ifNo X1.here hx rfl (hb hby d20_3) rfl ((if0 _ _).trans (feq hcs).1) ?_
    refine XS.aloadN X1.here hx rfl (hb hby d20_6) rfl rfl ?_
    exact kt
  obtain ⟨T2, X2, e2, st2⟩ := getF X1 hx hZ hown (host := "") (Or.inl (hw _ (List.mem_of_getElem? (i := 127) rfl))) Via.refl e1 F_coder_o0 (g := (mkF m 7 #[.val (.ref o0)] [(.ref o0)])) rfl rfl (hb hby d20_7)
  refine own_thr (a := T2.setTop (mkF m 10 #[.val (.ref o0)] [(.int (0 : Int32))])) (fun t kt => st2 t kt) ?_
  refine own_thr (a := T2.setTop (mkF m 14 #[.val (.ref o0)] [(.int (0 : Int32))])) (fun t kt => ?_) ?_
  · show Steps p.tables e below (T2.setTop (mkF m 10 #[.val (.ref o0)] [(.int (0 : Int32))])) _
    refine XS.goto X2.here hx rfl (pc0 := 10) (pc' := 14) rfl (hb hby d20_10) (by decide) (by decide) ?_
    exact kt
  exact own_end X2 hlk (v := some (.int (0 : Int32))) (fun h => by rw [Bd.returns] at h; cases h) (fun fs hr => retN X2 hx (t := .byte) Bd.returns (by simp) (hb hby d20_14) hr) (by rw [e2]; exact ⟨rfl, N0, rfl⟩) (by decide : 0 ≤ _) (by decide : 0 ≤ _)
theorem d27_0 : decode jdk_42_method_154_code 0 = .ok (.getstatic 38, 3) := by decide +kernel
theorem d27_3 : decode jdk_42_method_154_code 3 = .ok (.ifCond .eq 14, 3) := by decide +kernel
theorem d27_6 : decode jdk_42_method_154_code 6 = .ok (.aload_n 0, 1) := by decide +kernel
theorem d27_7 : decode jdk_42_method_154_code 7 = .ok (.getfield 15, 3) := by decide +kernel
theorem d27_10 : decode jdk_42_method_154_code 10 = .ok (.ifCond .ne 7, 3) := by decide +kernel
theorem d27_13 : decode jdk_42_method_154_code 13 = .ok (.iconst 1, 1) := by decide +kernel
theorem d27_14 : decode jdk_42_method_154_code 14 = .ok (.goto 4, 3) := by decide +kernel
theorem d27_18 : decode jdk_42_method_154_code 18 = .ok (.ireturn, 1) := by decide +kernel
theorem ef_rmIL (m : MethodId) (o0 : Addr)  : entryFrame m #[(.ref o0)] 1 = mkF m 0 #[.val (.ref o0)] [] := by first |  (simp [entryFrame, mkF, argsToLocals, Value.category]; done) | rfl
def Q_rmIL (Z : State) (o0 : Addr) (cs : Int32) (h0 : Heap) (n0 : Nat) (v : Option Value) (h : Heap) (L : List Loc) : Prop := v = some (.int (1 : Int32)) ∧ Fr n0 L ∧ h = h0
set_option maxRecDepth 65536 in
set_option maxHeartbeats 40000000 in
theorem rmIL (l : Launch) (Z : State) (a0 : Array Value) (hw : ∀ d ∈ tables_1, d.before a0 Z = true) (ws : List Jvm.Cond) (o0 : Addr) (cs : Int32) (h0 : Heap) (n0 : Nat) (Z0 : n0 ≤ h0.size) (E_o0 : Exa Z h0 o0 "java/lang/String") (F_coder_o0 : Fld Z h0 o0 "java/lang/String" "coder" "B" (.int (0 : Int32))) (S_COMPACT_STRINGS : Sta Z h0 "java/lang/String" "COMPACT_STRINGS" "Z" (.int cs)) (hcs : ¬ cs = (0 : Int32)) :
    MetFree l (⟨"java/lang/String", "isLatin1", "()Z"⟩ : MethodName) (head1 (Jvm.Cond.code (⟨"java/lang/String", "isLatin1", "()Z"⟩ : MethodName) jdk_42_method_154_code 1 (some .boolean) :: ws) ({ frames := 0, cells := 0, slots := 0, locals := 0 } : Room)) (fun a U => a = #[(.ref o0)] ∧ Z.Warmed39 U.vm ∧ U.heap = h0) (fun _ _ _ _ _ => True) (fun _ U o U' => ∃ v L, o = .returned v ∧ Q_rmIL Z o0 cs h0 n0 v U'.heap L ∧ FrameEnd U o U' L ({ frames := 0, cells := 0, slots := 0, locals := 0 } : Room).cells ({ frames := 0, cells := 0, slots := 0, locals := 0 } : Room).slots) := by
  refine MetFree.of_bodySF (plainFor_of_name pn_java_lang_String) hisR ?_
  intro p e s m args below meth c s₁ Bd hml0 hP hK
  obtain ⟨rfl, hZ, hh⟩ := hP
  have hx := Bd.exec
  have hby := Bd.bytes
  have hml : c.maxLocals = 1 := hml0
  have hown : s.vm.findClass "java/lang/String" = some m.cls := findClass_of_methodNamed Bd.named
  have hnm := (name_of_methodNamed Bd.named Bd.method).1
  have hlk := Bd.notSynchronized
  have X0 : Stand p l e ({ frames := 0, cells := 0, slots := 0, locals := 0 } : Room) s m #[(.ref o0)] below meth c s₁ [] 0 0 := Stand.of_body Bd
  have e0 : s₁.heap = h0 := by rw [← hh, Bd.state]; rfl
  have N0 := Fr.nil n0
  show own_G p.tables e below s (Q_rmIL Z o0 cs h0 n0) ({ frames := 0, cells := 0, slots := 0, locals := 0 } : Room).cells ({ frames := 0, cells := 0, slots := 0, locals := 0 } : Room).slots _
  refine own_thr (a := s₁.setTop (mkF m 0 #[.val (.ref o0)] [])) (fun t kt => castTop (ef_rmIL m o0) kt) ?_
  obtain ⟨T1, X1, e1, st1⟩ := getS2 X0 hx hZ hown (host := "") (Or.inl (hw _ (List.mem_of_getElem? (i := 126) rfl))) Via.refl e0 S_COMPACT_STRINGS (g := (mkF m 0 #[.val (.ref o0)] [])) rfl (hb hby d27_0)
  refine own_thr (a := T1.setTop (mkF m 3 #[.val (.ref o0)] [(.int cs)])) (fun t kt => st1 t kt) ?_
  refine own_thr (a := T1.setTop (mkF m 7 #[.val (.ref o0)] [(.ref o0)])) (fun t kt => ?_) ?_
  · show Steps p.tables e below (T1.setTop (mkF m 3 #[.val (.ref o0)] [(.int cs)])) _
    refine XS.ifNo X1.here hx rfl (hb hby d27_3) rfl ((if0 _ _).trans (feq hcs).1) ?_
    refine XS.aloadN X1.here hx rfl (hb hby d27_6) rfl rfl ?_
    exact kt
  obtain ⟨T2, X2, e2, st2⟩ := getF X1 hx hZ hown (host := "") (Or.inl (hw _ (List.mem_of_getElem? (i := 127) rfl))) Via.refl e1 F_coder_o0 (g := (mkF m 7 #[.val (.ref o0)] [(.ref o0)])) rfl rfl (hb hby d27_7)
  refine own_thr (a := T2.setTop (mkF m 10 #[.val (.ref o0)] [(.int (0 : Int32))])) (fun t kt => st2 t kt) ?_
  refine own_thr (a := T2.setTop (mkF m 18 #[.val (.ref o0)] [(.int (1 : Int32))])) (fun t kt => ?_) ?_
  · show Steps p.tables e below (T2.setTop (mkF m 10 #[.val (.ref o0)] [(.int (0 : Int32))])) _
    refine XS.ifNo X2.here hx rfl (hb hby d27_10) rfl ((if0 _ _).trans (teq rfl).2) ?_
    refine XS.iconst X2.here hx rfl (hb hby d27_13) ?_
    refine XS.goto X2.here hx rfl (pc0 := 14) (pc' := 18) rfl (hb hby d27_14) (by decide) (by decide) ?_
    exact kt
  exact own_end X2 hlk (v := some (.int (1 : Int32))) (fun h => by rw [Bd.returns] at h; cases h) (fun fs hr => retN X2 hx (t := .boolean) Bd.returns (by simp) (hb hby d27_18) hr) (by rw [e2]; exact ⟨rfl, N0, rfl⟩) (by decide : 0 ≤ _) (by decide : 0 ≤ _)
theorem ef_rmPC (m : MethodId) (p0 : Int32) (p1 : Int32) (fm : Value) (hfm : fm.isRef = true) : entryFrame m #[(.int p0), (.int p1), fm] 3 = mkF m 0 #[.val (.int p0), .val (.int p1), .val fm] [] := by first | (rcases ref_cases hfm with rfl | ⟨zfm, rfl⟩ <;> simp [entryFrame, mkF, argsToLocals, Value.category]; done) |  (simp [entryFrame, mkF, argsToLocals, Value.category]; done) | rfl
def Q_rmPC (Z : State) (p0 : Int32) (p1 : Int32) (fm : Value) (h0 : Heap) (n0 : Nat) (v : Option Value) (h : Heap) (L : List Loc) : Prop := v = some (.int p0) ∧ Fr n0 L ∧ h = h0
set_option maxRecDepth 65536 in
set_option maxHeartbeats 40000000 in
theorem rmPC (l : Launch) (Z : State) (a0 : Array Value) (hw : ∀ d ∈ tables_1, d.before a0 Z = true) (ws : List Jvm.Cond) (p0 : Int32) (p1 : Int32) (fm : Value) (h0 : Heap) (n0 : Nat) (Z0 : n0 ≤ h0.size) (hfm : fm.isRef = true) (hi0 : ¬ p0 < 0) (hi1 : p0 < p1) :
    MetFree l (⟨"jdk/internal/util/Preconditions", "checkIndex", "(IILjava/util/function/BiFunction;)I"⟩ : MethodName) (head1 (Jvm.Cond.code (⟨"jdk/internal/util/Preconditions", "checkIndex", "(IILjava/util/function/BiFunction;)I"⟩ : MethodName) jdk_41_method_11_code 3 (some .int) :: ws) ({ frames := 0, cells := 0, slots := 0, locals := 0 } : Room)) (fun a U => a = #[(.int p0), (.int p1), fm] ∧ Z.Warmed39 U.vm ∧ U.heap = h0) (fun _ _ _ _ _ => True) (fun _ U o U' => ∃ v L, o = .returned v ∧ Q_rmPC Z p0 p1 fm h0 n0 v U'.heap L ∧ FrameEnd U o U' L ({ frames := 0, cells := 0, slots := 0, locals := 0 } : Room).cells ({ frames := 0, cells := 0, slots := 0, locals := 0 } : Room).slots) := by
  refine MetFree.of_bodySF (plainFor_of_name pn_jdk_internal_util_Preconditions) hisR ?_
  intro p e s m args below meth c s₁ Bd hml0 hP hK
  obtain ⟨rfl, hZ, hh⟩ := hP
  have hx := Bd.exec
  have hby := Bd.bytes
  have hml : c.maxLocals = 3 := hml0
  have hown : s.vm.findClass "jdk/internal/util/Preconditions" = some m.cls := findClass_of_methodNamed Bd.named
  have hnm := (name_of_methodNamed Bd.named Bd.method).1
  have hlk := Bd.notSynchronized
  have X0 : Stand p l e ({ frames := 0, cells := 0, slots := 0, locals := 0 } : Room) s m #[(.int p0), (.int p1), fm] below meth c s₁ [] 0 0 := Stand.of_body Bd
  have e0 : s₁.heap = h0 := by rw [← hh, Bd.state]; rfl
  have N0 := Fr.nil n0
  show own_G p.tables e below s (Q_rmPC Z p0 p1 fm h0 n0) ({ frames := 0, cells := 0, slots := 0, locals := 0 } : Room).cells ({ frames := 0, cells := 0, slots := 0, locals := 0 } : Room).slots _
  refine own_thr (a := s₁.setTop (mkF m 0 #[.val (.int p0), .val (.int p1), .val fm] [])) (fun t kt => castTop (ef_rmPC m p0 p1 fm hfm) kt) ?_
  refine own_thr (a := s₁.setTop (mkF m 17 #[.val (.int p0), .val (.int p1), .val fm] [(.int p0)])) (fun t kt => ?_) ?_
  · show Steps p.tables e below (s₁.setTop (mkF m 0 #[.val (.int p0), .val (.int p1), .val fm] [])) _
    refine XS.iloadN X0.here hx rfl (hb hby d16_0) rfl ?_
    refine XS.ifNo X0.here hx rfl (hb hby d16_1) rfl ((if0 _ _).trans (flt hi0).1) ?_
    refine XS.iloadN X0.here hx rfl (hb hby d16_4) rfl ?_
    refine XS.iloadN X0.here hx rfl (hb hby d16_5) rfl ?_
    refine XS.icmpYes X0.here hx rfl (pc0 := 6) (pc' := 16) rfl (hb hby d16_6) rfl (tlt hi1).1 (by decide) (by decide) ?_
    refine XS.iloadN X0.here hx rfl (hb hby d16_16) rfl ?_
    exact kt
  exact own_end X0 hlk (v := some (.int p0)) (fun h => by rw [Bd.returns] at h; cases h) (fun fs hr => retI X0 hx Bd.returns (hb hby d16_17) hr) (by rw [e0]; exact ⟨rfl, N0, rfl⟩) (by decide : 0 ≤ _) (by decide : 0 ≤ _)
theorem d28_0 : decode jdk_42_method_155_code 0 = .ok (.iload_n 0, 1) := by decide +kernel
theorem d28_1 : decode jdk_42_method_155_code 1 = .ok (.iload_n 1, 1) := by decide +kernel
theorem d28_2 : decode jdk_42_method_155_code 2 = .ok (.getstatic 1053, 3) := by decide +kernel
theorem d28_5 : decode jdk_42_method_155_code 5 = .ok (.invokestatic 1059, 3) := by decide +kernel
theorem d28_8 : decode jdk_42_method_155_code 8 = .ok (.pop, 1) := by decide +kernel
theorem d28_9 : decode jdk_42_method_155_code 9 = .ok (.return_, 1) := by decide +kernel
theorem ef_rmCI (m : MethodId) (p0 : Int32) (p1 : Int32)  : entryFrame m #[(.int p0), (.int p1)] 2 = mkF m 0 #[.val (.int p0), .val (.int p1)] [] := by first |  (simp [entryFrame, mkF, argsToLocals, Value.category]; done) | rfl
def Q_rmCI (Z : State) (p0 : Int32) (p1 : Int32) (fm : Value) (h0 : Heap) (n0 : Nat) (v : Option Value) (h : Heap) (L : List Loc) : Prop := v = none ∧ Fr n0 L ∧ h = h0
set_option maxRecDepth 65536 in
set_option maxHeartbeats 40000000 in
theorem rmCI (l : Launch) (Z : State) (a0 : Array Value) (hw : ∀ d ∈ tables_1, d.before a0 Z = true) (ws : List Jvm.Cond) (p0 : Int32) (p1 : Int32) (fm : Value) (h0 : Heap) (n0 : Nat) (Z0 : n0 ≤ h0.size) (S_SIOOBE_FORMATTER : Sta Z h0 "jdk/internal/util/Preconditions" "SIOOBE_FORMATTER" "Ljava/util/function/BiFunction;" fm) (hfm : fm.isRef = true) (hi0 : ¬ p0 < 0) (hi1 : p0 < p1) :
    MetFree l (⟨"java/lang/String", "checkIndex", "(II)V"⟩ : MethodName) (head1 (Jvm.Cond.code (⟨"java/lang/String", "checkIndex", "(II)V"⟩ : MethodName) jdk_42_method_155_code 2 none :: ws) ({ frames := 1, cells := 0, slots := 0, locals := 14 } : Room)) (fun a U => a = #[(.int p0), (.int p1)] ∧ Z.Warmed39 U.vm ∧ U.heap = h0) (fun _ _ _ _ _ => True) (fun _ U o U' => ∃ v L, o = .returned v ∧ Q_rmCI Z p0 p1 fm h0 n0 v U'.heap L ∧ FrameEnd U o U' L ({ frames := 1, cells := 0, slots := 0, locals := 14 } : Room).cells ({ frames := 1, cells := 0, slots := 0, locals := 14 } : Room).slots) := by
  refine MetFree.of_bodySF (plainFor_of_name pn_java_lang_String) hisR ?_
  intro p e s m args below meth c s₁ Bd hml0 hP hK
  obtain ⟨rfl, hZ, hh⟩ := hP
  have hx := Bd.exec
  have hby := Bd.bytes
  have hml : c.maxLocals = 2 := hml0
  have hown : s.vm.findClass "java/lang/String" = some m.cls := findClass_of_methodNamed Bd.named
  have hnm := (name_of_methodNamed Bd.named Bd.method).1
  have hlk := Bd.notSynchronized
  have X0 : Stand p l e ({ frames := 1, cells := 0, slots := 0, locals := 14 } : Room) s m #[(.int p0), (.int p1)] below meth c s₁ [] 0 0 := Stand.of_body Bd
  have e0 : s₁.heap = h0 := by rw [← hh, Bd.state]; rfl
  have N0 := Fr.nil n0
  show own_G p.tables e below s (Q_rmCI Z p0 p1 fm h0 n0) ({ frames := 1, cells := 0, slots := 0, locals := 14 } : Room).cells ({ frames := 1, cells := 0, slots := 0, locals := 14 } : Room).slots _
  refine own_thr (a := s₁.setTop (mkF m 0 #[.val (.int p0), .val (.int p1)] [])) (fun t kt => castTop (ef_rmCI m p0 p1) kt) ?_
  refine own_thr (a := s₁.setTop (mkF m 2 #[.val (.int p0), .val (.int p1)] [(.int p1), (.int p0)])) (fun t kt => ?_) ?_
  · show Steps p.tables e below (s₁.setTop (mkF m 0 #[.val (.int p0), .val (.int p1)] [])) _
    refine XS.iloadN X0.here hx rfl (hb hby d28_0) rfl ?_
    refine XS.iloadN X0.here hx rfl (hb hby d28_1) rfl ?_
    exact kt
  obtain ⟨T1, X1, e1, st1⟩ := getS2 X0 hx hZ hown (host := "") (Or.inl (hw _ (List.mem_of_getElem? (i := 160) rfl))) Via.refl e0 S_SIOOBE_FORMATTER (g := (mkF m 2 #[.val (.int p0), .val (.int p1)] [(.int p1), (.int p0)])) rfl (hb hby d28_2)
  refine own_thr (a := T1.setTop (mkF m 5 #[.val (.int p0), .val (.int p1)] [fm, (.int p1), (.int p0)])) (fun t kt => st1 t kt) ?_
  obtain ⟨_, _, ⟨T2, L2, k2, n2⟩, -, X2, ⟨Lc2, hQ2, l2, y2, z2⟩, st2⟩ := Jvm.LawKit.callS X1 hx (y := (⟨"jdk/internal/util/Preconditions", "checkIndex", "(IILjava/util/function/BiFunction;)I"⟩ : MethodName)) hown (mvT hZ (hw _ (List.mem_of_getElem? (i := 161) rfl))) (mvT hZ (hw _ (List.mem_of_getElem? (i := 101) rfl))) (mvT hZ (hw _ (List.mem_of_getElem? (i := 102) rfl))) (mvT hZ (hw _ (List.mem_of_getElem? (i := 103) rfl))) (by decide) (backOf (W := 0) (rmPC l Z a0 hw [] p0 p1 fm h0 n0 Z0 hfm hi0 hi1) hZ (hw _ (List.mem_of_getElem? (i := 103) rfl)) (hw _ (List.mem_of_getElem? (i := 102) rfl)) (by decide) (by decide)) (g := (mkF m 5 #[.val (.int p0), .val (.int p1)] [fm, (.int p1), (.int p0)])) rfl (by rw [hml]; rfl) (argsL := [(.int p0), (.int p1), fm]) (rest := []) (lenOf pd__28IILjava_2futil_2ffunction_2fBiFunction_3b_29I rfl) rfl (by show 2 * 0 + _ ≤ _; exact Nat.le_of_eq rfl) (hb hby d28_5) (fun _ _ => ⟨rfl, e1, (by decide : 0 + 0 ≤ _), (by decide : 0 + 0 ≤ _)⟩)
  dsimp only [Pt.U, Pt.locs, Pt.cells, Pt.slots] at X2 l2 y2 z2 st2 hQ2
  obtain ⟨rfl, N2q, e2⟩ := hQ2
  obtain ⟨lc2, X2, N2⟩ := own_pack X2 l2 y2 z2 N0 N2q (C := 0) (S' := 0) rfl rfl
  refine own_thr (a := T2.setTop (mkF m 8 #[.val (.int p0), .val (.int p1)] [(.int p0)])) (fun t kt => st2 t kt) ?_
  refine own_thr (a := T2.setTop (mkF m 9 #[.val (.int p0), .val (.int p1)] [])) (fun t kt => ?_) ?_
  · show Steps p.tables e below (T2.setTop (mkF m 8 #[.val (.int p0), .val (.int p1)] [(.int p0)])) _
    refine XS.pop X2.here hx rfl (hb hby d28_8) rfl rfl ?_
    exact kt
  exact own_end X2 hlk (v := none) (fun _ => rfl) (fun fs hr => X2.returnOut hx Bd.returns (hb hby d28_9) hr) (by rw [e2]; exact ⟨rfl, N2, rfl⟩) (by decide : 0 ≤ _) (by decide : 0 ≤ _)
theorem d19_0 : decode jdk_42_method_54_code 0 = .ok (.aload_n 0, 1) := by decide +kernel
theorem d19_1 : decode jdk_42_method_54_code 1 = .ok (.getfield 9, 3) := by decide +kernel
theorem d19_4 : decode jdk_42_method_54_code 4 = .ok (.arraylength, 1) := by decide +kernel
theorem d19_5 : decode jdk_42_method_54_code 5 = .ok (.aload_n 0, 1) := by decide +kernel
theorem pd__28_29B : parseMethodDescriptor "()B" = some ⟨[], some .byte⟩ := by decide +kernel
theorem d19_6 : decode jdk_42_method_54_code 6 = .ok (.invokevirtual 335, 3) := by decide +kernel
theorem d19_9 : decode jdk_42_method_54_code 9 = .ok (.ishr, 1) := by decide +kernel
theorem d19_10 : decode jdk_42_method_54_code 10 = .ok (.ireturn, 1) := by decide +kernel
theorem ef_rmLN0 (m : MethodId) (o0 : Addr)  : entryFrame m #[(.ref o0)] 1 = mkF m 0 #[.val (.ref o0)] [] := by first |  (simp [entryFrame, mkF, argsToLocals, Value.category]; done) | rfl
def Q_rmLN0 (Z : State) (o0 : Addr) (sv : Addr) (ks : ClassId) (vs : List Value) (cs : Int32) (h0 : Heap) (n0 : Nat) (v : Option Value) (h : Heap) (L : List Loc) : Prop := v = some (.int (0 : Int32)) ∧ Fr n0 L ∧ h = h0
set_option maxRecDepth 65536 in
set_option maxHeartbeats 40000000 in
theorem rmLN0 (l : Launch) (Z : State) (a0 : Array Value) (hw : ∀ d ∈ tables_1, d.before a0 Z = true) (ws : List Jvm.Cond) (o0 : Addr) (sv : Addr) (ks : ClassId) (vs : List Value) (cs : Int32) (h0 : Heap) (n0 : Nat) (Z0 : n0 ≤ h0.size) (E_o0 : Exa Z h0 o0 "java/lang/String") (F_value_o0 : Fld Z h0 o0 "java/lang/String" "value" "[B" (.ref sv)) (F_coder_o0 : Fld Z h0 o0 "java/lang/String" "coder" "B" (.int (0 : Int32))) (V_sv : Arv Z h0 sv ks .byte (0 : Int32) vs (.int (0 : Int32))) (S_COMPACT_STRINGS : Sta Z h0 "java/lang/String" "COMPACT_STRINGS" "Z" (.int cs)) (hcs : ¬ cs = (0 : Int32)) :
    MetFree l (⟨"java/lang/String", "length", "()I"⟩ : MethodName) (head1 (Jvm.Cond.code (⟨"java/lang/String", "length", "()I"⟩ : MethodName) jdk_42_method_54_code 1 (some .int) :: ws) ({ frames := 1, cells := 0, slots := 0, locals := 13 } : Room)) (fun a U => a = #[(.ref o0)] ∧ Z.Warmed39 U.vm ∧ U.heap = h0) (fun _ _ _ _ _ => True) (fun _ U o U' => ∃ v L, o = .returned v ∧ Q_rmLN0 Z o0 sv ks vs cs h0 n0 v U'.heap L ∧ FrameEnd U o U' L ({ frames := 1, cells := 0, slots := 0, locals := 13 } : Room).cells ({ frames := 1, cells := 0, slots := 0, locals := 13 } : Room).slots) := by
  refine MetFree.of_bodySF (plainFor_of_name pn_java_lang_String) hisR ?_
  intro p e s m args below meth c s₁ Bd hml0 hP hK
  obtain ⟨rfl, hZ, hh⟩ := hP
  have hx := Bd.exec
  have hby := Bd.bytes
  have hml : c.maxLocals = 1 := hml0
  have hown : s.vm.findClass "java/lang/String" = some m.cls := findClass_of_methodNamed Bd.named
  have hnm := (name_of_methodNamed Bd.named Bd.method).1
  have hlk := Bd.notSynchronized
  have X0 : Stand p l e ({ frames := 1, cells := 0, slots := 0, locals := 13 } : Room) s m #[(.ref o0)] below meth c s₁ [] 0 0 := Stand.of_body Bd
  have e0 : s₁.heap = h0 := by rw [← hh, Bd.state]; rfl
  have N0 := Fr.nil n0
  show own_G p.tables e below s (Q_rmLN0 Z o0 sv ks vs cs h0 n0) ({ frames := 1, cells := 0, slots := 0, locals := 13 } : Room).cells ({ frames := 1, cells := 0, slots := 0, locals := 13 } : Room).slots _
  refine own_thr (a := s₁.setTop (mkF m 0 #[.val (.ref o0)] [])) (fun t kt => castTop (ef_rmLN0 m o0) kt) ?_
  refine own_thr (a := s₁.setTop (mkF m 1 #[.val (.ref o0)] [(.ref o0)])) (fun t kt => ?_) ?_
  · show Steps p.tables e below (s₁.setTop (mkF m 0 #[.val (.ref o0)] [])) _
    refine XS.aloadN X0.here hx rfl (hb hby d19_0) rfl rfl ?_
    exact kt
  obtain ⟨T1, X1, e1, st1⟩ := getF X0 hx hZ hown (host := "") (Or.inl (hw _ (List.mem_of_getElem? (i := 120) rfl))) Via.refl e0 F_value_o0 (g := (mkF m 1 #[.val (.ref o0)] [(.ref o0)])) rfl rfl (hb hby d19_1)
  refine own_thr (a := T1.setTop (mkF m 4 #[.val (.ref o0)] [(.ref sv)])) (fun t kt => st1 t kt) ?_
  obtain ⟨cl2, Ar2, -, S2, M2, -, -⟩ := id V_sv
  refine own_thr (a := T1.setTop (mkF m 6 #[.val (.ref o0)] [(.ref o0), (.int (0 : Int32))])) (fun t kt => ?_) ?_
  · show Steps p.tables e below (T1.setTop (mkF m 4 #[.val (.ref o0)] [(.ref sv)])) _
    refine X1.arraylength hx (by rw [e1]; exact Ar2.1) (State.isArrayOf_alike hZ.alike Ar2.2.1) (g := (mkF m 4 #[.val (.ref o0)] [(.ref sv)])) rfl rfl (hb hby d19_4) _ ?_
    rw [len_of S2 M2]
    refine XS.aloadN X1.here hx rfl (hb hby d19_5) rfl rfl ?_
    exact kt
  obtain ⟨cq3, kq3, q3a, q3b, q3c⟩ := isOf hZ e1 E_o0
  obtain ⟨_, _, ⟨T3, L3, k3, n3⟩, -, X3, ⟨Lc3, hQ3, l3, y3, z3⟩, st3⟩ := X1.virtualBack hx (y := (⟨"java/lang/String", "coder", "()B"⟩ : MethodName)) (z := (⟨"java/lang/String", "coder", "()B"⟩ : MethodName)) hown (mvT hZ (hw _ (List.mem_of_getElem? (i := 121) rfl))) (mvT hZ (hw _ (List.mem_of_getElem? (i := 122) rfl))) (notFace_of_selects (args := #[]) (mvT hZ (hw _ (List.mem_of_getElem? (i := 124) rfl)))) (mvT hZ (hw _ (List.mem_of_getElem? (i := 124) rfl))) (mvT hZ (hw _ (List.mem_of_getElem? (i := 123) rfl))) (by decide) (backOf (W := 1) (rmCO l Z a0 hw [] o0 cs h0 n0 Z0 E_o0 F_coder_o0 S_COMPACT_STRINGS hcs) hZ (hw _ (List.mem_of_getElem? (i := 125) rfl)) (hw _ (List.mem_of_getElem? (i := 5) rfl)) (by decide) (by decide)) q3a q3c (g := (mkF m 6 #[.val (.ref o0)] [(.ref o0), (.int (0 : Int32))])) rfl (by rw [hml]; rfl) (Steps.refl _) (argsL := []) (rest := [(.int (0 : Int32))]) (lenOf pd__28_29B rfl) rfl (by show 2 * 0 + _ ≤ _; exact Nat.le_of_eq rfl) (hb hby d19_6) (fun _ _ => ⟨rfl, e1, (by decide : 0 + 0 ≤ _), (by decide : 0 + 0 ≤ _)⟩)
  dsimp only [Pt.U, Pt.locs, Pt.cells, Pt.slots] at X3 l3 y3 z3 st3 hQ3
  obtain ⟨rfl, N3q, e3⟩ := hQ3
  obtain ⟨lc3, X3, N3⟩ := own_pack X3 l3 y3 z3 N0 N3q (C := 0) (S' := 0) rfl rfl
  refine own_thr (a := T3.setTop (mkF m 9 #[.val (.ref o0)] [(.int (0 : Int32)), (.int (0 : Int32))])) (fun t kt => st3.trans kt) ?_
  refine own_thr (a := T3.setTop (mkF m 10 #[.val (.ref o0)] [(.int (0 : Int32))])) (fun t kt => ?_) ?_
  · show Steps p.tables e below (T3.setTop (mkF m 9 #[.val (.ref o0)] [(.int (0 : Int32)), (.int (0 : Int32))])) _
    refine XS.ishr X3.here hx rfl (hb hby d19_9) rfl ?_
    exact kt
  exact own_end X3 hlk (v := some (.int (0 : Int32))) (fun h => by rw [Bd.returns] at h; cases h) (fun fs hr => retI X3 hx Bd.returns (hb hby d19_10) hr) (by rw [e3]; exact ⟨rfl, N3, rfl⟩) (by decide : 0 ≤ _) (by decide : 0 ≤ _)
theorem ef_rmLN1 (m : MethodId) (o0 : Addr)  : entryFrame m #[(.ref o0)] 1 = mkF m 0 #[.val (.ref o0)] [] := by first |  (simp [entryFrame, mkF, argsToLocals, Value.category]; done) | rfl
def Q_rmLN1 (Z : State) (o0 : Addr) (sv : Addr) (ks : ClassId) (vs : List Value) (cs : Int32) (h0 : Heap) (n0 : Nat) (v : Option Value) (h : Heap) (L : List Loc) : Prop := v = some (.int (1 : Int32)) ∧ Fr n0 L ∧ h = h0
set_option maxRecDepth 65536 in
set_option maxHeartbeats 40000000 in
theorem rmLN1 (l : Launch) (Z : State) (a0 : Array Value) (hw : ∀ d ∈ tables_1, d.before a0 Z = true) (ws : List Jvm.Cond) (o0 : Addr) (sv : Addr) (ks : ClassId) (vs : List Value) (cs : Int32) (h0 : Heap) (n0 : Nat) (Z0 : n0 ≤ h0.size) (E_o0 : Exa Z h0 o0 "java/lang/String") (F_value_o0 : Fld Z h0 o0 "java/lang/String" "value" "[B" (.ref sv)) (F_coder_o0 : Fld Z h0 o0 "java/lang/String" "coder" "B" (.int (0 : Int32))) (V_sv : Arv Z h0 sv ks .byte (1 : Int32) vs (.int (0 : Int32))) (S_COMPACT_STRINGS : Sta Z h0 "java/lang/String" "COMPACT_STRINGS" "Z" (.int cs)) (hcs : ¬ cs = (0 : Int32)) :
    MetFree l (⟨"java/lang/String", "length", "()I"⟩ : MethodName) (head1 (Jvm.Cond.code (⟨"java/lang/String", "length", "()I"⟩ : MethodName) jdk_42_method_54_code 1 (some .int) :: ws) ({ frames := 1, cells := 0, slots := 0, locals := 13 } : Room)) (fun a U => a = #[(.ref o0)] ∧ Z.Warmed39 U.vm ∧ U.heap = h0) (fun _ _ _ _ _ => True) (fun _ U o U' => ∃ v L, o = .returned v ∧ Q_rmLN1 Z o0 sv ks vs cs h0 n0 v U'.heap L ∧ FrameEnd U o U' L ({ frames := 1, cells := 0, slots := 0, locals := 13 } : Room).cells ({ frames := 1, cells := 0, slots := 0, locals := 13 } : Room).slots) := by
  refine MetFree.of_bodySF (plainFor_of_name pn_java_lang_String) hisR ?_
  intro p e s m args below meth c s₁ Bd hml0 hP hK
  obtain ⟨rfl, hZ, hh⟩ := hP
  have hx := Bd.exec
  have hby := Bd.bytes
  have hml : c.maxLocals = 1 := hml0
  have hown : s.vm.findClass "java/lang/String" = some m.cls := findClass_of_methodNamed Bd.named
  have hnm := (name_of_methodNamed Bd.named Bd.method).1
  have hlk := Bd.notSynchronized
  have X0 : Stand p l e ({ frames := 1, cells := 0, slots := 0, locals := 13 } : Room) s m #[(.ref o0)] below meth c s₁ [] 0 0 := Stand.of_body Bd
  have e0 : s₁.heap = h0 := by rw [← hh, Bd.state]; rfl
  have N0 := Fr.nil n0
  show own_G p.tables e below s (Q_rmLN1 Z o0 sv ks vs cs h0 n0) ({ frames := 1, cells := 0, slots := 0, locals := 13 } : Room).cells ({ frames := 1, cells := 0, slots := 0, locals := 13 } : Room).slots _
  refine own_thr (a := s₁.setTop (mkF m 0 #[.val (.ref o0)] [])) (fun t kt => castTop (ef_rmLN1 m o0) kt) ?_
  refine own_thr (a := s₁.setTop (mkF m 1 #[.val (.ref o0)] [(.ref o0)])) (fun t kt => ?_) ?_
  · show Steps p.tables e below (s₁.setTop (mkF m 0 #[.val (.ref o0)] [])) _
    refine XS.aloadN X0.here hx rfl (hb hby d19_0) rfl rfl ?_
    exact kt
  obtain ⟨T1, X1, e1, st1⟩ := getF X0 hx hZ hown (host := "") (Or.inl (hw _ (List.mem_of_getElem? (i := 120) rfl))) Via.refl e0 F_value_o0 (g := (mkF m 1 #[.val (.ref o0)] [(.ref o0)])) rfl rfl (hb hby d19_1)
  refine own_thr (a := T1.setTop (mkF m 4 #[.val (.ref o0)] [(.ref sv)])) (fun t kt => st1 t kt) ?_
  obtain ⟨cl2, Ar2, -, S2, M2, -, -⟩ := id V_sv
  refine own_thr (a := T1.setTop (mkF m 6 #[.val (.ref o0)] [(.ref o0), (.int (1 : Int32))])) (fun t kt => ?_) ?_
  · show Steps p.tables e below (T1.setTop (mkF m 4 #[.val (.ref o0)] [(.ref sv)])) _
    refine X1.arraylength hx (by rw [e1]; exact Ar2.1) (State.isArrayOf_alike hZ.alike Ar2.2.1) (g := (mkF m 4 #[.val (.ref o0)] [(.ref sv)])) rfl rfl (hb hby d19_4) _ ?_
    rw [len_of S2 M2]
    refine XS.aloadN X1.here hx rfl (hb hby d19_5) rfl rfl ?_
    exact kt
  obtain ⟨cq3, kq3, q3a, q3b, q3c⟩ := isOf hZ e1 E_o0
  obtain ⟨_, _, ⟨T3, L3, k3, n3⟩, -, X3, ⟨Lc3, hQ3, l3, y3, z3⟩, st3⟩ := X1.virtualBack hx (y := (⟨"java/lang/String", "coder", "()B"⟩ : MethodName)) (z := (⟨"java/lang/String", "coder", "()B"⟩ : MethodName)) hown (mvT hZ (hw _ (List.mem_of_getElem? (i := 121) rfl))) (mvT hZ (hw _ (List.mem_of_getElem? (i := 122) rfl))) (notFace_of_selects (args := #[]) (mvT hZ (hw _ (List.mem_of_getElem? (i := 124) rfl)))) (mvT hZ (hw _ (List.mem_of_getElem? (i := 124) rfl))) (mvT hZ (hw _ (List.mem_of_getElem? (i := 123) rfl))) (by decide) (backOf (W := 1) (rmCO l Z a0 hw [] o0 cs h0 n0 Z0 E_o0 F_coder_o0 S_COMPACT_STRINGS hcs) hZ (hw _ (List.mem_of_getElem? (i := 125) rfl)) (hw _ (List.mem_of_getElem? (i := 5) rfl)) (by decide) (by decide)) q3a q3c (g := (mkF m 6 #[.val (.ref o0)] [(.ref o0), (.int (1 : Int32))])) rfl (by rw [hml]; rfl) (Steps.refl _) (argsL := []) (rest := [(.int (1 : Int32))]) (lenOf pd__28_29B rfl) rfl (by show 2 * 0 + _ ≤ _; exact Nat.le_of_eq rfl) (hb hby d19_6) (fun _ _ => ⟨rfl, e1, (by decide : 0 + 0 ≤ _), (by decide : 0 + 0 ≤ _)⟩)
  dsimp only [Pt.U, Pt.locs, Pt.cells, Pt.slots] at X3 l3 y3 z3 st3 hQ3
  obtain ⟨rfl, N3q, e3⟩ := hQ3
  obtain ⟨lc3, X3, N3⟩ := own_pack X3 l3 y3 z3 N0 N3q (C := 0) (S' := 0) rfl rfl
  refine own_thr (a := T3.setTop (mkF m 9 #[.val (.ref o0)] [(.int (0 : Int32)), (.int (1 : Int32))])) (fun t kt => st3.trans kt) ?_
  refine own_thr (a := T3.setTop (mkF m 10 #[.val (.ref o0)] [(.int (1 : Int32))])) (fun t kt => ?_) ?_
  · show Steps p.tables e below (T3.setTop (mkF m 9 #[.val (.ref o0)] [(.int (0 : Int32)), (.int (1 : Int32))])) _
    refine XS.ishr X3.here hx rfl (hb hby d19_9) rfl ?_
    exact kt
  exact own_end X3 hlk (v := some (.int (1 : Int32))) (fun h => by rw [Bd.returns] at h; cases h) (fun fs hr => retI X3 hx Bd.returns (hb hby d19_10) hr) (by rw [e3]; exact ⟨rfl, N3, rfl⟩) (by decide : 0 ≤ _) (by decide : 0 ≤ _)
theorem d26_0 : decode jdk_42_method_57_code 0 = .ok (.aload_n 0, 1) := by decide +kernel
theorem pd__28_29Z : parseMethodDescriptor "()Z" = some ⟨[], some .boolean⟩ := by decide +kernel
theorem d26_1 : decode jdk_42_method_57_code 1 = .ok (.invokevirtual 492, 3) := by decide +kernel
theorem d26_4 : decode jdk_42_method_57_code 4 = .ok (.ifCond .eq 23, 3) := by decide +kernel
theorem d26_7 : decode jdk_42_method_57_code 7 = .ok (.iload_n 1, 1) := by decide +kernel
theorem d26_8 : decode jdk_42_method_57_code 8 = .ok (.aload_n 0, 1) := by decide +kernel
theorem d26_9 : decode jdk_42_method_57_code 9 = .ok (.getfield 9, 3) := by decide +kernel
theorem d26_12 : decode jdk_42_method_57_code 12 = .ok (.arraylength, 1) := by decide +kernel
theorem pd__28II_29V : parseMethodDescriptor "(II)V" = some ⟨[.int, .int], none⟩ := by decide +kernel
theorem d26_13 : decode jdk_42_method_57_code 13 = .ok (.invokestatic 499, 3) := by decide +kernel
theorem d26_16 : decode jdk_42_method_57_code 16 = .ok (.aload_n 0, 1) := by decide +kernel
theorem d26_17 : decode jdk_42_method_57_code 17 = .ok (.getfield 9, 3) := by decide +kernel
theorem d26_20 : decode jdk_42_method_57_code 20 = .ok (.iload_n 1, 1) := by decide +kernel
theorem d26_21 : decode jdk_42_method_57_code 21 = .ok (.baload, 1) := by decide +kernel
theorem d26_22 : decode jdk_42_method_57_code 22 = .ok (.sipush 255, 3) := by decide +kernel
theorem d26_25 : decode jdk_42_method_57_code 25 = .ok (.iand, 1) := by decide +kernel
theorem d26_26 : decode jdk_42_method_57_code 26 = .ok (.ireturn, 1) := by decide +kernel
theorem ef_rmCA (m : MethodId) (o0 : Addr)  : entryFrame m #[(.ref o0), (.int (0 : Int32))] 3 = mkF m 0 #[.val (.ref o0), .val (.int (0 : Int32)), .unset] [] := by first |  (simp [entryFrame, mkF, argsToLocals, Value.category]; done) | rfl
def Q_rmCA (Z : State) (o0 : Addr) (sv : Addr) (ks : ClassId) (x : Int32) (cs : Int32) (fm : Value) (h0 : Heap) (n0 : Nat) (v : Option Value) (h : Heap) (L : List Loc) : Prop := v = some (.int (x &&& (255 : Int32))) ∧ Fr n0 L ∧ h = h0
set_option maxRecDepth 65536 in
set_option maxHeartbeats 40000000 in
theorem rmCA (l : Launch) (Z : State) (a0 : Array Value) (hw : ∀ d ∈ tables_1, d.before a0 Z = true) (ws : List Jvm.Cond) (o0 : Addr) (sv : Addr) (ks : ClassId) (x : Int32) (cs : Int32) (fm : Value) (h0 : Heap) (n0 : Nat) (Z0 : n0 ≤ h0.size) (E_o0 : Exa Z h0 o0 "java/lang/String") (F_value_o0 : Fld Z h0 o0 "java/lang/String" "value" "[B" (.ref sv)) (F_coder_o0 : Fld Z h0 o0 "java/lang/String" "coder" "B" (.int (0 : Int32))) (V_sv : Arv Z h0 sv ks .byte (1 : Int32) [(.int x)] (.int (0 : Int32))) (S_COMPACT_STRINGS : Sta Z h0 "java/lang/String" "COMPACT_STRINGS" "Z" (.int cs)) (S_SIOOBE_FORMATTER : Sta Z h0 "jdk/internal/util/Preconditions" "SIOOBE_FORMATTER" "Ljava/util/function/BiFunction;" fm) (hcs : ¬ cs = (0 : Int32)) (hfm : fm.isRef = true) :
    MetFree l (⟨"java/lang/String", "codePointAt", "(I)I"⟩ : MethodName) (head1 (Jvm.Cond.code (⟨"java/lang/String", "codePointAt", "(I)I"⟩ : MethodName) jdk_42_method_57_code 3 (some .int) :: ws) ({ frames := 2, cells := 0, slots := 0, locals := 27 } : Room)) (fun a U => a = #[(.ref o0), (.int (0 : Int32))] ∧ Z.Warmed39 U.vm ∧ U.heap = h0) (fun _ _ _ _ _ => True) (fun _ U o U' => ∃ v L, o = .returned v ∧ Q_rmCA Z o0 sv ks x cs fm h0 n0 v U'.heap L ∧ FrameEnd U o U' L ({ frames := 2, cells := 0, slots := 0, locals := 27 } : Room).cells ({ frames := 2, cells := 0, slots := 0, locals := 27 } : Room).slots) := by
  refine MetFree.of_bodySF (plainFor_of_name pn_java_lang_String) hisR ?_
  intro p e s m args below meth c s₁ Bd hml0 hP hK
  obtain ⟨rfl, hZ, hh⟩ := hP
  have hx := Bd.exec
  have hby := Bd.bytes
  have hml : c.maxLocals = 3 := hml0
  have hown : s.vm.findClass "java/lang/String" = some m.cls := findClass_of_methodNamed Bd.named
  have hnm := (name_of_methodNamed Bd.named Bd.method).1
  have hlk := Bd.notSynchronized
  have X0 : Stand p l e ({ frames := 2, cells := 0, slots := 0, locals := 27 } : Room) s m #[(.ref o0), (.int (0 : Int32))] below meth c s₁ [] 0 0 := Stand.of_body Bd
  have e0 : s₁.heap = h0 := by rw [← hh, Bd.state]; rfl
  have N0 := Fr.nil n0
  show own_G p.tables e below s (Q_rmCA Z o0 sv ks x cs fm h0 n0) ({ frames := 2, cells := 0, slots := 0, locals := 27 } : Room).cells ({ frames := 2, cells := 0, slots := 0, locals := 27 } : Room).slots _
  refine own_thr (a := s₁.setTop (mkF m 0 #[.val (.ref o0), .val (.int (0 : Int32)), .unset] [])) (fun t kt => castTop (ef_rmCA m o0) kt) ?_
  refine own_thr (a := s₁.setTop (mkF m 1 #[.val (.ref o0), .val (.int (0 : Int32)), .unset] [(.ref o0)])) (fun t kt => ?_) ?_
  · show Steps p.tables e below (s₁.setTop (mkF m 0 #[.val (.ref o0), .val (.int (0 : Int32)), .unset] [])) _
    refine XS.aloadN X0.here hx rfl (hb hby d26_0) rfl rfl ?_
    exact kt
  obtain ⟨cq1, kq1, q1a, q1b, q1c⟩ := isOf hZ e0 E_o0
  obtain ⟨_, _, ⟨T1, L1, k1, n1⟩, -, X1, ⟨Lc1, hQ1, l1, y1, z1⟩, st1⟩ := X0.virtualBack hx (y := (⟨"java/lang/String", "isLatin1", "()Z"⟩ : MethodName)) (z := (⟨"java/lang/String", "isLatin1", "()Z"⟩ : MethodName)) hown (mvT hZ (hw _ (List.mem_of_getElem? (i := 152) rfl))) (mvT hZ (hw _ (List.mem_of_getElem? (i := 153) rfl))) (notFace_of_selects (args := #[]) (mvT hZ (hw _ (List.mem_of_getElem? (i := 155) rfl)))) (mvT hZ (hw _ (List.mem_of_getElem? (i := 155) rfl))) (mvT hZ (hw _ (List.mem_of_getElem? (i := 154) rfl))) (by decide) (backOf (W := 0) (rmIL l Z a0 hw [] o0 cs h0 n0 Z0 E_o0 F_coder_o0 S_COMPACT_STRINGS hcs) hZ (hw _ (List.mem_of_getElem? (i := 156) rfl)) (hw _ (List.mem_of_getElem? (i := 5) rfl)) (by decide) (by decide)) q1a q1c (g := (mkF m 1 #[.val (.ref o0), .val (.int (0 : Int32)), .unset] [(.ref o0)])) rfl (by rw [hml]; rfl) (Steps.refl _) (argsL := []) (rest := []) (lenOf pd__28_29Z rfl) rfl (by show 2 * 0 + _ ≤ _; exact Nat.le_of_eq rfl) (hb hby d26_1) (fun _ _ => ⟨rfl, e0, (by decide : 0 + 0 ≤ _), (by decide : 0 + 0 ≤ _)⟩)
  dsimp only [Pt.U, Pt.locs, Pt.cells, Pt.slots] at X1 l1 y1 z1 st1 hQ1
  obtain ⟨rfl, N1q, e1⟩ := hQ1
  obtain ⟨lc1, X1, N1⟩ := own_pack X1 l1 y1 z1 N0 N1q (C := 0) (S' := 0) rfl rfl
  refine own_thr (a := T1.setTop (mkF m 4 #[.val (.ref o0), .val (.int (0 : Int32)), .unset] [(.int (1 : Int32))])) (fun t kt => st1.trans kt) ?_
  refine own_thr (a := T1.setTop (mkF m 9 #[.val (.ref o0), .val (.int (0 : Int32)), .unset] [(.ref o0), (.int (0 : Int32))])) (fun t kt => ?_) ?_
  · show Steps p.tables e below (T1.setTop (mkF m 4 #[.val (.ref o0), .val (.int (0 : Int32)), .unset] [(.int (1 : Int32))])) _
    refine XS.ifNo X1.here hx rfl (hb hby d26_4) rfl ((if0 _ _).trans (feq (by decide)).1) ?_
    refine XS.iloadN X1.here hx rfl (hb hby d26_7) rfl ?_
    refine XS.aloadN X1.here hx rfl (hb hby d26_8) rfl rfl ?_
    exact kt
  obtain ⟨T2, X2, e2, st2⟩ := getF X1 hx hZ hown (host := "") (Or.inl (hw _ (List.mem_of_getElem? (i := 120) rfl))) Via.refl e1 F_value_o0 (g := (mkF m 9 #[.val (.ref o0), .val (.int (0 : Int32)), .unset] [(.ref o0), (.int (0 : Int32))])) rfl rfl (hb hby d26_9)
  refine own_thr (a := T2.setTop (mkF m 12 #[.val (.ref o0), .val (.int (0 : Int32)), .unset] [(.ref sv), (.int (0 : Int32))])) (fun t kt => st2 t kt) ?_
  obtain ⟨cl3, Ar3, -, S3, M3, -, -⟩ := id V_sv
  refine own_thr (a := T2.setTop (mkF m 13 #[.val (.ref o0), .val (.int (0 : Int32)), .unset] [(.int (1 : Int32)), (.int (0 : Int32))])) (fun t kt => ?_) ?_
  · show Steps p.tables e below (T2.setTop (mkF m 12 #[.val (.ref o0), .val (.int (0 : Int32)), .unset] [(.ref sv), (.int (0 : Int32))])) _
    refine X2.arraylength hx (by rw [e2]; exact Ar3.1) (State.isArrayOf_alike hZ.alike Ar3.2.1) (g := (mkF m 12 #[.val (.ref o0), .val (.int (0 : Int32)), .unset] [(.ref sv), (.int (0 : Int32))])) rfl rfl (hb hby d26_12) _ ?_
    rw [len_of S3 M3]
    exact kt
  obtain ⟨_, _, ⟨T4, L4, k4, n4⟩, -, X4, ⟨Lc4, hQ4, l4, y4, z4⟩, st4⟩ := Jvm.LawKit.callS X2 hx (y := (⟨"java/lang/String", "checkIndex", "(II)V"⟩ : MethodName)) hown (mvT hZ (hw _ (List.mem_of_getElem? (i := 157) rfl))) (mvT hZ (hw _ (List.mem_of_getElem? (i := 158) rfl))) (mvT hZ (hw _ (List.mem_of_getElem? (i := 5) rfl))) (mvT hZ (hw _ (List.mem_of_getElem? (i := 159) rfl))) (by decide) (backOf (W := 0) (rmCI l Z a0 hw [] (0 : Int32) (1 : Int32) fm h0 n0 Z0 S_SIOOBE_FORMATTER hfm (by decide) (by decide)) hZ (hw _ (List.mem_of_getElem? (i := 159) rfl)) (hw _ (List.mem_of_getElem? (i := 5) rfl)) (by decide) (by decide)) (g := (mkF m 13 #[.val (.ref o0), .val (.int (0 : Int32)), .unset] [(.int (1 : Int32)), (.int (0 : Int32))])) rfl (by rw [hml]; rfl) (argsL := [(.int (0 : Int32)), (.int (1 : Int32))]) (rest := []) (lenOf pd__28II_29V rfl) rfl (by show 2 * 0 + _ ≤ _; exact Nat.le_of_eq rfl) (hb hby d26_13) (fun _ _ => ⟨rfl, e2, (by decide : 0 + 0 ≤ _), (by decide : 0 + 0 ≤ _)⟩)
  dsimp only [Pt.U, Pt.locs, Pt.cells, Pt.slots] at X4 l4 y4 z4 st4 hQ4
  obtain ⟨rfl, N4q, e4⟩ := hQ4
  obtain ⟨lc4, X4, N4⟩ := own_pack X4 l4 y4 z4 N1 N4q (C := 0) (S' := 0) rfl rfl
  refine own_thr (a := T4.setTop (mkF m 16 #[.val (.ref o0), .val (.int (0 : Int32)), .unset] [])) (fun t kt => st4 t kt) ?_
  refine own_thr (a := T4.setTop (mkF m 17 #[.val (.ref o0), .val (.int (0 : Int32)), .unset] [(.ref o0)])) (fun t kt => ?_) ?_
  · show Steps p.tables e below (T4.setTop (mkF m 16 #[.val (.ref o0), .val (.int (0 : Int32)), .unset] [])) _
    refine XS.aloadN X4.here hx rfl (hb hby d26_16) rfl rfl ?_
    exact kt
  obtain ⟨T5, X5, e5, st5⟩ := getF X4 hx hZ hown (host := "") (Or.inl (hw _ (List.mem_of_getElem? (i := 120) rfl))) Via.refl e4 F_value_o0 (g := (mkF m 17 #[.val (.ref o0), .val (.int (0 : Int32)), .unset] [(.ref o0)])) rfl rfl (hb hby d26_17)
  refine own_thr (a := T5.setTop (mkF m 20 #[.val (.ref o0), .val (.int (0 : Int32)), .unset] [(.ref sv)])) (fun t kt => st5 t kt) ?_
  refine own_thr (a := T5.setTop (mkF m 21 #[.val (.ref o0), .val (.int (0 : Int32)), .unset] [(.int (0 : Int32)), (.ref sv)])) (fun t kt => ?_) ?_
  · show Steps p.tables e below (T5.setTop (mkF m 20 #[.val (.ref o0), .val (.int (0 : Int32)), .unset] [(.ref sv)])) _
    refine XS.iloadN X5.here hx rfl (hb hby d26_20) rfl ?_
    exact kt
  obtain ⟨cl6, Ar6, -, S6, M6, H6, -⟩ := id V_sv
  have hin6 : ¬ ((0 : Int32) < 0 ∨ cl6.slots.size ≤ ((0 : Int32)).toNatClampNeg) := inb_of S6 ⟨by decide, by decide⟩
  have hat6 : cl6.slots[((0 : Int32)).toNatClampNeg]? = some (.int x) := Has.at H6 hin6 rfl
  refine own_thr (a := T5.setTop (mkF m 26 #[.val (.ref o0), .val (.int (0 : Int32)), .unset] [(.int (x &&& (255 : Int32)))])) (fun t kt => ?_) ?_
  · show Steps p.tables e below (T5.setTop (mkF m 21 #[.val (.ref o0), .val (.int (0 : Int32)), .unset] [(.int (0 : Int32)), (.ref sv)])) _
    refine X5.baloadBytes hx (j := (0 : Int32)) (v := (.int x)) (by rw [e5]; exact Ar6.1) (State.isArrayOf_alike hZ.alike Ar6.2.1) Ar6.2.2 hin6 hat6 (g := (mkF m 21 #[.val (.ref o0), .val (.int (0 : Int32)), .unset] [(.int (0 : Int32)), (.ref sv)])) rfl rfl (hb hby d26_21) _ ?_
    refine XS.sipush X5.here hx rfl (hb hby d26_22) ?_
    refine XS.iand X5.here hx rfl (hb hby d26_25) rfl ?_
    exact kt
  exact own_end X5 hlk (v := some (.int (x &&& (255 : Int32)))) (fun h => by rw [Bd.returns] at h; cases h) (fun fs hr => retI X5 hx Bd.returns (hb hby d26_26) hr) (by rw [e5]; exact ⟨rfl, N4, rfl⟩) (by decide : 0 ≤ _) (by decide : 0 ≤ _)
theorem d21_0 : decode jdk_33_method_40_code 0 = .ok (.iload_n 0, 1) := by decide +kernel
theorem d21_1 : decode jdk_33_method_40_code 1 = .ok (.iload_n 1, 1) := by decide +kernel
theorem d21_2 : decode jdk_33_method_40_code 2 = .ok (.if_icmp .ge 7, 3) := by decide +kernel
theorem d21_5 : decode jdk_33_method_40_code 5 = .ok (.iconst (-1), 1) := by decide +kernel
theorem d21_6 : decode jdk_33_method_40_code 6 = .ok (.goto 13, 3) := by decide +kernel
theorem d21_19 : decode jdk_33_method_40_code 19 = .ok (.ireturn, 1) := by decide +kernel
theorem d21_9 : decode jdk_33_method_40_code 9 = .ok (.iload_n 0, 1) := by decide +kernel
theorem d21_10 : decode jdk_33_method_40_code 10 = .ok (.iload_n 1, 1) := by decide +kernel
theorem d21_11 : decode jdk_33_method_40_code 11 = .ok (.if_icmp .ne 7, 3) := by decide +kernel
theorem d21_14 : decode jdk_33_method_40_code 14 = .ok (.iconst 0, 1) := by decide +kernel
theorem d21_15 : decode jdk_33_method_40_code 15 = .ok (.goto 4, 3) := by decide +kernel
theorem d21_18 : decode jdk_33_method_40_code 18 = .ok (.iconst 1, 1) := by decide +kernel
theorem pn_java_lang_Integer : plainName "java/lang/Integer" = true := by first | (simp [plainName, overriddenIn]; done) | decide +kernel
theorem ef_rmIC (m : MethodId) (p0 : Int32) (p1 : Int32)  : entryFrame m #[(.int p0), (.int p1)] 2 = mkF m 0 #[.val (.int p0), .val (.int p1)] [] := by first |  (simp [entryFrame, mkF, argsToLocals, Value.category]; done) | rfl
def f_rmIC (p0 : Int32) (p1 : Int32) : Int32 := if p0 < p1 then (-1 : Int32) else if p0 = p1 then (0 : Int32) else (1 : Int32)
def Q_rmIC (Z : State) (p0 : Int32) (p1 : Int32) (h0 : Heap) (n0 : Nat) (v : Option Value) (h : Heap) (L : List Loc) : Prop := v = some (.int (f_rmIC p0 p1)) ∧ Fr n0 L ∧ h = h0
set_option maxRecDepth 65536 in
set_option maxHeartbeats 40000000 in
theorem rmIC (l : Launch) (Z : State) (a0 : Array Value) (hw : ∀ d ∈ tables_1, d.before a0 Z = true) (ws : List Jvm.Cond) (p0 : Int32) (p1 : Int32) (h0 : Heap) (n0 : Nat) (Z0 : n0 ≤ h0.size) :
    MetFree l (⟨"java/lang/Integer", "compare", "(II)I"⟩ : MethodName) (head1 (Jvm.Cond.code (⟨"java/lang/Integer", "compare", "(II)I"⟩ : MethodName) jdk_33_method_40_code 2 (some .int) :: ws) ({ frames := 0, cells := 0, slots := 0, locals := 0 } : Room)) (fun a U => a = #[(.int p0), (.int p1)] ∧ Z.Warmed39 U.vm ∧ U.heap = h0) (fun _ _ _ _ _ => True) (fun _ U o U' => ∃ v L, o = .returned v ∧ Q_rmIC Z p0 p1 h0 n0 v U'.heap L ∧ FrameEnd U o U' L ({ frames := 0, cells := 0, slots := 0, locals := 0 } : Room).cells ({ frames := 0, cells := 0, slots := 0, locals := 0 } : Room).slots) := by
  refine MetFree.of_bodySF (plainFor_of_name pn_java_lang_Integer) hisR ?_
  intro p e s m args below meth c s₁ Bd hml0 hP hK
  obtain ⟨rfl, hZ, hh⟩ := hP
  have hx := Bd.exec
  have hby := Bd.bytes
  have hml : c.maxLocals = 2 := hml0
  have hown : s.vm.findClass "java/lang/Integer" = some m.cls := findClass_of_methodNamed Bd.named
  have hnm := (name_of_methodNamed Bd.named Bd.method).1
  have hlk := Bd.notSynchronized
  have X0 : Stand p l e ({ frames := 0, cells := 0, slots := 0, locals := 0 } : Room) s m #[(.int p0), (.int p1)] below meth c s₁ [] 0 0 := Stand.of_body Bd
  have e0 : s₁.heap = h0 := by rw [← hh, Bd.state]; rfl
  have N0 := Fr.nil n0
  show own_G p.tables e below s (Q_rmIC Z p0 p1 h0 n0) ({ frames := 0, cells := 0, slots := 0, locals := 0 } : Room).cells ({ frames := 0, cells := 0, slots := 0, locals := 0 } : Room).slots _
  refine own_thr (a := s₁.setTop (mkF m 0 #[.val (.int p0), .val (.int p1)] [])) (fun t kt => castTop (ef_rmIC m p0 p1) kt) ?_
  refine own_thr (a := s₁.setTop (mkF m 2 #[.val (.int p0), .val (.int p1)] [(.int p1), (.int p0)])) (fun t kt => ?_) ?_
  · show Steps p.tables e below (s₁.setTop (mkF m 0 #[.val (.int p0), .val (.int p1)] [])) _
    refine XS.iloadN X0.here hx rfl (hb hby d21_0) rfl ?_
    refine XS.iloadN X0.here hx rfl (hb hby d21_1) rfl ?_
    exact kt
  by_cases hc1 : p0 < p1
  · refine own_thr (a := s₁.setTop (mkF m 19 #[.val (.int p0), .val (.int p1)] [(.int (-1 : Int32))])) (fun t kt => ?_) ?_
    · show Steps p.tables e below (s₁.setTop (mkF m 2 #[.val (.int p0), .val (.int p1)] [(.int p1), (.int p0)])) _
      refine XS.icmpNo X0.here hx rfl (hb hby d21_2) rfl (tlt hc1).2.1 ?_
      refine XS.iconst X0.here hx rfl (hb hby d21_5) ?_
      refine XS.goto X0.here hx rfl (pc0 := 6) (pc' := 19) rfl (hb hby d21_6) (by decide) (by decide) ?_
      exact kt
    exact own_end X0 hlk (v := some (.int (-1 : Int32))) (fun h => by rw [Bd.returns] at h; cases h) (fun fs hr => retI X0 hx Bd.returns (hb hby d21_19) hr) (by rw [e0]; exact ⟨(by rw [f_rmIC, if_pos hc1]), N0, rfl⟩) (by decide : 0 ≤ _) (by decide : 0 ≤ _)
  · refine own_thr (a := s₁.setTop (mkF m 11 #[.val (.int p0), .val (.int p1)] [(.int p1), (.int p0)])) (fun t kt => ?_) ?_
    · show Steps p.tables e below (s₁.setTop (mkF m 2 #[.val (.int p0), .val (.int p1)] [(.int p1), (.int p0)])) _
      refine XS.icmpYes X0.here hx rfl (pc0 := 2) (pc' := 9) rfl (hb hby d21_2) rfl (flt hc1).2.1 (by decide) (by decide) ?_
      refine XS.iloadN X0.here hx rfl (hb hby d21_9) rfl ?_
      refine XS.iloadN X0.here hx rfl (hb hby d21_10) rfl ?_
      exact kt
    by_cases hc2 : p0 = p1
    · refine own_thr (a := s₁.setTop (mkF m 19 #[.val (.int p0), .val (.int p1)] [(.int (0 : Int32))])) (fun t kt => ?_) ?_
      · show Steps p.tables e below (s₁.setTop (mkF m 11 #[.val (.int p0), .val (.int p1)] [(.int p1), (.int p0)])) _
        refine XS.icmpNo X0.here hx rfl (hb hby d21_11) rfl (teq hc2).2 ?_
        refine XS.iconst X0.here hx rfl (hb hby d21_14) ?_
        refine XS.goto X0.here hx rfl (pc0 := 15) (pc' := 19) rfl (hb hby d21_15) (by decide) (by decide) ?_
        exact kt
      exact own_end X0 hlk (v := some (.int (0 : Int32))) (fun h => by rw [Bd.returns] at h; cases h) (fun fs hr => retI X0 hx Bd.returns (hb hby d21_19) hr) (by rw [e0]; exact ⟨(by rw [f_rmIC, if_neg hc1, if_pos hc2]), N0, rfl⟩) (by decide : 0 ≤ _) (by decide : 0 ≤ _)
    · refine own_thr (a := s₁.setTop (mkF m 19 #[.val (.int p0), .val (.int p1)] [(.int (1 : Int32))])) (fun t kt => ?_) ?_
      · show Steps p.tables e below (s₁.setTop (mkF m 11 #[.val (.int p0), .val (.int p1)] [(.int p1), (.int p0)])) _
        refine XS.icmpYes X0.here hx rfl (pc0 := 11) (pc' := 18) rfl (hb hby d21_11) rfl (feq hc2).2 (by decide) (by decide) ?_
        refine XS.iconst X0.here hx rfl (hb hby d21_18) ?_
        exact kt
      exact own_end X0 hlk (v := some (.int (1 : Int32))) (fun h => by rw [Bd.returns] at h; cases h) (fun fs hr => retI X0 hx Bd.returns (hb hby d21_19) hr) (by rw [e0]; exact ⟨(by rw [f_rmIC, if_neg hc1, if_neg hc2]), N0, rfl⟩) (by decide : 0 ≤ _) (by decide : 0 ≤ _)
theorem d29_0 : decode jdk_89_method_18_code 0 = .ok (.iload_n 0, 1) := by decide +kernel
theorem d29_1 : decode jdk_89_method_18_code 1 = .ok (.ldc 73, 2) := by decide +kernel
theorem d29_3 : decode jdk_89_method_18_code 3 = .ok (.if_icmp .lt 7, 3) := by decide +kernel
theorem d29_10 : decode jdk_89_method_18_code 10 = .ok (.iconst 1, 1) := by decide +kernel
theorem d29_11 : decode jdk_89_method_18_code 11 = .ok (.ireturn, 1) := by decide +kernel
theorem pn_java_lang_Character : plainName "java/lang/Character" = true := by first | (simp [plainName, overriddenIn]; done) | decide +kernel
theorem ef_rmCC (m : MethodId) (p0 : Int32)  : entryFrame m #[(.int p0)] 1 = mkF m 0 #[.val (.int p0)] [] := by first |  (simp [entryFrame, mkF, argsToLocals, Value.category]; done) | rfl
def Q_rmCC (Z : State) (p0 : Int32) (h0 : Heap) (n0 : Nat) (v : Option Value) (h : Heap) (L : List Loc) : Prop := v = some (.int (1 : Int32)) ∧ Fr n0 L ∧ h = h0
set_option maxRecDepth 65536 in
set_option maxHeartbeats 40000000 in
theorem rmCC (l : Launch) (Z : State) (a0 : Array Value) (hw : ∀ d ∈ tables_1, d.before a0 Z = true) (ws : List Jvm.Cond) (p0 : Int32) (h0 : Heap) (n0 : Nat) (Z0 : n0 ≤ h0.size) (hlt : p0 < (65536 : Int32)) :
    MetFree l (⟨"java/lang/Character", "charCount", "(I)I"⟩ : MethodName) (head1 (Jvm.Cond.code (⟨"java/lang/Character", "charCount", "(I)I"⟩ : MethodName) jdk_89_method_18_code 1 (some .int) :: ws) ({ frames := 0, cells := 0, slots := 0, locals := 0 } : Room)) (fun a U => a = #[(.int p0)] ∧ Z.Warmed39 U.vm ∧ U.heap = h0) (fun _ _ _ _ _ => True) (fun _ U o U' => ∃ v L, o = .returned v ∧ Q_rmCC Z p0 h0 n0 v U'.heap L ∧ FrameEnd U o U' L ({ frames := 0, cells := 0, slots := 0, locals := 0 } : Room).cells ({ frames := 0, cells := 0, slots := 0, locals := 0 } : Room).slots) := by
  refine MetFree.of_bodySF (plainFor_of_name pn_java_lang_Character) hisR ?_
  intro p e s m args below meth c s₁ Bd hml0 hP hK
  obtain ⟨rfl, hZ, hh⟩ := hP
  have hx := Bd.exec
  have hby := Bd.bytes
  have hml : c.maxLocals = 1 := hml0
  have hown : s.vm.findClass "java/lang/Character" = some m.cls := findClass_of_methodNamed Bd.named
  have hnm := (name_of_methodNamed Bd.named Bd.method).1
  have hlk := Bd.notSynchronized
  have X0 : Stand p l e ({ frames := 0, cells := 0, slots := 0, locals := 0 } : Room) s m #[(.int p0)] below meth c s₁ [] 0 0 := Stand.of_body Bd
  have e0 : s₁.heap = h0 := by rw [← hh, Bd.state]; rfl
  have N0 := Fr.nil n0
  show own_G p.tables e below s (Q_rmCC Z p0 h0 n0) ({ frames := 0, cells := 0, slots := 0, locals := 0 } : Room).cells ({ frames := 0, cells := 0, slots := 0, locals := 0 } : Room).slots _
  refine own_thr (a := s₁.setTop (mkF m 0 #[.val (.int p0)] [])) (fun t kt => castTop (ef_rmCC m p0) kt) ?_
  refine own_thr (a := s₁.setTop (mkF m 11 #[.val (.int p0)] [(.int (1 : Int32))])) (fun t kt => ?_) ?_
  · show Steps p.tables e below (s₁.setTop (mkF m 0 #[.val (.int p0)] [])) _
    refine XS.iloadN X0.here hx rfl (hb hby d29_0) rfl ?_
    refine X0.ldcInt hx hown (mvT hZ (hw _ (List.mem_of_getElem? (i := 166) rfl))) (g := (mkF m 1 #[.val (.int p0)] [(.int p0)])) rfl (hb hby d29_1) _ ?_
    refine XS.icmpYes X0.here hx rfl (pc0 := 3) (pc' := 10) rfl (hb hby d29_3) rfl (tlt hlt).1 (by decide) (by decide) ?_
    refine XS.iconst X0.here hx rfl (hb hby d29_10) ?_
    exact kt
  exact own_end X0 hlk (v := some (.int (1 : Int32))) (fun h => by rw [Bd.returns] at h; cases h) (fun fs hr => retI X0 hx Bd.returns (hb hby d29_11) hr) (by rw [e0]; exact ⟨rfl, N0, rfl⟩) (by decide : 0 ≤ _) (by decide : 0 ≤ _)
theorem own_ic (a b : Int32) : f_rmIC a b < 0 ↔ a < b := by
  unfold f_rmIC
  by_cases h : a < b
  · rw [if_pos h]; exact ⟨fun _ => h, fun _ => by decide⟩
  · rw [if_neg h]
    by_cases h2 : a = b
    · rw [if_pos h2]; exact ⟨fun q => absurd q (by decide), fun q => absurd q h⟩
    · rw [if_neg h2]; exact ⟨fun q => absurd q (by decide), fun q => absurd q h⟩
theorem own_icl {a b : Int32} (h : a < b) : f_rmIC a b = -1 := by unfold f_rmIC; rw [if_pos h]
theorem own_icg {a b : Int32} (h : b < a) : f_rmIC a b = 1 := by
  unfold f_rmIC
  have h1 : ¬ a < b := by rw [Int32.lt_iff_toInt_lt] at *; omega
  have h2 : ¬ a = b := by rw [Int32.lt_iff_toInt_lt] at h; rw [← Int32.toInt_inj]; omega
  rw [if_neg h1, if_neg h2]
theorem own_ice (a : Int32) : f_rmIC a a = 0 := by
  unfold f_rmIC
  have h1 : ¬ a < a := by rw [Int32.lt_iff_toInt_lt]; omega
  rw [if_neg h1, if_pos rfl]
theorem own_x (x : Int32) : (-1 : Int32) < x &&& (255 : Int32) := by
  rw [Int32.lt_iff_toInt_lt]
  have h := c_mask x 255 8 (by decide) (by decide)
  have e : (-1 : Int32).toInt = -1 := rfl
  omega
theorem own_xl (x : Int32) : (x &&& (255 : Int32)) < (65536 : Int32) := by
  rw [Int32.lt_iff_toInt_lt]
  have h := c_mask x 255 8 (by decide) (by decide)
  have e : (65536 : Int32).toInt = 65536 := rfl
  omega
theorem own_00 {k0 k1 : Int32} (h0 : k0 = (-1 : Int32)) (h1 : k1 = (-1 : Int32)) : f_rmIC (0 : Int32) (0 : Int32) = f_rmIC k0 k1 := by rw [h0, h1, own_ice, own_ice]
theorem own_01 {k0 k1 x1 : Int32} (h0 : k0 = (-1 : Int32)) (h1 : k1 = x1 &&& (255 : Int32)) : f_rmIC (0 : Int32) (1 : Int32) = f_rmIC k0 k1 := by rw [h0, h1, own_icl (own_x x1), own_icl (by decide)]
theorem own_10 {k0 k1 x0 : Int32} (h0 : k0 = x0 &&& (255 : Int32)) (h1 : k1 = (-1 : Int32)) : f_rmIC (1 : Int32) (0 : Int32) = f_rmIC k0 k1 := by rw [h0, h1, own_icg (own_x x0), own_icg (by decide)]
theorem own_11 {k0 k1 x0 x1 : Int32} (h0 : k0 = x0 &&& (255 : Int32)) (h1 : k1 = x1 &&& (255 : Int32)) (hc : x0 &&& (255 : Int32) = x1 &&& (255 : Int32)) : f_rmIC (1 : Int32) (1 : Int32) = f_rmIC k0 k1 := by rw [h0, h1, hc, own_ice, own_ice]
theorem own_1x {k0 k1 x0 x1 : Int32} (h0 : k0 = x0 &&& (255 : Int32)) (h1 : k1 = x1 &&& (255 : Int32)) : f_rmIC (x0 &&& (255 : Int32)) (x1 &&& (255 : Int32)) = f_rmIC k0 k1 := by rw [h0, h1]
theorem d18_0 : decode prog_2_method_2_code 0 = .ok (.iconst 0, 1) := by decide +kernel
theorem d18_1 : decode prog_2_method_2_code 1 = .ok (.istore_n 2, 1) := by decide +kernel
theorem d18_2 : decode prog_2_method_2_code 2 = .ok (.iload_n 2, 1) := by decide +kernel
theorem d18_3 : decode prog_2_method_2_code 3 = .ok (.aload_n 0, 1) := by decide +kernel
theorem pd__28_29I : parseMethodDescriptor "()I" = some ⟨[], some .int⟩ := by decide +kernel
theorem d18_4 : decode prog_2_method_2_code 4 = .ok (.invokevirtual 7, 3) := by decide +kernel
theorem d18_7 : decode prog_2_method_2_code 7 = .ok (.if_icmp .ge 47, 3) := by decide +kernel
theorem d18_54 : decode prog_2_method_2_code 54 = .ok (.aload_n 0, 1) := by decide +kernel
theorem d18_55 : decode prog_2_method_2_code 55 = .ok (.invokevirtual 7, 3) := by decide +kernel
theorem d18_58 : decode prog_2_method_2_code 58 = .ok (.aload_n 1, 1) := by decide +kernel
theorem d18_59 : decode prog_2_method_2_code 59 = .ok (.invokevirtual 7, 3) := by decide +kernel
theorem d18_62 : decode prog_2_method_2_code 62 = .ok (.invokestatic 17, 3) := by decide +kernel
theorem d18_65 : decode prog_2_method_2_code 65 = .ok (.ireturn, 1) := by decide +kernel
theorem d18_10 : decode prog_2_method_2_code 10 = .ok (.iload_n 2, 1) := by decide +kernel
theorem d18_11 : decode prog_2_method_2_code 11 = .ok (.aload_n 1, 1) := by decide +kernel
theorem d18_12 : decode prog_2_method_2_code 12 = .ok (.invokevirtual 7, 3) := by decide +kernel
theorem d18_15 : decode prog_2_method_2_code 15 = .ok (.if_icmp .ge 39, 3) := by decide +kernel
theorem d18_18 : decode prog_2_method_2_code 18 = .ok (.aload_n 0, 1) := by decide +kernel
theorem d18_19 : decode prog_2_method_2_code 19 = .ok (.iload_n 2, 1) := by decide +kernel
theorem pd__28I_29I : parseMethodDescriptor "(I)I" = some ⟨[.int], some .int⟩ := by decide +kernel
theorem d18_20 : decode prog_2_method_2_code 20 = .ok (.invokevirtual 13, 3) := by decide +kernel
theorem d18_23 : decode prog_2_method_2_code 23 = .ok (.istore_n 3, 1) := by decide +kernel
theorem d18_24 : decode prog_2_method_2_code 24 = .ok (.aload_n 1, 1) := by decide +kernel
theorem d18_25 : decode prog_2_method_2_code 25 = .ok (.iload_n 2, 1) := by decide +kernel
theorem d18_26 : decode prog_2_method_2_code 26 = .ok (.invokevirtual 13, 3) := by decide +kernel
theorem d18_29 : decode prog_2_method_2_code 29 = .ok (.istore 4, 2) := by decide +kernel
theorem d18_31 : decode prog_2_method_2_code 31 = .ok (.iload_n 3, 1) := by decide +kernel
theorem d18_32 : decode prog_2_method_2_code 32 = .ok (.iload 4, 2) := by decide +kernel
theorem d18_34 : decode prog_2_method_2_code 34 = .ok (.if_icmp .eq 10, 3) := by decide +kernel
theorem d18_44 : decode prog_2_method_2_code 44 = .ok (.iload_n 2, 1) := by decide +kernel
theorem d18_45 : decode prog_2_method_2_code 45 = .ok (.iload_n 3, 1) := by decide +kernel
theorem d18_46 : decode prog_2_method_2_code 46 = .ok (.invokestatic 23, 3) := by decide +kernel
theorem d18_49 : decode prog_2_method_2_code 49 = .ok (.iadd, 1) := by decide +kernel
theorem d18_50 : decode prog_2_method_2_code 50 = .ok (.istore_n 2, 1) := by decide +kernel
theorem d18_51 : decode prog_2_method_2_code 51 = .ok (.goto (-49), 3) := by decide +kernel
theorem d18_37 : decode prog_2_method_2_code 37 = .ok (.iload_n 3, 1) := by decide +kernel
theorem d18_38 : decode prog_2_method_2_code 38 = .ok (.iload 4, 2) := by decide +kernel
theorem d18_40 : decode prog_2_method_2_code 40 = .ok (.invokestatic 17, 3) := by decide +kernel
theorem d18_43 : decode prog_2_method_2_code 43 = .ok (.ireturn, 1) := by decide +kernel
theorem pn_com_example_tiphys_tiphys_CodePointOrder : plainName "com/example/tiphys/tiphys/CodePointOrder" = true := by first | (simp [plainName, overriddenIn]; done) | decide +kernel
theorem ef_rmCM (m : MethodId) (o0 : Addr) (o1 : Addr)  : entryFrame m #[(.ref o0), (.ref o1)] 5 = mkF m 0 #[.val (.ref o0), .val (.ref o1), .unset, .unset, .unset] [] := by first |  (simp [entryFrame, mkF, argsToLocals, Value.category]; done) | rfl
def Q_rmCM (Z : State) (o0 : Addr) (o1 : Addr) (ky0 : Int32) (ky1 : Int32) (cs : Int32) (fm : Value) (h0 : Heap) (n0 : Nat) (v : Option Value) (h : Heap) (L : List Loc) : Prop := v = some (.int (f_rmIC ky0 ky1)) ∧ Fr n0 L ∧ h = h0
set_option maxRecDepth 65536 in
set_option maxHeartbeats 40000000 in
theorem rmCM (l : Launch) (Z : State) (a0 : Array Value) (hw : ∀ d ∈ tables_1, d.before a0 Z = true) (ws : List Jvm.Cond) (o0 : Addr) (o1 : Addr) (ky0 : Int32) (ky1 : Int32) (cs : Int32) (fm : Value) (h0 : Heap) (n0 : Nat) (Z0 : n0 ≤ h0.size) (S0 : own_S Z h0 o0 ky0) (S1 : own_S Z h0 o1 ky1) (S_cs : Sta Z Z.heap "java/lang/String" "COMPACT_STRINGS" "Z" (.int cs)) (hcs : ¬ cs = (0 : Int32)) (S_fm : Sta Z Z.heap "jdk/internal/util/Preconditions" "SIOOBE_FORMATTER" "Ljava/util/function/BiFunction;" fm) (hfm : fm.isRef = true) (hO : Old Z n0 h0) :
    MetFree l (⟨"com/example/tiphys/tiphys/CodePointOrder", "compare", "(Ljava/lang/String;Ljava/lang/String;)I"⟩ : MethodName) (head1 (Jvm.Cond.code (⟨"com/example/tiphys/tiphys/CodePointOrder", "compare", "(Ljava/lang/String;Ljava/lang/String;)I"⟩ : MethodName) prog_2_method_2_code 5 (some .int) :: ws) ({ frames := 3, cells := 0, slots := 0, locals := 41 } : Room)) (fun a U => a = #[(.ref o0), (.ref o1)] ∧ Z.Warmed39 U.vm ∧ U.heap = h0) (fun _ _ _ _ _ => True) (fun _ U o U' => ∃ v L, o = .returned v ∧ Q_rmCM Z o0 o1 ky0 ky1 cs fm h0 n0 v U'.heap L ∧ FrameEnd U o U' L ({ frames := 3, cells := 0, slots := 0, locals := 41 } : Room).cells ({ frames := 3, cells := 0, slots := 0, locals := 41 } : Room).slots) := by
  refine MetFree.of_bodySF (plainFor_of_name pn_com_example_tiphys_tiphys_CodePointOrder) hisR ?_
  intro p e s m args below meth c s₁ Bd hml0 hP hK
  obtain ⟨rfl, hZ, hh⟩ := hP
  have hx := Bd.exec
  have hby := Bd.bytes
  have hml : c.maxLocals = 5 := hml0
  have hown : s.vm.findClass "com/example/tiphys/tiphys/CodePointOrder" = some m.cls := findClass_of_methodNamed Bd.named
  have hnm := (name_of_methodNamed Bd.named Bd.method).1
  have hlk := Bd.notSynchronized
  have X0 : Stand p l e ({ frames := 3, cells := 0, slots := 0, locals := 41 } : Room) s m #[(.ref o0), (.ref o1)] below meth c s₁ [] 0 0 := Stand.of_body Bd
  have e0 : s₁.heap = h0 := by rw [← hh, Bd.state]; rfl
  have N0 := Fr.nil n0
  show own_G p.tables e below s (Q_rmCM Z o0 o1 ky0 ky1 cs fm h0 n0) ({ frames := 3, cells := 0, slots := 0, locals := 41 } : Room).cells ({ frames := 3, cells := 0, slots := 0, locals := 41 } : Room).slots _
  refine own_thr (a := s₁.setTop (mkF m 0 #[.val (.ref o0), .val (.ref o1), .unset, .unset, .unset] [])) (fun t kt => castTop (ef_rmCM m o0 o1) kt) ?_
  obtain ⟨Ea0, Ca0, ba0, kc0, Va0, Da0⟩ := S0
  obtain ⟨Ea1, Ca1, ba1, kc1, Va1, Da1⟩ := S1
  rcases Da0 with ⟨hka0, Aa0⟩ | ⟨xa0, hka0, Aa0⟩ <;> rcases Da1 with ⟨hka1, Aa1⟩ | ⟨xa1, hka1, Aa1⟩
  · skip
    have S1 := S_cs.ext hO.2
    refine own_thr (a := s₁.setTop (mkF m 4 #[.val (.ref o0), .val (.ref o1), .val (.int (0 : Int32)), .unset, .unset] [(.ref o0), (.int (0 : Int32))])) (fun t kt => ?_) ?_
    · show Steps p.tables e below (s₁.setTop (mkF m 0 #[.val (.ref o0), .val (.ref o1), .unset, .unset, .unset] [])) _
      refine XS.iconst X0.here hx rfl (hb hby d18_0) ?_
      refine XS.istoreN X0.here hx rfl (hb hby d18_1) rfl (l' := #[.val (.ref o0), .val (.ref o1), .val (.int (0 : Int32)), .unset, .unset]) rfl ?_
      refine XS.iloadN X0.here hx rfl (hb hby d18_2) rfl ?_
      refine XS.aloadN X0.here hx rfl (hb hby d18_3) rfl rfl ?_
      exact kt
    obtain ⟨cq2, kq2, q2a, q2b, q2c⟩ := isOf hZ e0 Ea0
    obtain ⟨_, _, ⟨T2, L2, k2, n2⟩, -, X2, ⟨Lc2, hQ2, l2, y2, z2⟩, st2⟩ := X0.virtualBack hx (y := (⟨"java/lang/String", "length", "()I"⟩ : MethodName)) (z := (⟨"java/lang/String", "length", "()I"⟩ : MethodName)) hown (mvT hZ (hw _ (List.mem_of_getElem? (i := 115) rfl))) (mvT hZ (hw _ (List.mem_of_getElem? (i := 116) rfl))) (notFace_of_selects (args := #[]) (mvT hZ (hw _ (List.mem_of_getElem? (i := 118) rfl)))) (mvT hZ (hw _ (List.mem_of_getElem? (i := 118) rfl))) (mvT hZ (hw _ (List.mem_of_getElem? (i := 117) rfl))) (by decide) (backOf (W := 1) (rmLN0 l Z a0 hw [] o0 ba0 kc0 [] cs h0 n0 Z0 Ea0 Va0 Ca0 Aa0 S1 hcs) hZ (hw _ (List.mem_of_getElem? (i := 119) rfl)) (hw _ (List.mem_of_getElem? (i := 5) rfl)) (by decide) (by decide)) q2a q2c (g := (mkF m 4 #[.val (.ref o0), .val (.ref o1), .val (.int (0 : Int32)), .unset, .unset] [(.ref o0), (.int (0 : Int32))])) rfl (by rw [hml]; rfl) (Steps.refl _) (argsL := []) (rest := [(.int (0 : Int32))]) (lenOf pd__28_29I rfl) rfl (by show 2 * 0 + _ ≤ _; exact Nat.le_of_eq rfl) (hb hby d18_4) (fun _ _ => ⟨rfl, e0, (by decide : 0 + 0 ≤ _), (by decide : 0 + 0 ≤ _)⟩)
    dsimp only [Pt.U, Pt.locs, Pt.cells, Pt.slots] at X2 l2 y2 z2 st2 hQ2
    obtain ⟨rfl, N2q, e2⟩ := hQ2
    obtain ⟨lc2, X2, N2⟩ := own_pack X2 l2 y2 z2 N0 N2q (C := 0) (S' := 0) rfl rfl
    refine own_thr (a := T2.setTop (mkF m 7 #[.val (.ref o0), .val (.ref o1), .val (.int (0 : Int32)), .unset, .unset] [(.int (0 : Int32)), (.int (0 : Int32))])) (fun t kt => st2.trans kt) ?_
    have S3 := S_cs.ext hO.2
    refine own_thr (a := T2.setTop (mkF m 55 #[.val (.ref o0), .val (.ref o1), .val (.int (0 : Int32)), .unset, .unset] [(.ref o0)])) (fun t kt => ?_) ?_
    · show Steps p.tables e below (T2.setTop (mkF m 7 #[.val (.ref o0), .val (.ref o1), .val (.int (0 : Int32)), .unset, .unset] [(.int (0 : Int32)), (.int (0 : Int32))])) _
      refine XS.icmpYes X2.here hx rfl (pc0 := 7) (pc' := 54) rfl (hb hby d18_7) rfl (flt (by decide)).2.1 (by decide) (by decide) ?_
      refine XS.aloadN X2.here hx rfl (hb hby d18_54) rfl rfl ?_
      exact kt
    obtain ⟨cq4, kq4, q4a, q4b, q4c⟩ := isOf hZ e2 Ea0
    obtain ⟨_, _, ⟨T4, L4, k4, n4⟩, -, X4, ⟨Lc4, hQ4, l4, y4, z4⟩, st4⟩ := X2.virtualBack hx (y := (⟨"java/lang/String", "length", "()I"⟩ : MethodName)) (z := (⟨"java/lang/String", "length", "()I"⟩ : MethodName)) hown (mvT hZ (hw _ (List.mem_of_getElem? (i := 115) rfl))) (mvT hZ (hw _ (List.mem_of_getElem? (i := 116) rfl))) (notFace_of_selects (args := #[]) (mvT hZ (hw _ (List.mem_of_getElem? (i := 118) rfl)))) (mvT hZ (hw _ (List.mem_of_getElem? (i := 118) rfl))) (mvT hZ (hw _ (List.mem_of_getElem? (i := 117) rfl))) (by decide) (backOf (W := 0) (rmLN0 l Z a0 hw [] o0 ba0 kc0 [] cs h0 n0 Z0 Ea0 Va0 Ca0 Aa0 S3 hcs) hZ (hw _ (List.mem_of_getElem? (i := 119) rfl)) (hw _ (List.mem_of_getElem? (i := 5) rfl)) (by decide) (by decide)) q4a q4c (g := (mkF m 55 #[.val (.ref o0), .val (.ref o1), .val (.int (0 : Int32)), .unset, .unset] [(.ref o0)])) rfl (by rw [hml]; rfl) (Steps.refl _) (argsL := []) (rest := []) (lenOf pd__28_29I rfl) rfl (by show 2 * 0 + _ ≤ _; exact Nat.le_of_eq rfl) (hb hby d18_55) (fun _ _ => ⟨rfl, e2, (by decide : 0 + 0 ≤ _), (by decide : 0 + 0 ≤ _)⟩)
    dsimp only [Pt.U, Pt.locs, Pt.cells, Pt.slots] at X4 l4 y4 z4 st4 hQ4
    obtain ⟨rfl, N4q, e4⟩ := hQ4
    obtain ⟨lc4, X4, N4⟩ := own_pack X4 l4 y4 z4 N2 N4q (C := 0) (S' := 0) rfl rfl
    refine own_thr (a := T4.setTop (mkF m 58 #[.val (.ref o0), .val (.ref o1), .val (.int (0 : Int32)), .unset, .unset] [(.int (0 : Int32))])) (fun t kt => st4.trans kt) ?_
    have S5 := S_cs.ext hO.2
    refine own_thr (a := T4.setTop (mkF m 59 #[.val (.ref o0), .val (.ref o1), .val (.int (0 : Int32)), .unset, .unset] [(.ref o1), (.int (0 : Int32))])) (fun t kt => ?_) ?_
    · show Steps p.tables e below (T4.setTop (mkF m 58 #[.val (.ref o0), .val (.ref o1), .val (.int (0 : Int32)), .unset, .unset] [(.int (0 : Int32))])) _
      refine XS.aloadN X4.here hx rfl (hb hby d18_58) rfl rfl ?_
      exact kt
    obtain ⟨cq6, kq6, q6a, q6b, q6c⟩ := isOf hZ e4 Ea1
    obtain ⟨_, _, ⟨T6, L6, k6, n6⟩, -, X6, ⟨Lc6, hQ6, l6, y6, z6⟩, st6⟩ := X4.virtualBack hx (y := (⟨"java/lang/String", "length", "()I"⟩ : MethodName)) (z := (⟨"java/lang/String", "length", "()I"⟩ : MethodName)) hown (mvT hZ (hw _ (List.mem_of_getElem? (i := 115) rfl))) (mvT hZ (hw _ (List.mem_of_getElem? (i := 116) rfl))) (notFace_of_selects (args := #[]) (mvT hZ (hw _ (List.mem_of_getElem? (i := 118) rfl)))) (mvT hZ (hw _ (List.mem_of_getElem? (i := 118) rfl))) (mvT hZ (hw _ (List.mem_of_getElem? (i := 117) rfl))) (by decide) (backOf (W := 1) (rmLN0 l Z a0 hw [] o1 ba1 kc1 [] cs h0 n0 Z0 Ea1 Va1 Ca1 Aa1 S5 hcs) hZ (hw _ (List.mem_of_getElem? (i := 119) rfl)) (hw _ (List.mem_of_getElem? (i := 5) rfl)) (by decide) (by decide)) q6a q6c (g := (mkF m 59 #[.val (.ref o0), .val (.ref o1), .val (.int (0 : Int32)), .unset, .unset] [(.ref o1), (.int (0 : Int32))])) rfl (by rw [hml]; rfl) (Steps.refl _) (argsL := []) (rest := [(.int (0 : Int32))]) (lenOf pd__28_29I rfl) rfl (by show 2 * 0 + _ ≤ _; exact Nat.le_of_eq rfl) (hb hby d18_59) (fun _ _ => ⟨rfl, e4, (by decide : 0 + 0 ≤ _), (by decide : 0 + 0 ≤ _)⟩)
    dsimp only [Pt.U, Pt.locs, Pt.cells, Pt.slots] at X6 l6 y6 z6 st6 hQ6
    obtain ⟨rfl, N6q, e6⟩ := hQ6
    obtain ⟨lc6, X6, N6⟩ := own_pack X6 l6 y6 z6 N4 N6q (C := 0) (S' := 0) rfl rfl
    refine own_thr (a := T6.setTop (mkF m 62 #[.val (.ref o0), .val (.ref o1), .val (.int (0 : Int32)), .unset, .unset] [(.int (0 : Int32)), (.int (0 : Int32))])) (fun t kt => st6.trans kt) ?_
    obtain ⟨_, _, ⟨T7, L7, k7, n7⟩, -, X7, ⟨Lc7, hQ7, l7, y7, z7⟩, st7⟩ := Jvm.LawKit.callS X6 hx (y := (⟨"java/lang/Integer", "compare", "(II)I"⟩ : MethodName)) hown (mvT hZ (hw _ (List.mem_of_getElem? (i := 128) rfl))) (mvT hZ (hw _ (List.mem_of_getElem? (i := 129) rfl))) (mvT hZ (hw _ (List.mem_of_getElem? (i := 130) rfl))) (mvT hZ (hw _ (List.mem_of_getElem? (i := 131) rfl))) (by decide) (backOf (W := 0) (rmIC l Z a0 hw [] (0 : Int32) (0 : Int32) h0 n0 Z0) hZ (hw _ (List.mem_of_getElem? (i := 131) rfl)) (hw _ (List.mem_of_getElem? (i := 130) rfl)) (by decide) (by decide)) (g := (mkF m 62 #[.val (.ref o0), .val (.ref o1), .val (.int (0 : Int32)), .unset, .unset] [(.int (0 : Int32)), (.int (0 : Int32))])) rfl (by rw [hml]; rfl) (argsL := [(.int (0 : Int32)), (.int (0 : Int32))]) (rest := []) (lenOf pd__28II_29I rfl) rfl (by show 2 * 0 + _ ≤ _; exact Nat.le_of_eq rfl) (hb hby d18_62) (fun _ _ => ⟨rfl, e6, (by decide : 0 + 0 ≤ _), (by decide : 0 + 0 ≤ _)⟩)
    dsimp only [Pt.U, Pt.locs, Pt.cells, Pt.slots] at X7 l7 y7 z7 st7 hQ7
    obtain ⟨rfl, N7q, e7⟩ := hQ7
    obtain ⟨lc7, X7, N7⟩ := own_pack X7 l7 y7 z7 N6 N7q (C := 0) (S' := 0) rfl rfl
    refine own_thr (a := T7.setTop (mkF m 65 #[.val (.ref o0), .val (.ref o1), .val (.int (0 : Int32)), .unset, .unset] [(.int (f_rmIC (0 : Int32) (0 : Int32)))])) (fun t kt => st7 t kt) ?_
    exact own_end X7 hlk (v := some (.int (f_rmIC (0 : Int32) (0 : Int32)))) (fun h => by rw [Bd.returns] at h; cases h) (fun fs hr => retI X7 hx Bd.returns (hb hby d18_65) hr) (by rw [e7]; exact ⟨congrArg (fun z => some (Value.int z)) (own_00 hka0 hka1), N7, rfl⟩) (by decide : 0 ≤ _) (by decide : 0 ≤ _)
  · skip
    have S8 := S_cs.ext hO.2
    refine own_thr (a := s₁.setTop (mkF m 4 #[.val (.ref o0), .val (.ref o1), .val (.int (0 : Int32)), .unset, .unset] [(.ref o0), (.int (0 : Int32))])) (fun t kt => ?_) ?_
    · show Steps p.tables e below (s₁.setTop (mkF m 0 #[.val (.ref o0), .val (.ref o1), .unset, .unset, .unset] [])) _
      refine XS.iconst X0.here hx rfl (hb hby d18_0) ?_
      refine XS.istoreN X0.here hx rfl (hb hby d18_1) rfl (l' := #[.val (.ref o0), .val (.ref o1), .val (.int (0 : Int32)), .unset, .unset]) rfl ?_
      refine XS.iloadN X0.here hx rfl (hb hby d18_2) rfl ?_
      refine XS.aloadN X0.here hx rfl (hb hby d18_3) rfl rfl ?_
      exact kt
    obtain ⟨cq9, kq9, q9a, q9b, q9c⟩ := isOf hZ e0 Ea0
    obtain ⟨_, _, ⟨T9, L9, k9, n9⟩, -, X9, ⟨Lc9, hQ9, l9, y9, z9⟩, st9⟩ := X0.virtualBack hx (y := (⟨"java/lang/String", "length", "()I"⟩ : MethodName)) (z := (⟨"java/lang/String", "length", "()I"⟩ : MethodName)) hown (mvT hZ (hw _ (List.mem_of_getElem? (i := 115) rfl))) (mvT hZ (hw _ (List.mem_of_getElem? (i := 116) rfl))) (notFace_of_selects (args := #[]) (mvT hZ (hw _ (List.mem_of_getElem? (i := 118) rfl)))) (mvT hZ (hw _ (List.mem_of_getElem? (i := 118) rfl))) (mvT hZ (hw _ (List.mem_of_getElem? (i := 117) rfl))) (by decide) (backOf (W := 1) (rmLN0 l Z a0 hw [] o0 ba0 kc0 [] cs h0 n0 Z0 Ea0 Va0 Ca0 Aa0 S8 hcs) hZ (hw _ (List.mem_of_getElem? (i := 119) rfl)) (hw _ (List.mem_of_getElem? (i := 5) rfl)) (by decide) (by decide)) q9a q9c (g := (mkF m 4 #[.val (.ref o0), .val (.ref o1), .val (.int (0 : Int32)), .unset, .unset] [(.ref o0), (.int (0 : Int32))])) rfl (by rw [hml]; rfl) (Steps.refl _) (argsL := []) (rest := [(.int (0 : Int32))]) (lenOf pd__28_29I rfl) rfl (by show 2 * 0 + _ ≤ _; exact Nat.le_of_eq rfl) (hb hby d18_4) (fun _ _ => ⟨rfl, e0, (by decide : 0 + 0 ≤ _), (by decide : 0 + 0 ≤ _)⟩)
    dsimp only [Pt.U, Pt.locs, Pt.cells, Pt.slots] at X9 l9 y9 z9 st9 hQ9
    obtain ⟨rfl, N9q, e9⟩ := hQ9
    obtain ⟨lc9, X9, N9⟩ := own_pack X9 l9 y9 z9 N0 N9q (C := 0) (S' := 0) rfl rfl
    refine own_thr (a := T9.setTop (mkF m 7 #[.val (.ref o0), .val (.ref o1), .val (.int (0 : Int32)), .unset, .unset] [(.int (0 : Int32)), (.int (0 : Int32))])) (fun t kt => st9.trans kt) ?_
    have S10 := S_cs.ext hO.2
    refine own_thr (a := T9.setTop (mkF m 55 #[.val (.ref o0), .val (.ref o1), .val (.int (0 : Int32)), .unset, .unset] [(.ref o0)])) (fun t kt => ?_) ?_
    · show Steps p.tables e below (T9.setTop (mkF m 7 #[.val (.ref o0), .val (.ref o1), .val (.int (0 : Int32)), .unset, .unset] [(.int (0 : Int32)), (.int (0 : Int32))])) _
      refine XS.icmpYes X9.here hx rfl (pc0 := 7) (pc' := 54) rfl (hb hby d18_7) rfl (flt (by decide)).2.1 (by decide) (by decide) ?_
      refine XS.aloadN X9.here hx rfl (hb hby d18_54) rfl rfl ?_
      exact kt
    obtain ⟨cq11, kq11, q11a, q11b, q11c⟩ := isOf hZ e9 Ea0
    obtain ⟨_, _, ⟨T11, L11, k11, n11⟩, -, X11, ⟨Lc11, hQ11, l11, y11, z11⟩, st11⟩ := X9.virtualBack hx (y := (⟨"java/lang/String", "length", "()I"⟩ : MethodName)) (z := (⟨"java/lang/String", "length", "()I"⟩ : MethodName)) hown (mvT hZ (hw _ (List.mem_of_getElem? (i := 115) rfl))) (mvT hZ (hw _ (List.mem_of_getElem? (i := 116) rfl))) (notFace_of_selects (args := #[]) (mvT hZ (hw _ (List.mem_of_getElem? (i := 118) rfl)))) (mvT hZ (hw _ (List.mem_of_getElem? (i := 118) rfl))) (mvT hZ (hw _ (List.mem_of_getElem? (i := 117) rfl))) (by decide) (backOf (W := 0) (rmLN0 l Z a0 hw [] o0 ba0 kc0 [] cs h0 n0 Z0 Ea0 Va0 Ca0 Aa0 S10 hcs) hZ (hw _ (List.mem_of_getElem? (i := 119) rfl)) (hw _ (List.mem_of_getElem? (i := 5) rfl)) (by decide) (by decide)) q11a q11c (g := (mkF m 55 #[.val (.ref o0), .val (.ref o1), .val (.int (0 : Int32)), .unset, .unset] [(.ref o0)])) rfl (by rw [hml]; rfl) (Steps.refl _) (argsL := []) (rest := []) (lenOf pd__28_29I rfl) rfl (by show 2 * 0 + _ ≤ _; exact Nat.le_of_eq rfl) (hb hby d18_55) (fun _ _ => ⟨rfl, e9, (by decide : 0 + 0 ≤ _), (by decide : 0 + 0 ≤ _)⟩)
    dsimp only [Pt.U, Pt.locs, Pt.cells, Pt.slots] at X11 l11 y11 z11 st11 hQ11
    obtain ⟨rfl, N11q, e11⟩ := hQ11
    obtain ⟨lc11, X11, N11⟩ := own_pack X11 l11 y11 z11 N9 N11q (C := 0) (S' := 0) rfl rfl
    refine own_thr (a := T11.setTop (mkF m 58 #[.val (.ref o0), .val (.ref o1), .val (.int (0 : Int32)), .unset, .unset] [(.int (0 : Int32))])) (fun t kt => st11.trans kt) ?_
    have S12 := S_cs.ext hO.2
    refine own_thr (a := T11.setTop (mkF m 59 #[.val (.ref o0), .val (.ref o1), .val (.int (0 : Int32)), .unset, .unset] [(.ref o1), (.int (0 : Int32))])) (fun t kt => ?_) ?_
    · show Steps p.tables e below (T11.setTop (mkF m 58 #[.val (.ref o0), .val (.ref o1), .val (.int (0 : Int32)), .unset, .unset] [(.int (0 : Int32))])) _
      refine XS.aloadN X11.here hx rfl (hb hby d18_58) rfl rfl ?_
      exact kt
    obtain ⟨cq13, kq13, q13a, q13b, q13c⟩ := isOf hZ e11 Ea1
    obtain ⟨_, _, ⟨T13, L13, k13, n13⟩, -, X13, ⟨Lc13, hQ13, l13, y13, z13⟩, st13⟩ := X11.virtualBack hx (y := (⟨"java/lang/String", "length", "()I"⟩ : MethodName)) (z := (⟨"java/lang/String", "length", "()I"⟩ : MethodName)) hown (mvT hZ (hw _ (List.mem_of_getElem? (i := 115) rfl))) (mvT hZ (hw _ (List.mem_of_getElem? (i := 116) rfl))) (notFace_of_selects (args := #[]) (mvT hZ (hw _ (List.mem_of_getElem? (i := 118) rfl)))) (mvT hZ (hw _ (List.mem_of_getElem? (i := 118) rfl))) (mvT hZ (hw _ (List.mem_of_getElem? (i := 117) rfl))) (by decide) (backOf (W := 1) (rmLN1 l Z a0 hw [] o1 ba1 kc1 [(.int xa1)] cs h0 n0 Z0 Ea1 Va1 Ca1 Aa1 S12 hcs) hZ (hw _ (List.mem_of_getElem? (i := 119) rfl)) (hw _ (List.mem_of_getElem? (i := 5) rfl)) (by decide) (by decide)) q13a q13c (g := (mkF m 59 #[.val (.ref o0), .val (.ref o1), .val (.int (0 : Int32)), .unset, .unset] [(.ref o1), (.int (0 : Int32))])) rfl (by rw [hml]; rfl) (Steps.refl _) (argsL := []) (rest := [(.int (0 : Int32))]) (lenOf pd__28_29I rfl) rfl (by show 2 * 0 + _ ≤ _; exact Nat.le_of_eq rfl) (hb hby d18_59) (fun _ _ => ⟨rfl, e11, (by decide : 0 + 0 ≤ _), (by decide : 0 + 0 ≤ _)⟩)
    dsimp only [Pt.U, Pt.locs, Pt.cells, Pt.slots] at X13 l13 y13 z13 st13 hQ13
    obtain ⟨rfl, N13q, e13⟩ := hQ13
    obtain ⟨lc13, X13, N13⟩ := own_pack X13 l13 y13 z13 N11 N13q (C := 0) (S' := 0) rfl rfl
    refine own_thr (a := T13.setTop (mkF m 62 #[.val (.ref o0), .val (.ref o1), .val (.int (0 : Int32)), .unset, .unset] [(.int (1 : Int32)), (.int (0 : Int32))])) (fun t kt => st13.trans kt) ?_
    obtain ⟨_, _, ⟨T14, L14, k14, n14⟩, -, X14, ⟨Lc14, hQ14, l14, y14, z14⟩, st14⟩ := Jvm.LawKit.callS X13 hx (y := (⟨"java/lang/Integer", "compare", "(II)I"⟩ : MethodName)) hown (mvT hZ (hw _ (List.mem_of_getElem? (i := 128) rfl))) (mvT hZ (hw _ (List.mem_of_getElem? (i := 129) rfl))) (mvT hZ (hw _ (List.mem_of_getElem? (i := 130) rfl))) (mvT hZ (hw _ (List.mem_of_getElem? (i := 131) rfl))) (by decide) (backOf (W := 0) (rmIC l Z a0 hw [] (0 : Int32) (1 : Int32) h0 n0 Z0) hZ (hw _ (List.mem_of_getElem? (i := 131) rfl)) (hw _ (List.mem_of_getElem? (i := 130) rfl)) (by decide) (by decide)) (g := (mkF m 62 #[.val (.ref o0), .val (.ref o1), .val (.int (0 : Int32)), .unset, .unset] [(.int (1 : Int32)), (.int (0 : Int32))])) rfl (by rw [hml]; rfl) (argsL := [(.int (0 : Int32)), (.int (1 : Int32))]) (rest := []) (lenOf pd__28II_29I rfl) rfl (by show 2 * 0 + _ ≤ _; exact Nat.le_of_eq rfl) (hb hby d18_62) (fun _ _ => ⟨rfl, e13, (by decide : 0 + 0 ≤ _), (by decide : 0 + 0 ≤ _)⟩)
    dsimp only [Pt.U, Pt.locs, Pt.cells, Pt.slots] at X14 l14 y14 z14 st14 hQ14
    obtain ⟨rfl, N14q, e14⟩ := hQ14
    obtain ⟨lc14, X14, N14⟩ := own_pack X14 l14 y14 z14 N13 N14q (C := 0) (S' := 0) rfl rfl
    refine own_thr (a := T14.setTop (mkF m 65 #[.val (.ref o0), .val (.ref o1), .val (.int (0 : Int32)), .unset, .unset] [(.int (f_rmIC (0 : Int32) (1 : Int32)))])) (fun t kt => st14 t kt) ?_
    exact own_end X14 hlk (v := some (.int (f_rmIC (0 : Int32) (1 : Int32)))) (fun h => by rw [Bd.returns] at h; cases h) (fun fs hr => retI X14 hx Bd.returns (hb hby d18_65) hr) (by rw [e14]; exact ⟨congrArg (fun z => some (Value.int z)) (own_01 hka0 hka1), N14, rfl⟩) (by decide : 0 ≤ _) (by decide : 0 ≤ _)
  · skip
    have S15 := S_cs.ext hO.2
    refine own_thr (a := s₁.setTop (mkF m 4 #[.val (.ref o0), .val (.ref o1), .val (.int (0 : Int32)), .unset, .unset] [(.ref o0), (.int (0 : Int32))])) (fun t kt => ?_) ?_
    · show Steps p.tables e below (s₁.setTop (mkF m 0 #[.val (.ref o0), .val (.ref o1), .unset, .unset, .unset] [])) _
      refine XS.iconst X0.here hx rfl (hb hby d18_0) ?_
      refine XS.istoreN X0.here hx rfl (hb hby d18_1) rfl (l' := #[.val (.ref o0), .val (.ref o1), .val (.int (0 : Int32)), .unset, .unset]) rfl ?_
      refine XS.iloadN X0.here hx rfl (hb hby d18_2) rfl ?_
      refine XS.aloadN X0.here hx rfl (hb hby d18_3) rfl rfl ?_
      exact kt
    obtain ⟨cq16, kq16, q16a, q16b, q16c⟩ := isOf hZ e0 Ea0
    obtain ⟨_, _, ⟨T16, L16, k16, n16⟩, -, X16, ⟨Lc16, hQ16, l16, y16, z16⟩, st16⟩ := X0.virtualBack hx (y := (⟨"java/lang/String", "length", "()I"⟩ : MethodName)) (z := (⟨"java/lang/String", "length", "()I"⟩ : MethodName)) hown (mvT hZ (hw _ (List.mem_of_getElem? (i := 115) rfl))) (mvT hZ (hw _ (List.mem_of_getElem? (i := 116) rfl))) (notFace_of_selects (args := #[]) (mvT hZ (hw _ (List.mem_of_getElem? (i := 118) rfl)))) (mvT hZ (hw _ (List.mem_of_getElem? (i := 118) rfl))) (mvT hZ (hw _ (List.mem_of_getElem? (i := 117) rfl))) (by decide) (backOf (W := 1) (rmLN1 l Z a0 hw [] o0 ba0 kc0 [(.int xa0)] cs h0 n0 Z0 Ea0 Va0 Ca0 Aa0 S15 hcs) hZ (hw _ (List.mem_of_getElem? (i := 119) rfl)) (hw _ (List.mem_of_getElem? (i := 5) rfl)) (by decide) (by decide)) q16a q16c (g := (mkF m 4 #[.val (.ref o0), .val (.ref o1), .val (.int (0 : Int32)), .unset, .unset] [(.ref o0), (.int (0 : Int32))])) rfl (by rw [hml]; rfl) (Steps.refl _) (argsL := []) (rest := [(.int (0 : Int32))]) (lenOf pd__28_29I rfl) rfl (by show 2 * 0 + _ ≤ _; exact Nat.le_of_eq rfl) (hb hby d18_4) (fun _ _ => ⟨rfl, e0, (by decide : 0 + 0 ≤ _), (by decide : 0 + 0 ≤ _)⟩)
    dsimp only [Pt.U, Pt.locs, Pt.cells, Pt.slots] at X16 l16 y16 z16 st16 hQ16
    obtain ⟨rfl, N16q, e16⟩ := hQ16
    obtain ⟨lc16, X16, N16⟩ := own_pack X16 l16 y16 z16 N0 N16q (C := 0) (S' := 0) rfl rfl
    refine own_thr (a := T16.setTop (mkF m 7 #[.val (.ref o0), .val (.ref o1), .val (.int (0 : Int32)), .unset, .unset] [(.int (1 : Int32)), (.int (0 : Int32))])) (fun t kt => st16.trans kt) ?_
    have S17 := S_cs.ext hO.2
    refine own_thr (a := T16.setTop (mkF m 12 #[.val (.ref o0), .val (.ref o1), .val (.int (0 : Int32)), .unset, .unset] [(.ref o1), (.int (0 : Int32))])) (fun t kt => ?_) ?_
    · show Steps p.tables e below (T16.setTop (mkF m 7 #[.val (.ref o0), .val (.ref o1), .val (.int (0 : Int32)), .unset, .unset] [(.int (1 : Int32)), (.int (0 : Int32))])) _
      refine XS.icmpNo X16.here hx rfl (hb hby d18_7) rfl (tlt (by decide)).2.1 ?_
      refine XS.iloadN X16.here hx rfl (hb hby d18_10) rfl ?_
      refine XS.aloadN X16.here hx rfl (hb hby d18_11) rfl rfl ?_
      exact kt
    obtain ⟨cq18, kq18, q18a, q18b, q18c⟩ := isOf hZ e16 Ea1
    obtain ⟨_, _, ⟨T18, L18, k18, n18⟩, -, X18, ⟨Lc18, hQ18, l18, y18, z18⟩, st18⟩ := X16.virtualBack hx (y := (⟨"java/lang/String", "length", "()I"⟩ : MethodName)) (z := (⟨"java/lang/String", "length", "()I"⟩ : MethodName)) hown (mvT hZ (hw _ (List.mem_of_getElem? (i := 115) rfl))) (mvT hZ (hw _ (List.mem_of_getElem? (i := 116) rfl))) (notFace_of_selects (args := #[]) (mvT hZ (hw _ (List.mem_of_getElem? (i := 118) rfl)))) (mvT hZ (hw _ (List.mem_of_getElem? (i := 118) rfl))) (mvT hZ (hw _ (List.mem_of_getElem? (i := 117) rfl))) (by decide) (backOf (W := 1) (rmLN0 l Z a0 hw [] o1 ba1 kc1 [] cs h0 n0 Z0 Ea1 Va1 Ca1 Aa1 S17 hcs) hZ (hw _ (List.mem_of_getElem? (i := 119) rfl)) (hw _ (List.mem_of_getElem? (i := 5) rfl)) (by decide) (by decide)) q18a q18c (g := (mkF m 12 #[.val (.ref o0), .val (.ref o1), .val (.int (0 : Int32)), .unset, .unset] [(.ref o1), (.int (0 : Int32))])) rfl (by rw [hml]; rfl) (Steps.refl _) (argsL := []) (rest := [(.int (0 : Int32))]) (lenOf pd__28_29I rfl) rfl (by show 2 * 0 + _ ≤ _; exact Nat.le_of_eq rfl) (hb hby d18_12) (fun _ _ => ⟨rfl, e16, (by decide : 0 + 0 ≤ _), (by decide : 0 + 0 ≤ _)⟩)
    dsimp only [Pt.U, Pt.locs, Pt.cells, Pt.slots] at X18 l18 y18 z18 st18 hQ18
    obtain ⟨rfl, N18q, e18⟩ := hQ18
    obtain ⟨lc18, X18, N18⟩ := own_pack X18 l18 y18 z18 N16 N18q (C := 0) (S' := 0) rfl rfl
    refine own_thr (a := T18.setTop (mkF m 15 #[.val (.ref o0), .val (.ref o1), .val (.int (0 : Int32)), .unset, .unset] [(.int (0 : Int32)), (.int (0 : Int32))])) (fun t kt => st18.trans kt) ?_
    have S19 := S_cs.ext hO.2
    refine own_thr (a := T18.setTop (mkF m 55 #[.val (.ref o0), .val (.ref o1), .val (.int (0 : Int32)), .unset, .unset] [(.ref o0)])) (fun t kt => ?_) ?_
    · show Steps p.tables e below (T18.setTop (mkF m 15 #[.val (.ref o0), .val (.ref o1), .val (.int (0 : Int32)), .unset, .unset] [(.int (0 : Int32)), (.int (0 : Int32))])) _
      refine XS.icmpYes X18.here hx rfl (pc0 := 15) (pc' := 54) rfl (hb hby d18_15) rfl (flt (by decide)).2.1 (by decide) (by decide) ?_
      refine XS.aloadN X18.here hx rfl (hb hby d18_54) rfl rfl ?_
      exact kt
    obtain ⟨cq20, kq20, q20a, q20b, q20c⟩ := isOf hZ e18 Ea0
    obtain ⟨_, _, ⟨T20, L20, k20, n20⟩, -, X20, ⟨Lc20, hQ20, l20, y20, z20⟩, st20⟩ := X18.virtualBack hx (y := (⟨"java/lang/String", "length", "()I"⟩ : MethodName)) (z := (⟨"java/lang/String", "length", "()I"⟩ : MethodName)) hown (mvT hZ (hw _ (List.mem_of_getElem? (i := 115) rfl))) (mvT hZ (hw _ (List.mem_of_getElem? (i := 116) rfl))) (notFace_of_selects (args := #[]) (mvT hZ (hw _ (List.mem_of_getElem? (i := 118) rfl)))) (mvT hZ (hw _ (List.mem_of_getElem? (i := 118) rfl))) (mvT hZ (hw _ (List.mem_of_getElem? (i := 117) rfl))) (by decide) (backOf (W := 0) (rmLN1 l Z a0 hw [] o0 ba0 kc0 [(.int xa0)] cs h0 n0 Z0 Ea0 Va0 Ca0 Aa0 S19 hcs) hZ (hw _ (List.mem_of_getElem? (i := 119) rfl)) (hw _ (List.mem_of_getElem? (i := 5) rfl)) (by decide) (by decide)) q20a q20c (g := (mkF m 55 #[.val (.ref o0), .val (.ref o1), .val (.int (0 : Int32)), .unset, .unset] [(.ref o0)])) rfl (by rw [hml]; rfl) (Steps.refl _) (argsL := []) (rest := []) (lenOf pd__28_29I rfl) rfl (by show 2 * 0 + _ ≤ _; exact Nat.le_of_eq rfl) (hb hby d18_55) (fun _ _ => ⟨rfl, e18, (by decide : 0 + 0 ≤ _), (by decide : 0 + 0 ≤ _)⟩)
    dsimp only [Pt.U, Pt.locs, Pt.cells, Pt.slots] at X20 l20 y20 z20 st20 hQ20
    obtain ⟨rfl, N20q, e20⟩ := hQ20
    obtain ⟨lc20, X20, N20⟩ := own_pack X20 l20 y20 z20 N18 N20q (C := 0) (S' := 0) rfl rfl
    refine own_thr (a := T20.setTop (mkF m 58 #[.val (.ref o0), .val (.ref o1), .val (.int (0 : Int32)), .unset, .unset] [(.int (1 : Int32))])) (fun t kt => st20.trans kt) ?_
    have S21 := S_cs.ext hO.2
    refine own_thr (a := T20.setTop (mkF m 59 #[.val (.ref o0), .val (.ref o1), .val (.int (0 : Int32)), .unset, .unset] [(.ref o1), (.int (1 : Int32))])) (fun t kt => ?_) ?_
    · show Steps p.tables e below (T20.setTop (mkF m 58 #[.val (.ref o0), .val (.ref o1), .val (.int (0 : Int32)), .unset, .unset] [(.int (1 : Int32))])) _
      refine XS.aloadN X20.here hx rfl (hb hby d18_58) rfl rfl ?_
      exact kt
    obtain ⟨cq22, kq22, q22a, q22b, q22c⟩ := isOf hZ e20 Ea1
    obtain ⟨_, _, ⟨T22, L22, k22, n22⟩, -, X22, ⟨Lc22, hQ22, l22, y22, z22⟩, st22⟩ := X20.virtualBack hx (y := (⟨"java/lang/String", "length", "()I"⟩ : MethodName)) (z := (⟨"java/lang/String", "length", "()I"⟩ : MethodName)) hown (mvT hZ (hw _ (List.mem_of_getElem? (i := 115) rfl))) (mvT hZ (hw _ (List.mem_of_getElem? (i := 116) rfl))) (notFace_of_selects (args := #[]) (mvT hZ (hw _ (List.mem_of_getElem? (i := 118) rfl)))) (mvT hZ (hw _ (List.mem_of_getElem? (i := 118) rfl))) (mvT hZ (hw _ (List.mem_of_getElem? (i := 117) rfl))) (by decide) (backOf (W := 1) (rmLN0 l Z a0 hw [] o1 ba1 kc1 [] cs h0 n0 Z0 Ea1 Va1 Ca1 Aa1 S21 hcs) hZ (hw _ (List.mem_of_getElem? (i := 119) rfl)) (hw _ (List.mem_of_getElem? (i := 5) rfl)) (by decide) (by decide)) q22a q22c (g := (mkF m 59 #[.val (.ref o0), .val (.ref o1), .val (.int (0 : Int32)), .unset, .unset] [(.ref o1), (.int (1 : Int32))])) rfl (by rw [hml]; rfl) (Steps.refl _) (argsL := []) (rest := [(.int (1 : Int32))]) (lenOf pd__28_29I rfl) rfl (by show 2 * 0 + _ ≤ _; exact Nat.le_of_eq rfl) (hb hby d18_59) (fun _ _ => ⟨rfl, e20, (by decide : 0 + 0 ≤ _), (by decide : 0 + 0 ≤ _)⟩)
    dsimp only [Pt.U, Pt.locs, Pt.cells, Pt.slots] at X22 l22 y22 z22 st22 hQ22
    obtain ⟨rfl, N22q, e22⟩ := hQ22
    obtain ⟨lc22, X22, N22⟩ := own_pack X22 l22 y22 z22 N20 N22q (C := 0) (S' := 0) rfl rfl
    refine own_thr (a := T22.setTop (mkF m 62 #[.val (.ref o0), .val (.ref o1), .val (.int (0 : Int32)), .unset, .unset] [(.int (0 : Int32)), (.int (1 : Int32))])) (fun t kt => st22.trans kt) ?_
    obtain ⟨_, _, ⟨T23, L23, k23, n23⟩, -, X23, ⟨Lc23, hQ23, l23, y23, z23⟩, st23⟩ := Jvm.LawKit.callS X22 hx (y := (⟨"java/lang/Integer", "compare", "(II)I"⟩ : MethodName)) hown (mvT hZ (hw _ (List.mem_of_getElem? (i := 128) rfl))) (mvT hZ (hw _ (List.mem_of_getElem? (i := 129) rfl))) (mvT hZ (hw _ (List.mem_of_getElem? (i := 130) rfl))) (mvT hZ (hw _ (List.mem_of_getElem? (i := 131) rfl))) (by decide) (backOf (W := 0) (rmIC l Z a0 hw [] (1 : Int32) (0 : Int32) h0 n0 Z0) hZ (hw _ (List.mem_of_getElem? (i := 131) rfl)) (hw _ (List.mem_of_getElem? (i := 130) rfl)) (by decide) (by decide)) (g := (mkF m 62 #[.val (.ref o0), .val (.ref o1), .val (.int (0 : Int32)), .unset, .unset] [(.int (0 : Int32)), (.int (1 : Int32))])) rfl (by rw [hml]; rfl) (argsL := [(.int (1 : Int32)), (.int (0 : Int32))]) (rest := []) (lenOf pd__28II_29I rfl) rfl (by show 2 * 0 + _ ≤ _; exact Nat.le_of_eq rfl) (hb hby d18_62) (fun _ _ => ⟨rfl, e22, (by decide : 0 + 0 ≤ _), (by decide : 0 + 0 ≤ _)⟩)
    dsimp only [Pt.U, Pt.locs, Pt.cells, Pt.slots] at X23 l23 y23 z23 st23 hQ23
    obtain ⟨rfl, N23q, e23⟩ := hQ23
    obtain ⟨lc23, X23, N23⟩ := own_pack X23 l23 y23 z23 N22 N23q (C := 0) (S' := 0) rfl rfl
    refine own_thr (a := T23.setTop (mkF m 65 #[.val (.ref o0), .val (.ref o1), .val (.int (0 : Int32)), .unset, .unset] [(.int (f_rmIC (1 : Int32) (0 : Int32)))])) (fun t kt => st23 t kt) ?_
    exact own_end X23 hlk (v := some (.int (f_rmIC (1 : Int32) (0 : Int32)))) (fun h => by rw [Bd.returns] at h; cases h) (fun fs hr => retI X23 hx Bd.returns (hb hby d18_65) hr) (by rw [e23]; exact ⟨congrArg (fun z => some (Value.int z)) (own_10 hka0 hka1), N23, rfl⟩) (by decide : 0 ≤ _) (by decide : 0 ≤ _)
  · skip
    have S24 := S_cs.ext hO.2
    refine own_thr (a := s₁.setTop (mkF m 4 #[.val (.ref o0), .val (.ref o1), .val (.int (0 : Int32)), .unset, .unset] [(.ref o0), (.int (0 : Int32))])) (fun t kt => ?_) ?_
    · show Steps p.tables e below (s₁.setTop (mkF m 0 #[.val (.ref o0), .val (.ref o1), .unset, .unset, .unset] [])) _
      refine XS.iconst X0.here hx rfl (hb hby d18_0) ?_
      refine XS.istoreN X0.here hx rfl (hb hby d18_1) rfl (l' := #[.val (.ref o0), .val (.ref o1), .val (.int (0 : Int32)), .unset, .unset]) rfl ?_
      refine XS.iloadN X0.here hx rfl (hb hby d18_2) rfl ?_
      refine XS.aloadN X0.here hx rfl (hb hby d18_3) rfl rfl ?_
      exact kt
    obtain ⟨cq25, kq25, q25a, q25b, q25c⟩ := isOf hZ e0 Ea0
    obtain ⟨_, _, ⟨T25, L25, k25, n25⟩, -, X25, ⟨Lc25, hQ25, l25, y25, z25⟩, st25⟩ := X0.virtualBack hx (y := (⟨"java/lang/String", "length", "()I"⟩ : MethodName)) (z := (⟨"java/lang/String", "length", "()I"⟩ : MethodName)) hown (mvT hZ (hw _ (List.mem_of_getElem? (i := 115) rfl))) (mvT hZ (hw _ (List.mem_of_getElem? (i := 116) rfl))) (notFace_of_selects (args := #[]) (mvT hZ (hw _ (List.mem_of_getElem? (i := 118) rfl)))) (mvT hZ (hw _ (List.mem_of_getElem? (i := 118) rfl))) (mvT hZ (hw _ (List.mem_of_getElem? (i := 117) rfl))) (by decide) (backOf (W := 1) (rmLN1 l Z a0 hw [] o0 ba0 kc0 [(.int xa0)] cs h0 n0 Z0 Ea0 Va0 Ca0 Aa0 S24 hcs) hZ (hw _ (List.mem_of_getElem? (i := 119) rfl)) (hw _ (List.mem_of_getElem? (i := 5) rfl)) (by decide) (by decide)) q25a q25c (g := (mkF m 4 #[.val (.ref o0), .val (.ref o1), .val (.int (0 : Int32)), .unset, .unset] [(.ref o0), (.int (0 : Int32))])) rfl (by rw [hml]; rfl) (Steps.refl _) (argsL := []) (rest := [(.int (0 : Int32))]) (lenOf pd__28_29I rfl) rfl (by show 2 * 0 + _ ≤ _; exact Nat.le_of_eq rfl) (hb hby d18_4) (fun _ _ => ⟨rfl, e0, (by decide : 0 + 0 ≤ _), (by decide : 0 + 0 ≤ _)⟩)
    dsimp only [Pt.U, Pt.locs, Pt.cells, Pt.slots] at X25 l25 y25 z25 st25 hQ25
    obtain ⟨rfl, N25q, e25⟩ := hQ25
    obtain ⟨lc25, X25, N25⟩ := own_pack X25 l25 y25 z25 N0 N25q (C := 0) (S' := 0) rfl rfl
    refine own_thr (a := T25.setTop (mkF m 7 #[.val (.ref o0), .val (.ref o1), .val (.int (0 : Int32)), .unset, .unset] [(.int (1 : Int32)), (.int (0 : Int32))])) (fun t kt => st25.trans kt) ?_
    have S26 := S_cs.ext hO.2
    refine own_thr (a := T25.setTop (mkF m 12 #[.val (.ref o0), .val (.ref o1), .val (.int (0 : Int32)), .unset, .unset] [(.ref o1), (.int (0 : Int32))])) (fun t kt => ?_) ?_
    · show Steps p.tables e below (T25.setTop (mkF m 7 #[.val (.ref o0), .val (.ref o1), .val (.int (0 : Int32)), .unset, .unset] [(.int (1 : Int32)), (.int (0 : Int32))])) _
      refine XS.icmpNo X25.here hx rfl (hb hby d18_7) rfl (tlt (by decide)).2.1 ?_
      refine XS.iloadN X25.here hx rfl (hb hby d18_10) rfl ?_
      refine XS.aloadN X25.here hx rfl (hb hby d18_11) rfl rfl ?_
      exact kt
    obtain ⟨cq27, kq27, q27a, q27b, q27c⟩ := isOf hZ e25 Ea1
    obtain ⟨_, _, ⟨T27, L27, k27, n27⟩, -, X27, ⟨Lc27, hQ27, l27, y27, z27⟩, st27⟩ := X25.virtualBack hx (y := (⟨"java/lang/String", "length", "()I"⟩ : MethodName)) (z := (⟨"java/lang/String", "length", "()I"⟩ : MethodName)) hown (mvT hZ (hw _ (List.mem_of_getElem? (i := 115) rfl))) (mvT hZ (hw _ (List.mem_of_getElem? (i := 116) rfl))) (notFace_of_selects (args := #[]) (mvT hZ (hw _ (List.mem_of_getElem? (i := 118) rfl)))) (mvT hZ (hw _ (List.mem_of_getElem? (i := 118) rfl))) (mvT hZ (hw _ (List.mem_of_getElem? (i := 117) rfl))) (by decide) (backOf (W := 1) (rmLN1 l Z a0 hw [] o1 ba1 kc1 [(.int xa1)] cs h0 n0 Z0 Ea1 Va1 Ca1 Aa1 S26 hcs) hZ (hw _ (List.mem_of_getElem? (i := 119) rfl)) (hw _ (List.mem_of_getElem? (i := 5) rfl)) (by decide) (by decide)) q27a q27c (g := (mkF m 12 #[.val (.ref o0), .val (.ref o1), .val (.int (0 : Int32)), .unset, .unset] [(.ref o1), (.int (0 : Int32))])) rfl (by rw [hml]; rfl) (Steps.refl _) (argsL := []) (rest := [(.int (0 : Int32))]) (lenOf pd__28_29I rfl) rfl (by show 2 * 0 + _ ≤ _; exact Nat.le_of_eq rfl) (hb hby d18_12) (fun _ _ => ⟨rfl, e25, (by decide : 0 + 0 ≤ _), (by decide : 0 + 0 ≤ _)⟩)
    dsimp only [Pt.U, Pt.locs, Pt.cells, Pt.slots] at X27 l27 y27 z27 st27 hQ27
    obtain ⟨rfl, N27q, e27⟩ := hQ27
    obtain ⟨lc27, X27, N27⟩ := own_pack X27 l27 y27 z27 N25 N27q (C := 0) (S' := 0) rfl rfl
    refine own_thr (a := T27.setTop (mkF m 15 #[.val (.ref o0), .val (.ref o1), .val (.int (0 : Int32)), .unset, .unset] [(.int (1 : Int32)), (.int (0 : Int32))])) (fun t kt => st27.trans kt) ?_
    have S28 := S_cs.ext hO.2
    have S29 := S_fm.ext hO.2
    refine own_thr (a := T27.setTop (mkF m 20 #[.val (.ref o0), .val (.ref o1), .val (.int (0 : Int32)), .unset, .unset] [(.int (0 : Int32)), (.ref o0)])) (fun t kt => ?_) ?_
    · show Steps p.tables e below (T27.setTop (mkF m 15 #[.val (.ref o0), .val (.ref o1), .val (.int (0 : Int32)), .unset, .unset] [(.int (1 : Int32)), (.int (0 : Int32))])) _
      refine XS.icmpNo X27.here hx rfl (hb hby d18_15) rfl (tlt (by decide)).2.1 ?_
      refine XS.aloadN X27.here hx rfl (hb hby d18_18) rfl rfl ?_
      refine XS.iloadN X27.here hx rfl (hb hby d18_19) rfl ?_
      exact kt
    obtain ⟨cq30, kq30, q30a, q30b, q30c⟩ := isOf hZ e27 Ea0
    obtain ⟨_, _, ⟨T30, L30, k30, n30⟩, -, X30, ⟨Lc30, hQ30, l30, y30, z30⟩, st30⟩ := X27.virtualBack hx (y := (⟨"java/lang/String", "codePointAt", "(I)I"⟩ : MethodName)) (z := (⟨"java/lang/String", "codePointAt", "(I)I"⟩ : MethodName)) hown (mvT hZ (hw _ (List.mem_of_getElem? (i := 147) rfl))) (mvT hZ (hw _ (List.mem_of_getElem? (i := 148) rfl))) (notFace_of_selects (args := #[]) (mvT hZ (hw _ (List.mem_of_getElem? (i := 150) rfl)))) (mvT hZ (hw _ (List.mem_of_getElem? (i := 150) rfl))) (mvT hZ (hw _ (List.mem_of_getElem? (i := 149) rfl))) (by decide) (backOf (W := 0) (rmCA l Z a0 hw [] o0 ba0 kc0 xa0 cs fm h0 n0 Z0 Ea0 Va0 Ca0 Aa0 S28 S29 hcs hfm) hZ (hw _ (List.mem_of_getElem? (i := 151) rfl)) (hw _ (List.mem_of_getElem? (i := 5) rfl)) (by decide) (by decide)) q30a q30c (g := (mkF m 20 #[.val (.ref o0), .val (.ref o1), .val (.int (0 : Int32)), .unset, .unset] [(.int (0 : Int32)), (.ref o0)])) rfl (by rw [hml]; rfl) (Steps.refl _) (argsL := [(.int (0 : Int32))]) (rest := []) (lenOf pd__28I_29I rfl) rfl (by show 2 * 0 + _ ≤ _; exact Nat.le_of_eq rfl) (hb hby d18_20) (fun _ _ => ⟨rfl, e27, (by decide : 0 + 0 ≤ _), (by decide : 0 + 0 ≤ _)⟩)
    dsimp only [Pt.U, Pt.locs, Pt.cells, Pt.slots] at X30 l30 y30 z30 st30 hQ30
    obtain ⟨rfl, N30q, e30⟩ := hQ30
    obtain ⟨lc30, X30, N30⟩ := own_pack X30 l30 y30 z30 N27 N30q (C := 0) (S' := 0) rfl rfl
    refine own_thr (a := T30.setTop (mkF m 23 #[.val (.ref o0), .val (.ref o1), .val (.int (0 : Int32)), .unset, .unset] [(.int (xa0 &&& (255 : Int32)))])) (fun t kt => st30.trans kt) ?_
    have S31 := S_cs.ext hO.2
    have S32 := S_fm.ext hO.2
    refine own_thr (a := T30.setTop (mkF m 26 #[.val (.ref o0), .val (.ref o1), .val (.int (0 : Int32)), .val (.int (xa0 &&& (255 : Int32))), .unset] [(.int (0 : Int32)), (.ref o1)])) (fun t kt => ?_) ?_
    · show Steps p.tables e below (T30.setTop (mkF m 23 #[.val (.ref o0), .val (.ref o1), .val (.int (0 : Int32)), .unset, .unset] [(.int (xa0 &&& (255 : Int32)))])) _
      refine XS.istoreN X30.here hx rfl (hb hby d18_23) rfl (l' := #[.val (.ref o0), .val (.ref o1), .val (.int (0 : Int32)), .val (.int (xa0 &&& (255 : Int32))), .unset]) rfl ?_
      refine XS.aloadN X30.here hx rfl (hb hby d18_24) rfl rfl ?_
      refine XS.iloadN X30.here hx rfl (hb hby d18_25) rfl ?_
      exact kt
    obtain ⟨cq33, kq33, q33a, q33b, q33c⟩ := isOf hZ e30 Ea1
    obtain ⟨_, _, ⟨T33, L33, k33, n33⟩, -, X33, ⟨Lc33, hQ33, l33, y33, z33⟩, st33⟩ := X30.virtualBack hx (y := (⟨"java/lang/String", "codePointAt", "(I)I"⟩ : MethodName)) (z := (⟨"java/lang/String", "codePointAt", "(I)I"⟩ : MethodName)) hown (mvT hZ (hw _ (List.mem_of_getElem? (i := 147) rfl))) (mvT hZ (hw _ (List.mem_of_getElem? (i := 148) rfl))) (notFace_of_selects (args := #[]) (mvT hZ (hw _ (List.mem_of_getElem? (i := 150) rfl)))) (mvT hZ (hw _ (List.mem_of_getElem? (i := 150) rfl))) (mvT hZ (hw _ (List.mem_of_getElem? (i := 149) rfl))) (by decide) (backOf (W := 0) (rmCA l Z a0 hw [] o1 ba1 kc1 xa1 cs fm h0 n0 Z0 Ea1 Va1 Ca1 Aa1 S31 S32 hcs hfm) hZ (hw _ (List.mem_of_getElem? (i := 151) rfl)) (hw _ (List.mem_of_getElem? (i := 5) rfl)) (by decide) (by decide)) q33a q33c (g := (mkF m 26 #[.val (.ref o0), .val (.ref o1), .val (.int (0 : Int32)), .val (.int (xa0 &&& (255 : Int32))), .unset] [(.int (0 : Int32)), (.ref o1)])) rfl (by rw [hml]; rfl) (Steps.refl _) (argsL := [(.int (0 : Int32))]) (rest := []) (lenOf pd__28I_29I rfl) rfl (by show 2 * 0 + _ ≤ _; exact Nat.le_of_eq rfl) (hb hby d18_26) (fun _ _ => ⟨rfl, e30, (by decide : 0 + 0 ≤ _), (by decide : 0 + 0 ≤ _)⟩)
    dsimp only [Pt.U, Pt.locs, Pt.cells, Pt.slots] at X33 l33 y33 z33 st33 hQ33
    obtain ⟨rfl, N33q, e33⟩ := hQ33
    obtain ⟨lc33, X33, N33⟩ := own_pack X33 l33 y33 z33 N30 N33q (C := 0) (S' := 0) rfl rfl
    refine own_thr (a := T33.setTop (mkF m 29 #[.val (.ref o0), .val (.ref o1), .val (.int (0 : Int32)), .val (.int (xa0 &&& (255 : Int32))), .unset] [(.int (xa1 &&& (255 : Int32)))])) (fun t kt => st33.trans kt) ?_
    refine own_thr (a := T33.setTop (mkF m 34 #[.val (.ref o0), .val (.ref o1), .val (.int (0 : Int32)), .val (.int (xa0 &&& (255 : Int32))), .val (.int (xa1 &&& (255 : Int32)))] [(.int (xa1 &&& (255 : Int32))), (.int (xa0 &&& (255 : Int32)))])) (fun t kt => ?_) ?_
    · show Steps p.tables e below (T33.setTop (mkF m 29 #[.val (.ref o0), .val (.ref o1), .val (.int (0 : Int32)), .val (.int (xa0 &&& (255 : Int32))), .unset] [(.int (xa1 &&& (255 : Int32)))])) _
      refine XS.istore X33.here hx rfl (hb hby d18_29) rfl (l' := #[.val (.ref o0), .val (.ref o1), .val (.int (0 : Int32)), .val (.int (xa0 &&& (255 : Int32))), .val (.int (xa1 &&& (255 : Int32)))]) rfl ?_
      refine XS.iloadN X33.here hx rfl (hb hby d18_31) rfl ?_
      refine XS.iload X33.here hx rfl (hb hby d18_32) rfl ?_
      exact kt
    by_cases hc34 : (xa0 &&& (255 : Int32)) = (xa1 &&& (255 : Int32))
    · refine own_thr (a := T33.setTop (mkF m 46 #[.val (.ref o0), .val (.ref o1), .val (.int (0 : Int32)), .val (.int (xa0 &&& (255 : Int32))), .val (.int (xa1 &&& (255 : Int32)))] [(.int (xa0 &&& (255 : Int32))), (.int (0 : Int32))])) (fun t kt => ?_) ?_
      · show Steps p.tables e below (T33.setTop (mkF m 34 #[.val (.ref o0), .val (.ref o1), .val (.int (0 : Int32)), .val (.int (xa0 &&& (255 : Int32))), .val (.int (xa1 &&& (255 : Int32)))] [(.int (xa1 &&& (255 : Int32))), (.int (xa0 &&& (255 : Int32)))])) _
        refine XS.icmpYes X33.here hx rfl (pc0 := 34) (pc' := 44) rfl (hb hby d18_34) rfl (teq hc34).1 (by decide) (by decide) ?_
        refine XS.iloadN X33.here hx rfl (hb hby d18_44) rfl ?_
        refine XS.iloadN X33.here hx rfl (hb hby d18_45) rfl ?_
        exact kt
      obtain ⟨_, _, ⟨T35, L35, k35, n35⟩, -, X35, ⟨Lc35, hQ35, l35, y35, z35⟩, st35⟩ := Jvm.LawKit.callS X33 hx (y := (⟨"java/lang/Character", "charCount", "(I)I"⟩ : MethodName)) hown (mvT hZ (hw _ (List.mem_of_getElem? (i := 162) rfl))) (mvT hZ (hw _ (List.mem_of_getElem? (i := 163) rfl))) (mvT hZ (hw _ (List.mem_of_getElem? (i := 164) rfl))) (mvT hZ (hw _ (List.mem_of_getElem? (i := 165) rfl))) (by decide) (backOf (W := 1) (rmCC l Z a0 hw [] (xa0 &&& (255 : Int32)) h0 n0 Z0 (own_xl xa0)) hZ (hw _ (List.mem_of_getElem? (i := 165) rfl)) (hw _ (List.mem_of_getElem? (i := 164) rfl)) (by decide) (by decide)) (g := (mkF m 46 #[.val (.ref o0), .val (.ref o1), .val (.int (0 : Int32)), .val (.int (xa0 &&& (255 : Int32))), .val (.int (xa1 &&& (255 : Int32)))] [(.int (xa0 &&& (255 : Int32))), (.int (0 : Int32))])) rfl (by rw [hml]; rfl) (argsL := [(.int (xa0 &&& (255 : Int32)))]) (rest := [(.int (0 : Int32))]) (lenOf pd__28I_29I rfl) rfl (by show 2 * 0 + _ ≤ _; exact Nat.le_of_eq rfl) (hb hby d18_46) (fun _ _ => ⟨rfl, e33, (by decide : 0 + 0 ≤ _), (by decide : 0 + 0 ≤ _)⟩)
      dsimp only [Pt.U, Pt.locs, Pt.cells, Pt.slots] at X35 l35 y35 z35 st35 hQ35
      obtain ⟨rfl, N35q, e35⟩ := hQ35
      obtain ⟨lc35, X35, N35⟩ := own_pack X35 l35 y35 z35 N33 N35q (C := 0) (S' := 0) rfl rfl
      refine own_thr (a := T35.setTop (mkF m 49 #[.val (.ref o0), .val (.ref o1), .val (.int (0 : Int32)), .val (.int (xa0 &&& (255 : Int32))), .val (.int (xa1 &&& (255 : Int32)))] [(.int (1 : Int32)), (.int (0 : Int32))])) (fun t kt => st35 t kt) ?_
      have S36 := S_cs.ext hO.2
      refine own_thr (a := T35.setTop (mkF m 4 #[.val (.ref o0), .val (.ref o1), .val (.int (1 : Int32)), .val (.int (xa0 &&& (255 : Int32))), .val (.int (xa1 &&& (255 : Int32)))] [(.ref o0), (.int (1 : Int32))])) (fun t kt => ?_) ?_
      · show Steps p.tables e below (T35.setTop (mkF m 49 #[.val (.ref o0), .val (.ref o1), .val (.int (0 : Int32)), .val (.int (xa0 &&& (255 : Int32))), .val (.int (xa1 &&& (255 : Int32)))] [(.int (1 : Int32)), (.int (0 : Int32))])) _
        refine XS.iadd X35.here hx rfl (hb hby d18_49) rfl ?_
        refine XS.istoreN X35.here hx rfl (hb hby d18_50) rfl (l' := #[.val (.ref o0), .val (.ref o1), .val (.int (1 : Int32)), .val (.int (xa0 &&& (255 : Int32))), .val (.int (xa1 &&& (255 : Int32)))]) rfl ?_
        refine XS.goto X35.here hx rfl (pc0 := 51) (pc' := 2) rfl (hb hby d18_51) (by decide) (by decide) ?_
        refine XS.iloadN X35.here hx rfl (hb hby d18_2) rfl ?_
        refine XS.aloadN X35.here hx rfl (hb hby d18_3) rfl rfl ?_
        exact kt
      obtain ⟨cq37, kq37, q37a, q37b, q37c⟩ := isOf hZ e35 Ea0
      obtain ⟨_, _, ⟨T37, L37, k37, n37⟩, -, X37, ⟨Lc37, hQ37, l37, y37, z37⟩, st37⟩ := X35.virtualBack hx (y := (⟨"java/lang/String", "length", "()I"⟩ : MethodName)) (z := (⟨"java/lang/String", "length", "()I"⟩ : MethodName)) hown (mvT hZ (hw _ (List.mem_of_getElem? (i := 115) rfl))) (mvT hZ (hw _ (List.mem_of_getElem? (i := 116) rfl))) (notFace_of_selects (args := #[]) (mvT hZ (hw _ (List.mem_of_getElem? (i := 118) rfl)))) (mvT hZ (hw _ (List.mem_of_getElem? (i := 118) rfl))) (mvT hZ (hw _ (List.mem_of_getElem? (i := 117) rfl))) (by decide) (backOf (W := 1) (rmLN1 l Z a0 hw [] o0 ba0 kc0 [(.int xa0)] cs h0 n0 Z0 Ea0 Va0 Ca0 Aa0 S36 hcs) hZ (hw _ (List.mem_of_getElem? (i := 119) rfl)) (hw _ (List.mem_of_getElem? (i := 5) rfl)) (by decide) (by decide)) q37a q37c (g := (mkF m 4 #[.val (.ref o0), .val (.ref o1), .val (.int (1 : Int32)), .val (.int (xa0 &&& (255 : Int32))), .val (.int (xa1 &&& (255 : Int32)))] [(.ref o0), (.int (1 : Int32))])) rfl (by rw [hml]; rfl) (Steps.refl _) (argsL := []) (rest := [(.int (1 : Int32))]) (lenOf pd__28_29I rfl) rfl (by show 2 * 0 + _ ≤ _; exact Nat.le_of_eq rfl) (hb hby d18_4) (fun _ _ => ⟨rfl, e35, (by decide : 0 + 0 ≤ _), (by decide : 0 + 0 ≤ _)⟩)
      dsimp only [Pt.U, Pt.locs, Pt.cells, Pt.slots] at X37 l37 y37 z37 st37 hQ37
      obtain ⟨rfl, N37q, e37⟩ := hQ37
      obtain ⟨lc37, X37, N37⟩ := own_pack X37 l37 y37 z37 N35 N37q (C := 0) (S' := 0) rfl rfl
      refine own_thr (a := T37.setTop (mkF m 7 #[.val (.ref o0), .val (.ref o1), .val (.int (1 : Int32)), .val (.int (xa0 &&& (255 : Int32))), .val (.int (xa1 &&& (255 : Int32)))] [(.int (1 : Int32)), (.int (1 : Int32))])) (fun t kt => st37.trans kt) ?_
      have S38 := S_cs.ext hO.2
      refine own_thr (a := T37.setTop (mkF m 55 #[.val (.ref o0), .val (.ref o1), .val (.int (1 : Int32)), .val (.int (xa0 &&& (255 : Int32))), .val (.int (xa1 &&& (255 : Int32)))] [(.ref o0)])) (fun t kt => ?_) ?_
      · show Steps p.tables e below (T37.setTop (mkF m 7 #[.val (.ref o0), .val (.ref o1), .val (.int (1 : Int32)), .val (.int (xa0 &&& (255 : Int32))), .val (.int (xa1 &&& (255 : Int32)))] [(.int (1 : Int32)), (.int (1 : Int32))])) _
        refine XS.icmpYes X37.here hx rfl (pc0 := 7) (pc' := 54) rfl (hb hby d18_7) rfl (flt (by decide)).2.1 (by decide) (by decide) ?_
        refine XS.aloadN X37.here hx rfl (hb hby d18_54) rfl rfl ?_
        exact kt
      obtain ⟨cq39, kq39, q39a, q39b, q39c⟩ := isOf hZ e37 Ea0
      obtain ⟨_, _, ⟨T39, L39, k39, n39⟩, -, X39, ⟨Lc39, hQ39, l39, y39, z39⟩, st39⟩ := X37.virtualBack hx (y := (⟨"java/lang/String", "length", "()I"⟩ : MethodName)) (z := (⟨"java/lang/String", "length", "()I"⟩ : MethodName)) hown (mvT hZ (hw _ (List.mem_of_getElem? (i := 115) rfl))) (mvT hZ (hw _ (List.mem_of_getElem? (i := 116) rfl))) (notFace_of_selects (args := #[]) (mvT hZ (hw _ (List.mem_of_getElem? (i := 118) rfl)))) (mvT hZ (hw _ (List.mem_of_getElem? (i := 118) rfl))) (mvT hZ (hw _ (List.mem_of_getElem? (i := 117) rfl))) (by decide) (backOf (W := 0) (rmLN1 l Z a0 hw [] o0 ba0 kc0 [(.int xa0)] cs h0 n0 Z0 Ea0 Va0 Ca0 Aa0 S38 hcs) hZ (hw _ (List.mem_of_getElem? (i := 119) rfl)) (hw _ (List.mem_of_getElem? (i := 5) rfl)) (by decide) (by decide)) q39a q39c (g := (mkF m 55 #[.val (.ref o0), .val (.ref o1), .val (.int (1 : Int32)), .val (.int (xa0 &&& (255 : Int32))), .val (.int (xa1 &&& (255 : Int32)))] [(.ref o0)])) rfl (by rw [hml]; rfl) (Steps.refl _) (argsL := []) (rest := []) (lenOf pd__28_29I rfl) rfl (by show 2 * 0 + _ ≤ _; exact Nat.le_of_eq rfl) (hb hby d18_55) (fun _ _ => ⟨rfl, e37, (by decide : 0 + 0 ≤ _), (by decide : 0 + 0 ≤ _)⟩)
      dsimp only [Pt.U, Pt.locs, Pt.cells, Pt.slots] at X39 l39 y39 z39 st39 hQ39
      obtain ⟨rfl, N39q, e39⟩ := hQ39
      obtain ⟨lc39, X39, N39⟩ := own_pack X39 l39 y39 z39 N37 N39q (C := 0) (S' := 0) rfl rfl
      refine own_thr (a := T39.setTop (mkF m 58 #[.val (.ref o0), .val (.ref o1), .val (.int (1 : Int32)), .val (.int (xa0 &&& (255 : Int32))), .val (.int (xa1 &&& (255 : Int32)))] [(.int (1 : Int32))])) (fun t kt => st39.trans kt) ?_
      have S40 := S_cs.ext hO.2
      refine own_thr (a := T39.setTop (mkF m 59 #[.val (.ref o0), .val (.ref o1), .val (.int (1 : Int32)), .val (.int (xa0 &&& (255 : Int32))), .val (.int (xa1 &&& (255 : Int32)))] [(.ref o1), (.int (1 : Int32))])) (fun t kt => ?_) ?_
      · show Steps p.tables e below (T39.setTop (mkF m 58 #[.val (.ref o0), .val (.ref o1), .val (.int (1 : Int32)), .val (.int (xa0 &&& (255 : Int32))), .val (.int (xa1 &&& (255 : Int32)))] [(.int (1 : Int32))])) _
        refine XS.aloadN X39.here hx rfl (hb hby d18_58) rfl rfl ?_
        exact kt
      obtain ⟨cq41, kq41, q41a, q41b, q41c⟩ := isOf hZ e39 Ea1
      obtain ⟨_, _, ⟨T41, L41, k41, n41⟩, -, X41, ⟨Lc41, hQ41, l41, y41, z41⟩, st41⟩ := X39.virtualBack hx (y := (⟨"java/lang/String", "length", "()I"⟩ : MethodName)) (z := (⟨"java/lang/String", "length", "()I"⟩ : MethodName)) hown (mvT hZ (hw _ (List.mem_of_getElem? (i := 115) rfl))) (mvT hZ (hw _ (List.mem_of_getElem? (i := 116) rfl))) (notFace_of_selects (args := #[]) (mvT hZ (hw _ (List.mem_of_getElem? (i := 118) rfl)))) (mvT hZ (hw _ (List.mem_of_getElem? (i := 118) rfl))) (mvT hZ (hw _ (List.mem_of_getElem? (i := 117) rfl))) (by decide) (backOf (W := 1) (rmLN1 l Z a0 hw [] o1 ba1 kc1 [(.int xa1)] cs h0 n0 Z0 Ea1 Va1 Ca1 Aa1 S40 hcs) hZ (hw _ (List.mem_of_getElem? (i := 119) rfl)) (hw _ (List.mem_of_getElem? (i := 5) rfl)) (by decide) (by decide)) q41a q41c (g := (mkF m 59 #[.val (.ref o0), .val (.ref o1), .val (.int (1 : Int32)), .val (.int (xa0 &&& (255 : Int32))), .val (.int (xa1 &&& (255 : Int32)))] [(.ref o1), (.int (1 : Int32))])) rfl (by rw [hml]; rfl) (Steps.refl _) (argsL := []) (rest := [(.int (1 : Int32))]) (lenOf pd__28_29I rfl) rfl (by show 2 * 0 + _ ≤ _; exact Nat.le_of_eq rfl) (hb hby d18_59) (fun _ _ => ⟨rfl, e39, (by decide : 0 + 0 ≤ _), (by decide : 0 + 0 ≤ _)⟩)
      dsimp only [Pt.U, Pt.locs, Pt.cells, Pt.slots] at X41 l41 y41 z41 st41 hQ41
      obtain ⟨rfl, N41q, e41⟩ := hQ41
      obtain ⟨lc41, X41, N41⟩ := own_pack X41 l41 y41 z41 N39 N41q (C := 0) (S' := 0) rfl rfl
      refine own_thr (a := T41.setTop (mkF m 62 #[.val (.ref o0), .val (.ref o1), .val (.int (1 : Int32)), .val (.int (xa0 &&& (255 : Int32))), .val (.int (xa1 &&& (255 : Int32)))] [(.int (1 : Int32)), (.int (1 : Int32))])) (fun t kt => st41.trans kt) ?_
      obtain ⟨_, _, ⟨T42, L42, k42, n42⟩, -, X42, ⟨Lc42, hQ42, l42, y42, z42⟩, st42⟩ := Jvm.LawKit.callS X41 hx (y := (⟨"java/lang/Integer", "compare", "(II)I"⟩ : MethodName)) hown (mvT hZ (hw _ (List.mem_of_getElem? (i := 128) rfl))) (mvT hZ (hw _ (List.mem_of_getElem? (i := 129) rfl))) (mvT hZ (hw _ (List.mem_of_getElem? (i := 130) rfl))) (mvT hZ (hw _ (List.mem_of_getElem? (i := 131) rfl))) (by decide) (backOf (W := 0) (rmIC l Z a0 hw [] (1 : Int32) (1 : Int32) h0 n0 Z0) hZ (hw _ (List.mem_of_getElem? (i := 131) rfl)) (hw _ (List.mem_of_getElem? (i := 130) rfl)) (by decide) (by decide)) (g := (mkF m 62 #[.val (.ref o0), .val (.ref o1), .val (.int (1 : Int32)), .val (.int (xa0 &&& (255 : Int32))), .val (.int (xa1 &&& (255 : Int32)))] [(.int (1 : Int32)), (.int (1 : Int32))])) rfl (by rw [hml]; rfl) (argsL := [(.int (1 : Int32)), (.int (1 : Int32))]) (rest := []) (lenOf pd__28II_29I rfl) rfl (by show 2 * 0 + _ ≤ _; exact Nat.le_of_eq rfl) (hb hby d18_62) (fun _ _ => ⟨rfl, e41, (by decide : 0 + 0 ≤ _), (by decide : 0 + 0 ≤ _)⟩)
      dsimp only [Pt.U, Pt.locs, Pt.cells, Pt.slots] at X42 l42 y42 z42 st42 hQ42
      obtain ⟨rfl, N42q, e42⟩ := hQ42
      obtain ⟨lc42, X42, N42⟩ := own_pack X42 l42 y42 z42 N41 N42q (C := 0) (S' := 0) rfl rfl
      refine own_thr (a := T42.setTop (mkF m 65 #[.val (.ref o0), .val (.ref o1), .val (.int (1 : Int32)), .val (.int (xa0 &&& (255 : Int32))), .val (.int (xa1 &&& (255 : Int32)))] [(.int (f_rmIC (1 : Int32) (1 : Int32)))])) (fun t kt => st42 t kt) ?_
      exact own_end X42 hlk (v := some (.int (f_rmIC (1 : Int32) (1 : Int32)))) (fun h => by rw [Bd.returns] at h; cases h) (fun fs hr => retI X42 hx Bd.returns (hb hby d18_65) hr) (by rw [e42]; exact ⟨congrArg (fun z => some (Value.int z)) (own_11 hka0 hka1 hc34), N42, rfl⟩) (by decide : 0 ≤ _) (by decide : 0 ≤ _)
    · refine own_thr (a := T33.setTop (mkF m 40 #[.val (.ref o0), .val (.ref o1), .val (.int (0 : Int32)), .val (.int (xa0 &&& (255 : Int32))), .val (.int (xa1 &&& (255 : Int32)))] [(.int (xa1 &&& (255 : Int32))), (.int (xa0 &&& (255 : Int32)))])) (fun t kt => ?_) ?_
      · show Steps p.tables e below (T33.setTop (mkF m 34 #[.val (.ref o0), .val (.ref o1), .val (.int (0 : Int32)), .val (.int (xa0 &&& (255 : Int32))), .val (.int (xa1 &&& (255 : Int32)))] [(.int (xa1 &&& (255 : Int32))), (.int (xa0 &&& (255 : Int32)))])) _
        refine XS.icmpNo X33.here hx rfl (hb hby d18_34) rfl (feq hc34).1 ?_
        refine XS.iloadN X33.here hx rfl (hb hby d18_37) rfl ?_
        refine XS.iload X33.here hx rfl (hb hby d18_38) rfl ?_
        exact kt
      obtain ⟨_, _, ⟨T43, L43, k43, n43⟩, -, X43, ⟨Lc43, hQ43, l43, y43, z43⟩, st43⟩ := Jvm.LawKit.callS X33 hx (y := (⟨"java/lang/Integer", "compare", "(II)I"⟩ : MethodName)) hown (mvT hZ (hw _ (List.mem_of_getElem? (i := 128) rfl))) (mvT hZ (hw _ (List.mem_of_getElem? (i := 129) rfl))) (mvT hZ (hw _ (List.mem_of_getElem? (i := 130) rfl))) (mvT hZ (hw _ (List.mem_of_getElem? (i := 131) rfl))) (by decide) (backOf (W := 0) (rmIC l Z a0 hw [] (xa0 &&& (255 : Int32)) (xa1 &&& (255 : Int32)) h0 n0 Z0) hZ (hw _ (List.mem_of_getElem? (i := 131) rfl)) (hw _ (List.mem_of_getElem? (i := 130) rfl)) (by decide) (by decide)) (g := (mkF m 40 #[.val (.ref o0), .val (.ref o1), .val (.int (0 : Int32)), .val (.int (xa0 &&& (255 : Int32))), .val (.int (xa1 &&& (255 : Int32)))] [(.int (xa1 &&& (255 : Int32))), (.int (xa0 &&& (255 : Int32)))])) rfl (by rw [hml]; rfl) (argsL := [(.int (xa0 &&& (255 : Int32))), (.int (xa1 &&& (255 : Int32)))]) (rest := []) (lenOf pd__28II_29I rfl) rfl (by show 2 * 0 + _ ≤ _; exact Nat.le_of_eq rfl) (hb hby d18_40) (fun _ _ => ⟨rfl, e33, (by decide : 0 + 0 ≤ _), (by decide : 0 + 0 ≤ _)⟩)
      dsimp only [Pt.U, Pt.locs, Pt.cells, Pt.slots] at X43 l43 y43 z43 st43 hQ43
      obtain ⟨rfl, N43q, e43⟩ := hQ43
      obtain ⟨lc43, X43, N43⟩ := own_pack X43 l43 y43 z43 N33 N43q (C := 0) (S' := 0) rfl rfl
      refine own_thr (a := T43.setTop (mkF m 43 #[.val (.ref o0), .val (.ref o1), .val (.int (0 : Int32)), .val (.int (xa0 &&& (255 : Int32))), .val (.int (xa1 &&& (255 : Int32)))] [(.int (f_rmIC (xa0 &&& (255 : Int32)) (xa1 &&& (255 : Int32))))])) (fun t kt => st43 t kt) ?_
      exact own_end X43 hlk (v := some (.int (f_rmIC (xa0 &&& (255 : Int32)) (xa1 &&& (255 : Int32))))) (fun h => by rw [Bd.returns] at h; cases h) (fun fs hr => retI X43 hx Bd.returns (hb hby d18_43) hr) (by rw [e43]; exact ⟨congrArg (fun z => some (Value.int z)) (own_1x hka0 hka1), N43, rfl⟩) (by decide : 0 ≤ _) (by decide : 0 ≤ _)
theorem d7_0 : decode prog_8_method_2_code 0 = .ok (.iconst 1, 1) := by decide +kernel
theorem d7_1 : decode prog_8_method_2_code 1 = .ok (.istore_n 1, 1) := by decide +kernel
theorem d7_2 : decode prog_8_method_2_code 2 = .ok (.iload_n 1, 1) := by decide +kernel
theorem d7_3 : decode prog_8_method_2_code 3 = .ok (.aload_n 0, 1) := by decide +kernel
theorem d7_4 : decode prog_8_method_2_code 4 = .ok (.invokeinterface 50 1, 5) := by decide +kernel
theorem d7_9 : decode prog_8_method_2_code 9 = .ok (.if_icmp .ge 39, 3) := by decide +kernel
theorem d7_48 : decode prog_8_method_2_code 48 = .ok (.iconst (-1), 1) := by decide +kernel
theorem d7_49 : decode prog_8_method_2_code 49 = .ok (.ireturn, 1) := by decide +kernel
theorem pn_com_example_tiphys_tiphys_KnowledgeBase : plainName "com/example/tiphys/tiphys/KnowledgeBase" = true := by first | (simp [plainName, overriddenIn]; done) | decide +kernel
theorem ef_rmO0 (m : MethodId) (o0 : Addr)  : entryFrame m #[(.ref o0)] 2 = mkF m 0 #[.val (.ref o0), .unset] [] := by first |  (simp [entryFrame, mkF, argsToLocals, Value.category]; done) | rfl
def f_rmO0 (o0 : Addr) : Int32 := (-1 : Int32)
def Q_rmO0 (Z : State) (o0 : Addr) (h0 : Heap) (n0 : Nat) (v : Option Value) (h : Heap) (L : List Loc) : Prop := v = some (.int (f_rmO0 o0)) ∧ Fr n0 L ∧ h = h0
set_option maxRecDepth 65536 in
set_option maxHeartbeats 40000000 in
theorem rmO0 (l : Launch) (Z : State) (a0 : Array Value) (hw : ∀ d ∈ tables_1, d.before a0 Z = true) (ws : List Jvm.Cond) (o0 : Addr) (h0 : Heap) (n0 : Nat) (Z0 : n0 ≤ h0.size) (E_o0 : Exa Z h0 o0 "java/util/ArrayList") (F_size_o0 : Fld Z h0 o0 "java/util/ArrayList" "size" "I" (.int (0 : Int32))) :
    MetFree l (⟨"com/example/tiphys/tiphys/KnowledgeBase", "outOfOrder", "(Ljava/util/List;)I"⟩ : MethodName) (head1 (Jvm.Cond.code (⟨"com/example/tiphys/tiphys/KnowledgeBase", "outOfOrder", "(Ljava/util/List;)I"⟩ : MethodName) prog_8_method_2_code 2 (some .int) :: ws) ({ frames := 1, cells := 0, slots := 0, locals := 13 } : Room)) (fun a U => a = #[(.ref o0)] ∧ Z.Warmed39 U.vm ∧ U.heap = h0) (fun _ _ _ _ _ => True) (fun _ U o U' => ∃ v L, o = .returned v ∧ Q_rmO0 Z o0 h0 n0 v U'.heap L ∧ FrameEnd U o U' L ({ frames := 1, cells := 0, slots := 0, locals := 13 } : Room).cells ({ frames := 1, cells := 0, slots := 0, locals := 13 } : Room).slots) := by
  refine MetFree.of_bodySF (plainFor_of_name pn_com_example_tiphys_tiphys_KnowledgeBase) hisR ?_
  intro p e s m args below meth c s₁ Bd hml0 hP hK
  obtain ⟨rfl, hZ, hh⟩ := hP
  have hx := Bd.exec
  have hby := Bd.bytes
  have hml : c.maxLocals = 2 := hml0
  have hown : s.vm.findClass "com/example/tiphys/tiphys/KnowledgeBase" = some m.cls := findClass_of_methodNamed Bd.named
  have hnm := (name_of_methodNamed Bd.named Bd.method).1
  have hlk := Bd.notSynchronized
  have X0 : Stand p l e ({ frames := 1, cells := 0, slots := 0, locals := 13 } : Room) s m #[(.ref o0)] below meth c s₁ [] 0 0 := Stand.of_body Bd
  have e0 : s₁.heap = h0 := by rw [← hh, Bd.state]; rfl
  have N0 := Fr.nil n0
  show own_G p.tables e below s (Q_rmO0 Z o0 h0 n0) ({ frames := 1, cells := 0, slots := 0, locals := 13 } : Room).cells ({ frames := 1, cells := 0, slots := 0, locals := 13 } : Room).slots _
  refine own_thr (a := s₁.setTop (mkF m 0 #[.val (.ref o0), .unset] [])) (fun t kt => castTop (ef_rmO0 m o0) kt) ?_
  refine own_thr (a := s₁.setTop (mkF m 4 #[.val (.ref o0), .val (.int (1 : Int32))] [(.ref o0), (.int (1 : Int32))])) (fun t kt => ?_) ?_
  · show Steps p.tables e below (s₁.setTop (mkF m 0 #[.val (.ref o0), .unset] [])) _
    refine XS.iconst X0.here hx rfl (hb hby d7_0) ?_
    refine XS.istoreN X0.here hx rfl (hb hby d7_1) rfl (l' := #[.val (.ref o0), .val (.int (1 : Int32))]) rfl ?_
    refine XS.iloadN X0.here hx rfl (hb hby d7_2) rfl ?_
    refine XS.aloadN X0.here hx rfl (hb hby d7_3) rfl rfl ?_
    exact kt
  obtain ⟨cq1, kq1, q1a, q1b, q1c⟩ := isOf hZ e0 E_o0
  obtain ⟨_, _, ⟨T1, L1, k1, n1⟩, -, X1, ⟨Lc1, hQ1, l1, y1, z1⟩, st1⟩ := X0.interfaceBack hx (xi := (⟨"java/util/List", "size", "()I"⟩ : MethodName)) (y := (⟨"java/util/ArrayList", "size", "()I"⟩ : MethodName)) hown (mvT hZ (hw _ (List.mem_of_getElem? (i := 45) rfl))) (mvT hZ (hw _ (List.mem_of_getElem? (i := 46) rfl))) (mvT hZ (hw _ (List.mem_of_getElem? (i := 47) rfl))) (mvT hZ (hw _ (List.mem_of_getElem? (i := 48) rfl))) (mvT hZ (hw _ (List.mem_of_getElem? (i := 49) rfl))) (mvT hZ (hw _ (List.mem_of_getElem? (i := 50) rfl))) (mvT hZ (hw _ (List.mem_of_getElem? (i := 51) rfl))) (mvT hZ (hw _ (List.mem_of_getElem? (i := 52) rfl))) (by decide) (backOf (W := 1) (rmSZ l Z a0 hw [] o0 (0 : Int32) h0 n0 Z0 E_o0 F_size_o0) hZ (hw _ (List.mem_of_getElem? (i := 53) rfl)) (hw _ (List.mem_of_getElem? (i := 14) rfl)) (by decide) (by decide)) q1a q1b q1c (g := (mkF m 4 #[.val (.ref o0), .val (.int (1 : Int32))] [(.ref o0), (.int (1 : Int32))])) rfl (by rw [hml]; rfl) (Steps.refl _) (argsL := []) (rest := [(.int (1 : Int32))]) (lenOf pd__28_29I rfl) rfl (by show 2 * 0 + _ ≤ _; exact Nat.le_of_eq rfl) (hb hby d7_4) (fun _ _ => ⟨rfl, e0, (by decide : 0 + 0 ≤ _), (by decide : 0 + 0 ≤ _)⟩)
  dsimp only [Pt.U, Pt.locs, Pt.cells, Pt.slots] at X1 l1 y1 z1 st1 hQ1
  obtain ⟨rfl, N1q, e1⟩ := hQ1
  obtain ⟨lc1, X1, N1⟩ := own_pack X1 l1 y1 z1 N0 N1q (C := 0) (S' := 0) rfl rfl
  refine own_thr (a := T1.setTop (mkF m 9 #[.val (.ref o0), .val (.int (1 : Int32))] [(.int (0 : Int32)), (.int (1 : Int32))])) (fun t kt => st1.trans kt) ?_
  refine own_thr (a := T1.setTop (mkF m 49 #[.val (.ref o0), .val (.int (1 : Int32))] [(.int (-1 : Int32))])) (fun t kt => ?_) ?_
  · show Steps p.tables e below (T1.setTop (mkF m 9 #[.val (.ref o0), .val (.int (1 : Int32))] [(.int (0 : Int32)), (.int (1 : Int32))])) _
    refine XS.icmpYes X1.here hx rfl (pc0 := 9) (pc' := 48) rfl (hb hby d7_9) rfl (flt (by decide)).2.1 (by decide) (by decide) ?_
    refine XS.iconst X1.here hx rfl (hb hby d7_48) ?_
    exact kt
  exact own_end X1 hlk (v := some (.int (-1 : Int32))) (fun h => by rw [Bd.returns] at h; cases h) (fun fs hr => retI X1 hx Bd.returns (hb hby d7_49) hr) (by rw [e1]; exact ⟨(by rw [f_rmO0]), N1, rfl⟩) (by decide : 0 ≤ _) (by decide : 0 ≤ _)
theorem ef_rmO1 (m : MethodId) (o0 : Addr)  : entryFrame m #[(.ref o0)] 2 = mkF m 0 #[.val (.ref o0), .unset] [] := by first |  (simp [entryFrame, mkF, argsToLocals, Value.category]; done) | rfl
def f_rmO1 (o0 : Addr) : Int32 := (-1 : Int32)
def Q_rmO1 (Z : State) (o0 : Addr) (h0 : Heap) (n0 : Nat) (v : Option Value) (h : Heap) (L : List Loc) : Prop := v = some (.int (f_rmO1 o0)) ∧ Fr n0 L ∧ h = h0
set_option maxRecDepth 65536 in
set_option maxHeartbeats 40000000 in
theorem rmO1 (l : Launch) (Z : State) (a0 : Array Value) (hw : ∀ d ∈ tables_1, d.before a0 Z = true) (ws : List Jvm.Cond) (o0 : Addr) (h0 : Heap) (n0 : Nat) (Z0 : n0 ≤ h0.size) (E_o0 : Exa Z h0 o0 "java/util/ArrayList") (F_size_o0 : Fld Z h0 o0 "java/util/ArrayList" "size" "I" (.int (1 : Int32))) :
    MetFree l (⟨"com/example/tiphys/tiphys/KnowledgeBase", "outOfOrder", "(Ljava/util/List;)I"⟩ : MethodName) (head1 (Jvm.Cond.code (⟨"com/example/tiphys/tiphys/KnowledgeBase", "outOfOrder", "(Ljava/util/List;)I"⟩ : MethodName) prog_8_method_2_code 2 (some .int) :: ws) ({ frames := 1, cells := 0, slots := 0, locals := 13 } : Room)) (fun a U => a = #[(.ref o0)] ∧ Z.Warmed39 U.vm ∧ U.heap = h0) (fun _ _ _ _ _ => True) (fun _ U o U' => ∃ v L, o = .returned v ∧ Q_rmO1 Z o0 h0 n0 v U'.heap L ∧ FrameEnd U o U' L ({ frames := 1, cells := 0, slots := 0, locals := 13 } : Room).cells ({ frames := 1, cells := 0, slots := 0, locals := 13 } : Room).slots) := by
  refine MetFree.of_bodySF (plainFor_of_name pn_com_example_tiphys_tiphys_KnowledgeBase) hisR ?_
  intro p e s m args below meth c s₁ Bd hml0 hP hK
  obtain ⟨rfl, hZ, hh⟩ := hP
  have hx := Bd.exec
  have hby := Bd.bytes
  have hml : c.maxLocals = 2 := hml0
  have hown : s.vm.findClass "com/example/tiphys/tiphys/KnowledgeBase" = some m.cls := findClass_of_methodNamed Bd.named
  have hnm := (name_of_methodNamed Bd.named Bd.method).1
  have hlk := Bd.notSynchronized
  have X0 : Stand p l e ({ frames := 1, cells := 0, slots := 0, locals := 13 } : Room) s m #[(.ref o0)] below meth c s₁ [] 0 0 := Stand.of_body Bd
  have e0 : s₁.heap = h0 := by rw [← hh, Bd.state]; rfl
  have N0 := Fr.nil n0
  show own_G p.tables e below s (Q_rmO1 Z o0 h0 n0) ({ frames := 1, cells := 0, slots := 0, locals := 13 } : Room).cells ({ frames := 1, cells := 0, slots := 0, locals := 13 } : Room).slots _
  refine own_thr (a := s₁.setTop (mkF m 0 #[.val (.ref o0), .unset] [])) (fun t kt => castTop (ef_rmO1 m o0) kt) ?_
  refine own_thr (a := s₁.setTop (mkF m 4 #[.val (.ref o0), .val (.int (1 : Int32))] [(.ref o0), (.int (1 : Int32))])) (fun t kt => ?_) ?_
  · show Steps p.tables e below (s₁.setTop (mkF m 0 #[.val (.ref o0), .unset] [])) _
    refine XS.iconst X0.here hx rfl (hb hby d7_0) ?_
    refine XS.istoreN X0.here hx rfl (hb hby d7_1) rfl (l' := #[.val (.ref o0), .val (.int (1 : Int32))]) rfl ?_
    refine XS.iloadN X0.here hx rfl (hb hby d7_2) rfl ?_
    refine XS.aloadN X0.here hx rfl (hb hby d7_3) rfl rfl ?_
    exact kt
  obtain ⟨cq1, kq1, q1a, q1b, q1c⟩ := isOf hZ e0 E_o0
  obtain ⟨_, _, ⟨T1, L1, k1, n1⟩, -, X1, ⟨Lc1, hQ1, l1, y1, z1⟩, st1⟩ := X0.interfaceBack hx (xi := (⟨"java/util/List", "size", "()I"⟩ : MethodName)) (y := (⟨"java/util/ArrayList", "size", "()I"⟩ : MethodName)) hown (mvT hZ (hw _ (List.mem_of_getElem? (i := 45) rfl))) (mvT hZ (hw _ (List.mem_of_getElem? (i := 46) rfl))) (mvT hZ (hw _ (List.mem_of_getElem? (i := 47) rfl))) (mvT hZ (hw _ (List.mem_of_getElem? (i := 48) rfl))) (mvT hZ (hw _ (List.mem_of_getElem? (i := 49) rfl))) (mvT hZ (hw _ (List.mem_of_getElem? (i := 50) rfl))) (mvT hZ (hw _ (List.mem_of_getElem? (i := 51) rfl))) (mvT hZ (hw _ (List.mem_of_getElem? (i := 52) rfl))) (by decide) (backOf (W := 1) (rmSZ l Z a0 hw [] o0 (1 : Int32) h0 n0 Z0 E_o0 F_size_o0) hZ (hw _ (List.mem_of_getElem? (i := 53) rfl)) (hw _ (List.mem_of_getElem? (i := 14) rfl)) (by decide) (by decide)) q1a q1b q1c (g := (mkF m 4 #[.val (.ref o0), .val (.int (1 : Int32))] [(.ref o0), (.int (1 : Int32))])) rfl (by rw [hml]; rfl) (Steps.refl _) (argsL := []) (rest := [(.int (1 : Int32))]) (lenOf pd__28_29I rfl) rfl (by show 2 * 0 + _ ≤ _; exact Nat.le_of_eq rfl) (hb hby d7_4) (fun _ _ => ⟨rfl, e0, (by decide : 0 + 0 ≤ _), (by decide : 0 + 0 ≤ _)⟩)
  dsimp only [Pt.U, Pt.locs, Pt.cells, Pt.slots] at X1 l1 y1 z1 st1 hQ1
  obtain ⟨rfl, N1q, e1⟩ := hQ1
  obtain ⟨lc1, X1, N1⟩ := own_pack X1 l1 y1 z1 N0 N1q (C := 0) (S' := 0) rfl rfl
  refine own_thr (a := T1.setTop (mkF m 9 #[.val (.ref o0), .val (.int (1 : Int32))] [(.int (1 : Int32)), (.int (1 : Int32))])) (fun t kt => st1.trans kt) ?_
  refine own_thr (a := T1.setTop (mkF m 49 #[.val (.ref o0), .val (.int (1 : Int32))] [(.int (-1 : Int32))])) (fun t kt => ?_) ?_
  · show Steps p.tables e below (T1.setTop (mkF m 9 #[.val (.ref o0), .val (.int (1 : Int32))] [(.int (1 : Int32)), (.int (1 : Int32))])) _
    refine XS.icmpYes X1.here hx rfl (pc0 := 9) (pc' := 48) rfl (hb hby d7_9) rfl (flt (by decide)).2.1 (by decide) (by decide) ?_
    refine XS.iconst X1.here hx rfl (hb hby d7_48) ?_
    exact kt
  exact own_end X1 hlk (v := some (.int (-1 : Int32))) (fun h => by rw [Bd.returns] at h; cases h) (fun fs hr => retI X1 hx Bd.returns (hb hby d7_49) hr) (by rw [e1]; exact ⟨(by rw [f_rmO1]), N1, rfl⟩) (by decide : 0 ≤ _) (by decide : 0 ≤ _)
theorem d7_12 : decode prog_8_method_2_code 12 = .ok (.aload_n 0, 1) := by decide +kernel
theorem d7_13 : decode prog_8_method_2_code 13 = .ok (.iload_n 1, 1) := by decide +kernel
theorem d7_14 : decode prog_8_method_2_code 14 = .ok (.iconst 1, 1) := by decide +kernel
theorem d7_15 : decode prog_8_method_2_code 15 = .ok (.isub, 1) := by decide +kernel
theorem d7_16 : decode prog_8_method_2_code 16 = .ok (.invokeinterface 15 2, 5) := by decide +kernel
theorem d7_21 : decode prog_8_method_2_code 21 = .ok (.checkcast 21, 3) := by decide +kernel
theorem d7_24 : decode prog_8_method_2_code 24 = .ok (.aload_n 0, 1) := by decide +kernel
theorem d7_25 : decode prog_8_method_2_code 25 = .ok (.iload_n 1, 1) := by decide +kernel
theorem d7_26 : decode prog_8_method_2_code 26 = .ok (.invokeinterface 15 2, 5) := by decide +kernel
theorem d7_31 : decode prog_8_method_2_code 31 = .ok (.checkcast 21, 3) := by decide +kernel
theorem pd__28Ljava_2flang_2fString_3bLjava_2flang_2fString_3b_29I : parseMethodDescriptor "(Ljava/lang/String;Ljava/lang/String;)I" = some ⟨[(.object "java/lang/String"), (.object "java/lang/String")], some .int⟩ := by decide +kernel
theorem d7_34 : decode prog_8_method_2_code 34 = .ok (.invokestatic 76, 3) := by decide +kernel
theorem d7_37 : decode prog_8_method_2_code 37 = .ok (.ifCond .lt 5, 3) := by decide +kernel
theorem d7_42 : decode prog_8_method_2_code 42 = .ok (.iinc 1 1, 3) := by decide +kernel
theorem d7_45 : decode prog_8_method_2_code 45 = .ok (.goto (-43), 3) := by decide +kernel
theorem d7_40 : decode prog_8_method_2_code 40 = .ok (.iload_n 1, 1) := by decide +kernel
theorem d7_41 : decode prog_8_method_2_code 41 = .ok (.ireturn, 1) := by decide +kernel
theorem ef_rmO2 (m : MethodId) (o0 : Addr)  : entryFrame m #[(.ref o0)] 2 = mkF m 0 #[.val (.ref o0), .unset] [] := by first |  (simp [entryFrame, mkF, argsToLocals, Value.category]; done) | rfl
def f_rmO2 (o0 : Addr) (ea : Addr) (ke : ClassId) (r0 : Addr) (r1 : Addr) (ky0 : Int32) (ky1 : Int32) (cs : Int32) (fm : Value) : Int32 := if (f_rmIC ky0 ky1) < (0 : Int32) then (-1 : Int32) else (1 : Int32)
def Q_rmO2 (Z : State) (o0 : Addr) (ea : Addr) (ke : ClassId) (r0 : Addr) (r1 : Addr) (ky0 : Int32) (ky1 : Int32) (cs : Int32) (fm : Value) (h0 : Heap) (n0 : Nat) (v : Option Value) (h : Heap) (L : List Loc) : Prop := v = some (.int (f_rmO2 o0 ea ke r0 r1 ky0 ky1 cs fm)) ∧ Fr n0 L ∧ h = h0
set_option maxRecDepth 65536 in
set_option maxHeartbeats 40000000 in
theorem rmO2 (l : Launch) (Z : State) (a0 : Array Value) (hw : ∀ d ∈ tables_1, d.before a0 Z = true) (ws : List Jvm.Cond) (o0 : Addr) (ea : Addr) (ke : ClassId) (r0 : Addr) (r1 : Addr) (ky0 : Int32) (ky1 : Int32) (cs : Int32) (fm : Value) (h0 : Heap) (n0 : Nat) (Z0 : n0 ≤ h0.size) (E_o0 : Exa Z h0 o0 "java/util/ArrayList") (F_size_o0 : Fld Z h0 o0 "java/util/ArrayList" "size" "I" (.int (2 : Int32))) (F_elementData_o0 : Fld Z h0 o0 "java/util/ArrayList" "elementData" "[Ljava/lang/Object;" (.ref ea)) (V_ea : Arv Z h0 ea ke (.object "java/lang/Object") (10 : Int32) [(.ref r0), (.ref r1), .null, .null, .null, .null, .null, .null, .null, .null] .null) (So0 : own_S Z h0 r0 ky0) (So1 : own_S Z h0 r1 ky1) (S_cs : Sta Z Z.heap "java/lang/String" "COMPACT_STRINGS" "Z" (.int cs)) (hcs : ¬ cs = (0 : Int32)) (S_fm : Sta Z Z.heap "jdk/internal/util/Preconditions" "SIOOBE_FORMATTER" "Ljava/util/function/BiFunction;" fm) (hfm : fm.isRef = true) (hO : Old Z n0 h0) :
    MetFree l (⟨"com/example/tiphys/tiphys/KnowledgeBase", "outOfOrder", "(Ljava/util/List;)I"⟩ : MethodName) (head1 (Jvm.Cond.code (⟨"com/example/tiphys/tiphys/KnowledgeBase", "outOfOrder", "(Ljava/util/List;)I"⟩ : MethodName) prog_8_method_2_code 2 (some .int) :: ws) ({ frames := 4, cells := 0, slots := 0, locals := 57 } : Room)) (fun a U => a = #[(.ref o0)] ∧ Z.Warmed39 U.vm ∧ U.heap = h0) (fun _ _ _ _ _ => True) (fun _ U o U' => ∃ v L, o = .returned v ∧ Q_rmO2 Z o0 ea ke r0 r1 ky0 ky1 cs fm h0 n0 v U'.heap L ∧ FrameEnd U o U' L ({ frames := 4, cells := 0, slots := 0, locals := 57 } : Room).cells ({ frames := 4, cells := 0, slots := 0, locals := 57 } : Room).slots) := by
  refine MetFree.of_bodySF (plainFor_of_name pn_com_example_tiphys_tiphys_KnowledgeBase) hisR ?_
  intro p e s m args below meth c s₁ Bd hml0 hP hK
  obtain ⟨rfl, hZ, hh⟩ := hP
  have hx := Bd.exec
  have hby := Bd.bytes
  have hml : c.maxLocals = 2 := hml0
  have hown : s.vm.findClass "com/example/tiphys/tiphys/KnowledgeBase" = some m.cls := findClass_of_methodNamed Bd.named
  have hnm := (name_of_methodNamed Bd.named Bd.method).1
  have hlk := Bd.notSynchronized
  have X0 : Stand p l e ({ frames := 4, cells := 0, slots := 0, locals := 57 } : Room) s m #[(.ref o0)] below meth c s₁ [] 0 0 := Stand.of_body Bd
  have e0 : s₁.heap = h0 := by rw [← hh, Bd.state]; rfl
  have N0 := Fr.nil n0
  show own_G p.tables e below s (Q_rmO2 Z o0 ea ke r0 r1 ky0 ky1 cs fm h0 n0) ({ frames := 4, cells := 0, slots := 0, locals := 57 } : Room).cells ({ frames := 4, cells := 0, slots := 0, locals := 57 } : Room).slots _
  refine own_thr (a := s₁.setTop (mkF m 0 #[.val (.ref o0), .unset] [])) (fun t kt => castTop (ef_rmO2 m o0) kt) ?_
  refine own_thr (a := s₁.setTop (mkF m 4 #[.val (.ref o0), .val (.int (1 : Int32))] [(.ref o0), (.int (1 : Int32))])) (fun t kt => ?_) ?_
  · show Steps p.tables e below (s₁.setTop (mkF m 0 #[.val (.ref o0), .unset] [])) _
    refine XS.iconst X0.here hx rfl (hb hby d7_0) ?_
    refine XS.istoreN X0.here hx rfl (hb hby d7_1) rfl (l' := #[.val (.ref o0), .val (.int (1 : Int32))]) rfl ?_
    refine XS.iloadN X0.here hx rfl (hb hby d7_2) rfl ?_
    refine XS.aloadN X0.here hx rfl (hb hby d7_3) rfl rfl ?_
    exact kt
  obtain ⟨cq1, kq1, q1a, q1b, q1c⟩ := isOf hZ e0 E_o0
  obtain ⟨_, _, ⟨T1, L1, k1, n1⟩, -, X1, ⟨Lc1, hQ1, l1, y1, z1⟩, st1⟩ := X0.interfaceBack hx (xi := (⟨"java/util/List", "size", "()I"⟩ : MethodName)) (y := (⟨"java/util/ArrayList", "size", "()I"⟩ : MethodName)) hown (mvT hZ (hw _ (List.mem_of_getElem? (i := 45) rfl))) (mvT hZ (hw _ (List.mem_of_getElem? (i := 46) rfl))) (mvT hZ (hw _ (List.mem_of_getElem? (i := 47) rfl))) (mvT hZ (hw _ (List.mem_of_getElem? (i := 48) rfl))) (mvT hZ (hw _ (List.mem_of_getElem? (i := 49) rfl))) (mvT hZ (hw _ (List.mem_of_getElem? (i := 50) rfl))) (mvT hZ (hw _ (List.mem_of_getElem? (i := 51) rfl))) (mvT hZ (hw _ (List.mem_of_getElem? (i := 52) rfl))) (by decide) (backOf (W := 1) (rmSZ l Z a0 hw [] o0 (2 : Int32) h0 n0 Z0 E_o0 F_size_o0) hZ (hw _ (List.mem_of_getElem? (i := 53) rfl)) (hw _ (List.mem_of_getElem? (i := 14) rfl)) (by decide) (by decide)) q1a q1b q1c (g := (mkF m 4 #[.val (.ref o0), .val (.int (1 : Int32))] [(.ref o0), (.int (1 : Int32))])) rfl (by rw [hml]; rfl) (Steps.refl _) (argsL := []) (rest := [(.int (1 : Int32))]) (lenOf pd__28_29I rfl) rfl (by show 2 * 0 + _ ≤ _; exact Nat.le_of_eq rfl) (hb hby d7_4) (fun _ _ => ⟨rfl, e0, (by decide : 0 + 0 ≤ _), (by decide : 0 + 0 ≤ _)⟩)
  dsimp only [Pt.U, Pt.locs, Pt.cells, Pt.slots] at X1 l1 y1 z1 st1 hQ1
  obtain ⟨rfl, N1q, e1⟩ := hQ1
  obtain ⟨lc1, X1, N1⟩ := own_pack X1 l1 y1 z1 N0 N1q (C := 0) (S' := 0) rfl rfl
  refine own_thr (a := T1.setTop (mkF m 9 #[.val (.ref o0), .val (.int (1 : Int32))] [(.int (2 : Int32)), (.int (1 : Int32))])) (fun t kt => st1.trans kt) ?_
  refine own_thr (a := T1.setTop (mkF m 16 #[.val (.ref o0), .val (.int (1 : Int32))] [(.int (0 : Int32)), (.ref o0)])) (fun t kt => ?_) ?_
  · show Steps p.tables e below (T1.setTop (mkF m 9 #[.val (.ref o0), .val (.int (1 : Int32))] [(.int (2 : Int32)), (.int (1 : Int32))])) _
    refine XS.icmpNo X1.here hx rfl (hb hby d7_9) rfl (tlt (by decide)).2.1 ?_
    refine XS.aloadN X1.here hx rfl (hb hby d7_12) rfl rfl ?_
    refine XS.iloadN X1.here hx rfl (hb hby d7_13) rfl ?_
    refine XS.iconst X1.here hx rfl (hb hby d7_14) ?_
    refine XS.isub X1.here hx rfl (hb hby d7_15) rfl ?_
    exact kt
  obtain ⟨cq2, kq2, q2a, q2b, q2c⟩ := isOf hZ e1 E_o0
  obtain ⟨_, _, ⟨T2, L2, k2, n2⟩, -, X2, ⟨Lc2, hQ2, l2, y2, z2⟩, st2⟩ := X1.interfaceBack hx (xi := (⟨"java/util/List", "get", "(I)Ljava/lang/Object;"⟩ : MethodName)) (y := (⟨"java/util/ArrayList", "get", "(I)Ljava/lang/Object;"⟩ : MethodName)) hown (mvT hZ (hw _ (List.mem_of_getElem? (i := 88) rfl))) (mvT hZ (hw _ (List.mem_of_getElem? (i := 89) rfl))) (mvT hZ (hw _ (List.mem_of_getElem? (i := 90) rfl))) (mvT hZ (hw _ (List.mem_of_getElem? (i := 91) rfl))) (mvT hZ (hw _ (List.mem_of_getElem? (i := 92) rfl))) (mvT hZ (hw _ (List.mem_of_getElem? (i := 93) rfl))) (mvT hZ (hw _ (List.mem_of_getElem? (i := 94) rfl))) (mvT hZ (hw _ (List.mem_of_getElem? (i := 52) rfl))) (by decide) (backOf (W := 0) (rmGE l Z a0 hw [] o0 (0 : Int32) ea ke [(.ref r0), (.ref r1), .null, .null, .null, .null, .null, .null, .null, .null] r0 (2 : Int32) h0 n0 Z0 E_o0 F_size_o0 F_elementData_o0 V_ea (by decide) (by decide) rfl (by decide)) hZ (hw _ (List.mem_of_getElem? (i := 95) rfl)) (hw _ (List.mem_of_getElem? (i := 14) rfl)) (by decide) (by decide)) q2a q2b q2c (g := (mkF m 16 #[.val (.ref o0), .val (.int (1 : Int32))] [(.int (0 : Int32)), (.ref o0)])) rfl (by rw [hml]; rfl) (Steps.refl _) (argsL := [(.int (0 : Int32))]) (rest := []) (lenOf pd__28I_29Ljava_2flang_2fObject_3b rfl) rfl (by show 2 * 0 + _ ≤ _; exact Nat.le_of_eq rfl) (hb hby d7_16) (fun _ _ => ⟨rfl, e1, (by decide : 0 + 0 ≤ _), (by decide : 0 + 0 ≤ _)⟩)
  dsimp only [Pt.U, Pt.locs, Pt.cells, Pt.slots] at X2 l2 y2 z2 st2 hQ2
  obtain ⟨rfl, N2q, e2⟩ := hQ2
  obtain ⟨lc2, X2, N2⟩ := own_pack X2 l2 y2 z2 N1 N2q (C := 0) (S' := 0) rfl rfl
  refine own_thr (a := T2.setTop (mkF m 21 #[.val (.ref o0), .val (.int (1 : Int32))] [(.ref r0)])) (fun t kt => st2.trans kt) ?_
  obtain ⟨T3, X3, e3, st3⟩ := castY X2 hx hZ hown (hw _ (List.mem_of_getElem? (i := 109) rfl)) e2 (Ins.self So0.1) (g := (mkF m 21 #[.val (.ref o0), .val (.int (1 : Int32))] [(.ref r0)])) rfl rfl (hb hby d7_21)
  refine own_thr (a := T3.setTop (mkF m 24 #[.val (.ref o0), .val (.int (1 : Int32))] [(.ref r0)])) (fun t kt => st3 t kt) ?_
  refine own_thr (a := T3.setTop (mkF m 26 #[.val (.ref o0), .val (.int (1 : Int32))] [(.int (1 : Int32)), (.ref o0), (.ref r0)])) (fun t kt => ?_) ?_
  · show Steps p.tables e below (T3.setTop (mkF m 24 #[.val (.ref o0), .val (.int (1 : Int32))] [(.ref r0)])) _
    refine XS.aloadN X3.here hx rfl (hb hby d7_24) rfl rfl ?_
    refine XS.iloadN X3.here hx rfl (hb hby d7_25) rfl ?_
    exact kt
  obtain ⟨cq4, kq4, q4a, q4b, q4c⟩ := isOf hZ e3 E_o0
  obtain ⟨_, _, ⟨T4, L4, k4, n4⟩, -, X4, ⟨Lc4, hQ4, l4, y4, z4⟩, st4⟩ := X3.interfaceBack hx (xi := (⟨"java/util/List", "get", "(I)Ljava/lang/Object;"⟩ : MethodName)) (y := (⟨"java/util/ArrayList", "get", "(I)Ljava/lang/Object;"⟩ : MethodName)) hown (mvT hZ (hw _ (List.mem_of_getElem? (i := 88) rfl))) (mvT hZ (hw _ (List.mem_of_getElem? (i := 89) rfl))) (mvT hZ (hw _ (List.mem_of_getElem? (i := 90) rfl))) (mvT hZ (hw _ (List.mem_of_getElem? (i := 91) rfl))) (mvT hZ (hw _ (List.mem_of_getElem? (i := 92) rfl))) (mvT hZ (hw _ (List.mem_of_getElem? (i := 93) rfl))) (mvT hZ (hw _ (List.mem_of_getElem? (i := 94) rfl))) (mvT hZ (hw _ (List.mem_of_getElem? (i := 52) rfl))) (by decide) (backOf (W := 1) (rmGE l Z a0 hw [] o0 (1 : Int32) ea ke [(.ref r0), (.ref r1), .null, .null, .null, .null, .null, .null, .null, .null] r1 (2 : Int32) h0 n0 Z0 E_o0 F_size_o0 F_elementData_o0 V_ea (by decide) (by decide) rfl (by decide)) hZ (hw _ (List.mem_of_getElem? (i := 95) rfl)) (hw _ (List.mem_of_getElem? (i := 14) rfl)) (by decide) (by decide)) q4a q4b q4c (g := (mkF m 26 #[.val (.ref o0), .val (.int (1 : Int32))] [(.int (1 : Int32)), (.ref o0), (.ref r0)])) rfl (by rw [hml]; rfl) (Steps.refl _) (argsL := [(.int (1 : Int32))]) (rest := [(.ref r0)]) (lenOf pd__28I_29Ljava_2flang_2fObject_3b rfl) rfl (by show 2 * 0 + _ ≤ _; exact Nat.le_of_eq rfl) (hb hby d7_26) (fun _ _ => ⟨rfl, e3, (by decide : 0 + 0 ≤ _), (by decide : 0 + 0 ≤ _)⟩)
  dsimp only [Pt.U, Pt.locs, Pt.cells, Pt.slots] at X4 l4 y4 z4 st4 hQ4
  obtain ⟨rfl, N4q, e4⟩ := hQ4
  obtain ⟨lc4, X4, N4⟩ := own_pack X4 l4 y4 z4 N2 N4q (C := 0) (S' := 0) rfl rfl
  refine own_thr (a := T4.setTop (mkF m 31 #[.val (.ref o0), .val (.int (1 : Int32))] [(.ref r1), (.ref r0)])) (fun t kt => st4.trans kt) ?_
  obtain ⟨T5, X5, e5, st5⟩ := castY X4 hx hZ hown (hw _ (List.mem_of_getElem? (i := 109) rfl)) e4 (Ins.self So1.1) (g := (mkF m 31 #[.val (.ref o0), .val (.int (1 : Int32))] [(.ref r1), (.ref r0)])) rfl rfl (hb hby d7_31)
  refine own_thr (a := T5.setTop (mkF m 34 #[.val (.ref o0), .val (.int (1 : Int32))] [(.ref r1), (.ref r0)])) (fun t kt => st5 t kt) ?_
  obtain ⟨_, _, ⟨T6, L6, k6, n6⟩, -, X6, ⟨Lc6, hQ6, l6, y6, z6⟩, st6⟩ := Jvm.LawKit.callS X5 hx (y := (⟨"com/example/tiphys/tiphys/CodePointOrder", "compare", "(Ljava/lang/String;Ljava/lang/String;)I"⟩ : MethodName)) hown (mvT hZ (hw _ (List.mem_of_getElem? (i := 111) rfl))) (mvT hZ (hw _ (List.mem_of_getElem? (i := 112) rfl))) (mvT hZ (hw _ (List.mem_of_getElem? (i := 113) rfl))) (mvT hZ (hw _ (List.mem_of_getElem? (i := 114) rfl))) (by decide) (backOf (W := 0) (rmCM l Z a0 hw [] r0 r1 ky0 ky1 cs fm h0 n0 Z0 So0 So1 S_cs hcs S_fm hfm hO) hZ (hw _ (List.mem_of_getElem? (i := 114) rfl)) (hw _ (List.mem_of_getElem? (i := 113) rfl)) (by decide) (by decide)) (g := (mkF m 34 #[.val (.ref o0), .val (.int (1 : Int32))] [(.ref r1), (.ref r0)])) rfl (by rw [hml]; rfl) (argsL := [(.ref r0), (.ref r1)]) (rest := []) (lenOf pd__28Ljava_2flang_2fString_3bLjava_2flang_2fString_3b_29I rfl) rfl (by show 2 * 0 + _ ≤ _; exact Nat.le_of_eq rfl) (hb hby d7_34) (fun _ _ => ⟨rfl, e5, (by decide : 0 + 0 ≤ _), (by decide : 0 + 0 ≤ _)⟩)
  dsimp only [Pt.U, Pt.locs, Pt.cells, Pt.slots] at X6 l6 y6 z6 st6 hQ6
  obtain ⟨rfl, N6q, e6⟩ := hQ6
  obtain ⟨lc6, X6, N6⟩ := own_pack X6 l6 y6 z6 N4 N6q (C := 0) (S' := 0) rfl rfl
  refine own_thr (a := T6.setTop (mkF m 37 #[.val (.ref o0), .val (.int (1 : Int32))] [(.int (f_rmIC ky0 ky1))])) (fun t kt => st6 t kt) ?_
  by_cases hc7 : (f_rmIC ky0 ky1) < (0 : Int32)
  · refine own_thr (a := T6.setTop (mkF m 4 #[.val (.ref o0), .val (.int (2 : Int32))] [(.ref o0), (.int (2 : Int32))])) (fun t kt => ?_) ?_
    · show Steps p.tables e below (T6.setTop (mkF m 37 #[.val (.ref o0), .val (.int (1 : Int32))] [(.int (f_rmIC ky0 ky1))])) _
      refine XS.ifYes X6.here hx rfl (pc0 := 37) (pc' := 42) rfl (hb hby d7_37) rfl ((if0 _ _).trans (tlt hc7).1) (by decide) (by decide) ?_
      refine XS.iinc X6.here hx rfl (hb hby d7_42) rfl (l' := #[.val (.ref o0), .val (.int (2 : Int32))]) rfl ?_
      refine XS.goto X6.here hx rfl (pc0 := 45) (pc' := 2) rfl (hb hby d7_45) (by decide) (by decide) ?_
      refine XS.iloadN X6.here hx rfl (hb hby d7_2) rfl ?_
      refine XS.aloadN X6.here hx rfl (hb hby d7_3) rfl rfl ?_
      exact kt
    obtain ⟨cq8, kq8, q8a, q8b, q8c⟩ := isOf hZ e6 E_o0
    obtain ⟨_, _, ⟨T8, L8, k8, n8⟩, -, X8, ⟨Lc8, hQ8, l8, y8, z8⟩, st8⟩ := X6.interfaceBack hx (xi := (⟨"java/util/List", "size", "()I"⟩ : MethodName)) (y := (⟨"java/util/ArrayList", "size", "()I"⟩ : MethodName)) hown (mvT hZ (hw _ (List.mem_of_getElem? (i := 45) rfl))) (mvT hZ (hw _ (List.mem_of_getElem? (i := 46) rfl))) (mvT hZ (hw _ (List.mem_of_getElem? (i := 47) rfl))) (mvT hZ (hw _ (List.mem_of_getElem? (i := 48) rfl))) (mvT hZ (hw _ (List.mem_of_getElem? (i := 49) rfl))) (mvT hZ (hw _ (List.mem_of_getElem? (i := 50) rfl))) (mvT hZ (hw _ (List.mem_of_getElem? (i := 51) rfl))) (mvT hZ (hw _ (List.mem_of_getElem? (i := 52) rfl))) (by decide) (backOf (W := 1) (rmSZ l Z a0 hw [] o0 (2 : Int32) h0 n0 Z0 E_o0 F_size_o0) hZ (hw _ (List.mem_of_getElem? (i := 53) rfl)) (hw _ (List.mem_of_getElem? (i := 14) rfl)) (by decide) (by decide)) q8a q8b q8c (g := (mkF m 4 #[.val (.ref o0), .val (.int (2 : Int32))] [(.ref o0), (.int (2 : Int32))])) rfl (by rw [hml]; rfl) (Steps.refl _) (argsL := []) (rest := [(.int (2 : Int32))]) (lenOf pd__28_29I rfl) rfl (by show 2 * 0 + _ ≤ _; exact Nat.le_of_eq rfl) (hb hby d7_4) (fun _ _ => ⟨rfl, e6, (by decide : 0 + 0 ≤ _), (by decide : 0 + 0 ≤ _)⟩)
    dsimp only [Pt.U, Pt.locs, Pt.cells, Pt.slots] at X8 l8 y8 z8 st8 hQ8
    obtain ⟨rfl, N8q, e8⟩ := hQ8
    obtain ⟨lc8, X8, N8⟩ := own_pack X8 l8 y8 z8 N6 N8q (C := 0) (S' := 0) rfl rfl
    refine own_thr (a := T8.setTop (mkF m 9 #[.val (.ref o0), .val (.int (2 : Int32))] [(.int (2 : Int32)), (.int (2 : Int32))])) (fun t kt => st8.trans kt) ?_
    refine own_thr (a := T8.setTop (mkF m 49 #[.val (.ref o0), .val (.int (2 : Int32))] [(.int (-1 : Int32))])) (fun t kt => ?_) ?_
    · show Steps p.tables e below (T8.setTop (mkF m 9 #[.val (.ref o0), .val (.int (2 : Int32))] [(.int (2 : Int32)), (.int (2 : Int32))])) _
      refine XS.icmpYes X8.here hx rfl (pc0 := 9) (pc' := 48) rfl (hb hby d7_9) rfl (flt (by decide)).2.1 (by decide) (by decide) ?_
      refine XS.iconst X8.here hx rfl (hb hby d7_48) ?_
      exact kt
    exact own_end X8 hlk (v := some (.int (-1 : Int32))) (fun h => by rw [Bd.returns] at h; cases h) (fun fs hr => retI X8 hx Bd.returns (hb hby d7_49) hr) (by rw [e8]; exact ⟨(by rw [f_rmO2, if_pos hc7]), N8, rfl⟩) (by decide : 0 ≤ _) (by decide : 0 ≤ _)
  · refine own_thr (a := T6.setTop (mkF m 41 #[.val (.ref o0), .val (.int (1 : Int32))] [(.int (1 : Int32))])) (fun t kt => ?_) ?_
    · show Steps p.tables e below (T6.setTop (mkF m 37 #[.val (.ref o0), .val (.int (1 : Int32))] [(.int (f_rmIC ky0 ky1))])) _
      refine XS.ifNo X6.here hx rfl (hb hby d7_37) rfl ((if0 _ _).trans (flt hc7).1) ?_
      refine XS.iloadN X6.here hx rfl (hb hby d7_40) rfl ?_
      exact kt
    exact own_end X6 hlk (v := some (.int (1 : Int32))) (fun h => by rw [Bd.returns] at h; cases h) (fun fs hr => retI X6 hx Bd.returns (hb hby d7_41) hr) (by rw [e6]; exact ⟨(by rw [f_rmO2, if_neg hc7]), N6, rfl⟩) (by decide : 0 ≤ _) (by decide : 0 ≤ _)
theorem ef_rmO3 (m : MethodId) (o0 : Addr)  : entryFrame m #[(.ref o0)] 2 = mkF m 0 #[.val (.ref o0), .unset] [] := by first |  (simp [entryFrame, mkF, argsToLocals, Value.category]; done) | rfl
def f_rmO3 (o0 : Addr) (ea : Addr) (ke : ClassId) (r0 : Addr) (r1 : Addr) (r2 : Addr) (ky0 : Int32) (ky1 : Int32) (ky2 : Int32) (cs : Int32) (fm : Value) : Int32 := if (f_rmIC ky0 ky1) < (0 : Int32) then (if (f_rmIC ky1 ky2) < (0 : Int32) then (-1 : Int32) else (2 : Int32)) else (1 : Int32)
def Q_rmO3 (Z : State) (o0 : Addr) (ea : Addr) (ke : ClassId) (r0 : Addr) (r1 : Addr) (r2 : Addr) (ky0 : Int32) (ky1 : Int32) (ky2 : Int32) (cs : Int32) (fm : Value) (h0 : Heap) (n0 : Nat) (v : Option Value) (h : Heap) (L : List Loc) : Prop := v = some (.int (f_rmO3 o0 ea ke r0 r1 r2 ky0 ky1 ky2 cs fm)) ∧ Fr n0 L ∧ h = h0
set_option maxRecDepth 65536 in
set_option maxHeartbeats 40000000 in
theorem rmO3 (l : Launch) (Z : State) (a0 : Array Value) (hw : ∀ d ∈ tables_1, d.before a0 Z = true) (ws : List Jvm.Cond) (o0 : Addr) (ea : Addr) (ke : ClassId) (r0 : Addr) (r1 : Addr) (r2 : Addr) (ky0 : Int32) (ky1 : Int32) (ky2 : Int32) (cs : Int32) (fm : Value) (h0 : Heap) (n0 : Nat) (Z0 : n0 ≤ h0.size) (E_o0 : Exa Z h0 o0 "java/util/ArrayList") (F_size_o0 : Fld Z h0 o0 "java/util/ArrayList" "size" "I" (.int (3 : Int32))) (F_elementData_o0 : Fld Z h0 o0 "java/util/ArrayList" "elementData" "[Ljava/lang/Object;" (.ref ea)) (V_ea : Arv Z h0 ea ke (.object "java/lang/Object") (10 : Int32) [(.ref r0), (.ref r1), (.ref r2), .null, .null, .null, .null, .null, .null, .null] .null) (So0 : own_S Z h0 r0 ky0) (So1 : own_S Z h0 r1 ky1) (So2 : own_S Z h0 r2 ky2) (S_cs : Sta Z Z.heap "java/lang/String" "COMPACT_STRINGS" "Z" (.int cs)) (hcs : ¬ cs = (0 : Int32)) (S_fm : Sta Z Z.heap "jdk/internal/util/Preconditions" "SIOOBE_FORMATTER" "Ljava/util/function/BiFunction;" fm) (hfm : fm.isRef = true) (hO : Old Z n0 h0) :
    MetFree l (⟨"com/example/tiphys/tiphys/KnowledgeBase", "outOfOrder", "(Ljava/util/List;)I"⟩ : MethodName) (head1 (Jvm.Cond.code (⟨"com/example/tiphys/tiphys/KnowledgeBase", "outOfOrder", "(Ljava/util/List;)I"⟩ : MethodName) prog_8_method_2_code 2 (some .int) :: ws) ({ frames := 4, cells := 0, slots := 0, locals := 57 } : Room)) (fun a U => a = #[(.ref o0)] ∧ Z.Warmed39 U.vm ∧ U.heap = h0) (fun _ _ _ _ _ => True) (fun _ U o U' => ∃ v L, o = .returned v ∧ Q_rmO3 Z o0 ea ke r0 r1 r2 ky0 ky1 ky2 cs fm h0 n0 v U'.heap L ∧ FrameEnd U o U' L ({ frames := 4, cells := 0, slots := 0, locals := 57 } : Room).cells ({ frames := 4, cells := 0, slots := 0, locals := 57 } : Room).slots) := by
  refine MetFree.of_bodySF (plainFor_of_name pn_com_example_tiphys_tiphys_KnowledgeBase) hisR ?_
  intro p e s m args below meth c s₁ Bd hml0 hP hK
  obtain ⟨rfl, hZ, hh⟩ := hP
  have hx := Bd.exec
  have hby := Bd.bytes
  have hml : c.maxLocals = 2 := hml0
  have hown : s.vm.findClass "com/example/tiphys/tiphys/KnowledgeBase" = some m.cls := findClass_of_methodNamed Bd.named
  have hnm := (name_of_methodNamed Bd.named Bd.method).1
  have hlk := Bd.notSynchronized
  have X0 : Stand p l e ({ frames := 4, cells := 0, slots := 0, locals := 57 } : Room) s m #[(.ref o0)] below meth c s₁ [] 0 0 := Stand.of_body Bd
  have e0 : s₁.heap = h0 := by rw [← hh, Bd.state]; rfl
  have N0 := Fr.nil n0
  show own_G p.tables e below s (Q_rmO3 Z o0 ea ke r0 r1 r2 ky0 ky1 ky2 cs fm h0 n0) ({ frames := 4, cells := 0, slots := 0, locals := 57 } : Room).cells ({ frames := 4, cells := 0, slots := 0, locals := 57 } : Room).slots _
  refine own_thr (a := s₁.setTop (mkF m 0 #[.val (.ref o0), .unset] [])) (fun t kt => castTop (ef_rmO3 m o0) kt) ?_
  refine own_thr (a := s₁.setTop (mkF m 4 #[.val (.ref o0), .val (.int (1 : Int32))] [(.ref o0), (.int (1 : Int32))])) (fun t kt => ?_) ?_
  · show Steps p.tables e below (s₁.setTop (mkF m 0 #[.val (.ref o0), .unset] [])) _
    refine XS.iconst X0.here hx rfl (hb hby d7_0) ?_
    refine XS.istoreN X0.here hx rfl (hb hby d7_1) rfl (l' := #[.val (.ref o0), .val (.int (1 : Int32))]) rfl ?_
    refine XS.iloadN X0.here hx rfl (hb hby d7_2) rfl ?_
    refine XS.aloadN X0.here hx rfl (hb hby d7_3) rfl rfl ?_
    exact kt
  obtain ⟨cq1, kq1, q1a, q1b, q1c⟩ := isOf hZ e0 E_o0
  obtain ⟨_, _, ⟨T1, L1, k1, n1⟩, -, X1, ⟨Lc1, hQ1, l1, y1, z1⟩, st1⟩ := X0.interfaceBack hx (xi := (⟨"java/util/List", "size", "()I"⟩ : MethodName)) (y := (⟨"java/util/ArrayList", "size", "()I"⟩ : MethodName)) hown (mvT hZ (hw _ (List.mem_of_getElem? (i := 45) rfl))) (mvT hZ (hw _ (List.mem_of_getElem? (i := 46) rfl))) (mvT hZ (hw _ (List.mem_of_getElem? (i := 47) rfl))) (mvT hZ (hw _ (List.mem_of_getElem? (i := 48) rfl))) (mvT hZ (hw _ (List.mem_of_getElem? (i := 49) rfl))) (mvT hZ (hw _ (List.mem_of_getElem? (i := 50) rfl))) (mvT hZ (hw _ (List.mem_of_getElem? (i := 51) rfl))) (mvT hZ (hw _ (List.mem_of_getElem? (i := 52) rfl))) (by decide) (backOf (W := 1) (rmSZ l Z a0 hw [] o0 (3 : Int32) h0 n0 Z0 E_o0 F_size_o0) hZ (hw _ (List.mem_of_getElem? (i := 53) rfl)) (hw _ (List.mem_of_getElem? (i := 14) rfl)) (by decide) (by decide)) q1a q1b q1c (g := (mkF m 4 #[.val (.ref o0), .val (.int (1 : Int32))] [(.ref o0), (.int (1 : Int32))])) rfl (by rw [hml]; rfl) (Steps.refl _) (argsL := []) (rest := [(.int (1 : Int32))]) (lenOf pd__28_29I rfl) rfl (by show 2 * 0 + _ ≤ _; exact Nat.le_of_eq rfl) (hb hby d7_4) (fun _ _ => ⟨rfl, e0, (by decide : 0 + 0 ≤ _), (by decide : 0 + 0 ≤ _)⟩)
  dsimp only [Pt.U, Pt.locs, Pt.cells, Pt.slots] at X1 l1 y1 z1 st1 hQ1
  obtain ⟨rfl, N1q, e1⟩ := hQ1
  obtain ⟨lc1, X1, N1⟩ := own_pack X1 l1 y1 z1 N0 N1q (C := 0) (S' := 0) rfl rfl
  refine own_thr (a := T1.setTop (mkF m 9 #[.val (.ref o0), .val (.int (1 : Int32))] [(.int (3 : Int32)), (.int (1 : Int32))])) (fun t kt => st1.trans kt) ?_
  refine own_thr (a := T1.setTop (mkF m 16 #[.val (.ref o0), .val (.int (1 : Int32))] [(.int (0 : Int32)), (.ref o0)])) (fun t kt => ?_) ?_
  · show Steps p.tables e below (T1.setTop (mkF m 9 #[.val (.ref o0), .val (.int (1 : Int32))] [(.int (3 : Int32)), (.int (1 : Int32))])) _
    refine XS.icmpNo X1.here hx rfl (hb hby d7_9) rfl (tlt (by decide)).2.1 ?_
    refine XS.aloadN X1.here hx rfl (hb hby d7_12) rfl rfl ?_
    refine XS.iloadN X1.here hx rfl (hb hby d7_13) rfl ?_
    refine XS.iconst X1.here hx rfl (hb hby d7_14) ?_
    refine XS.isub X1.here hx rfl (hb hby d7_15) rfl ?_
    exact kt
  obtain ⟨cq2, kq2, q2a, q2b, q2c⟩ := isOf hZ e1 E_o0
  obtain ⟨_, _, ⟨T2, L2, k2, n2⟩, -, X2, ⟨Lc2, hQ2, l2, y2, z2⟩, st2⟩ := X1.interfaceBack hx (xi := (⟨"java/util/List", "get", "(I)Ljava/lang/Object;"⟩ : MethodName)) (y := (⟨"java/util/ArrayList", "get", "(I)Ljava/lang/Object;"⟩ : MethodName)) hown (mvT hZ (hw _ (List.mem_of_getElem? (i := 88) rfl))) (mvT hZ (hw _ (List.mem_of_getElem? (i := 89) rfl))) (mvT hZ (hw _ (List.mem_of_getElem? (i := 90) rfl))) (mvT hZ (hw _ (List.mem_of_getElem? (i := 91) rfl))) (mvT hZ (hw _ (List.mem_of_getElem? (i := 92) rfl))) (mvT hZ (hw _ (List.mem_of_getElem? (i := 93) rfl))) (mvT hZ (hw _ (List.mem_of_getElem? (i := 94) rfl))) (mvT hZ (hw _ (List.mem_of_getElem? (i := 52) rfl))) (by decide) (backOf (W := 0) (rmGE l Z a0 hw [] o0 (0 : Int32) ea ke [(.ref r0), (.ref r1), (.ref r2), .null, .null, .null, .null, .null, .null, .null] r0 (3 : Int32) h0 n0 Z0 E_o0 F_size_o0 F_elementData_o0 V_ea (by decide) (by decide) rfl (by decide)) hZ (hw _ (List.mem_of_getElem? (i := 95) rfl)) (hw _ (List.mem_of_getElem? (i := 14) rfl)) (by decide) (by decide)) q2a q2b q2c (g := (mkF m 16 #[.val (.ref o0), .val (.int (1 : Int32))] [(.int (0 : Int32)), (.ref o0)])) rfl (by rw [hml]; rfl) (Steps.refl _) (argsL := [(.int (0 : Int32))]) (rest := []) (lenOf pd__28I_29Ljava_2flang_2fObject_3b rfl) rfl (by show 2 * 0 + _ ≤ _; exact Nat.le_of_eq rfl) (hb hby d7_16) (fun _ _ => ⟨rfl, e1, (by decide : 0 + 0 ≤ _), (by decide : 0 + 0 ≤ _)⟩)
  dsimp only [Pt.U, Pt.locs, Pt.cells, Pt.slots] at X2 l2 y2 z2 st2 hQ2
  obtain ⟨rfl, N2q, e2⟩ := hQ2
  obtain ⟨lc2, X2, N2⟩ := own_pack X2 l2 y2 z2 N1 N2q (C := 0) (S' := 0) rfl rfl
  refine own_thr (a := T2.setTop (mkF m 21 #[.val (.ref o0), .val (.int (1 : Int32))] [(.ref r0)])) (fun t kt => st2.trans kt) ?_
  obtain ⟨T3, X3, e3, st3⟩ := castY X2 hx hZ hown (hw _ (List.mem_of_getElem? (i := 109) rfl)) e2 (Ins.self So0.1) (g := (mkF m 21 #[.val (.ref o0), .val (.int (1 : Int32))] [(.ref r0)])) rfl rfl (hb hby d7_21)
  refine own_thr (a := T3.setTop (mkF m 24 #[.val (.ref o0), .val (.int (1 : Int32))] [(.ref r0)])) (fun t kt => st3 t kt) ?_
  refine own_thr (a := T3.setTop (mkF m 26 #[.val (.ref o0), .val (.int (1 : Int32))] [(.int (1 : Int32)), (.ref o0), (.ref r0)])) (fun t kt => ?_) ?_
  · show Steps p.tables e below (T3.setTop (mkF m 24 #[.val (.ref o0), .val (.int (1 : Int32))] [(.ref r0)])) _
    refine XS.aloadN X3.here hx rfl (hb hby d7_24) rfl rfl ?_
    refine XS.iloadN X3.here hx rfl (hb hby d7_25) rfl ?_
    exact kt
  obtain ⟨cq4, kq4, q4a, q4b, q4c⟩ := isOf hZ e3 E_o0
  obtain ⟨_, _, ⟨T4, L4, k4, n4⟩, -, X4, ⟨Lc4, hQ4, l4, y4, z4⟩, st4⟩ := X3.interfaceBack hx (xi := (⟨"java/util/List", "get", "(I)Ljava/lang/Object;"⟩ : MethodName)) (y := (⟨"java/util/ArrayList", "get", "(I)Ljava/lang/Object;"⟩ : MethodName)) hown (mvT hZ (hw _ (List.mem_of_getElem? (i := 88) rfl))) (mvT hZ (hw _ (List.mem_of_getElem? (i := 89) rfl))) (mvT hZ (hw _ (List.mem_of_getElem? (i := 90) rfl))) (mvT hZ (hw _ (List.mem_of_getElem? (i := 91) rfl))) (mvT hZ (hw _ (List.mem_of_getElem? (i := 92) rfl))) (mvT hZ (hw _ (List.mem_of_getElem? (i := 93) rfl))) (mvT hZ (hw _ (List.mem_of_getElem? (i := 94) rfl))) (mvT hZ (hw _ (List.mem_of_getElem? (i := 52) rfl))) (by decide) (backOf (W := 1) (rmGE l Z a0 hw [] o0 (1 : Int32) ea ke [(.ref r0), (.ref r1), (.ref r2), .null, .null, .null, .null, .null, .null, .null] r1 (3 : Int32) h0 n0 Z0 E_o0 F_size_o0 F_elementData_o0 V_ea (by decide) (by decide) rfl (by decide)) hZ (hw _ (List.mem_of_getElem? (i := 95) rfl)) (hw _ (List.mem_of_getElem? (i := 14) rfl)) (by decide) (by decide)) q4a q4b q4c (g := (mkF m 26 #[.val (.ref o0), .val (.int (1 : Int32))] [(.int (1 : Int32)), (.ref o0), (.ref r0)])) rfl (by rw [hml]; rfl) (Steps.refl _) (argsL := [(.int (1 : Int32))]) (rest := [(.ref r0)]) (lenOf pd__28I_29Ljava_2flang_2fObject_3b rfl) rfl (by show 2 * 0 + _ ≤ _; exact Nat.le_of_eq rfl) (hb hby d7_26) (fun _ _ => ⟨rfl, e3, (by decide : 0 + 0 ≤ _), (by decide : 0 + 0 ≤ _)⟩)
  dsimp only [Pt.U, Pt.locs, Pt.cells, Pt.slots] at X4 l4 y4 z4 st4 hQ4
  obtain ⟨rfl, N4q, e4⟩ := hQ4
  obtain ⟨lc4, X4, N4⟩ := own_pack X4 l4 y4 z4 N2 N4q (C := 0) (S' := 0) rfl rfl
  refine own_thr (a := T4.setTop (mkF m 31 #[.val (.ref o0), .val (.int (1 : Int32))] [(.ref r1), (.ref r0)])) (fun t kt => st4.trans kt) ?_
  obtain ⟨T5, X5, e5, st5⟩ := castY X4 hx hZ hown (hw _ (List.mem_of_getElem? (i := 109) rfl)) e4 (Ins.self So1.1) (g := (mkF m 31 #[.val (.ref o0), .val (.int (1 : Int32))] [(.ref r1), (.ref r0)])) rfl rfl (hb hby d7_31)
  refine own_thr (a := T5.setTop (mkF m 34 #[.val (.ref o0), .val (.int (1 : Int32))] [(.ref r1), (.ref r0)])) (fun t kt => st5 t kt) ?_
  obtain ⟨_, _, ⟨T6, L6, k6, n6⟩, -, X6, ⟨Lc6, hQ6, l6, y6, z6⟩, st6⟩ := Jvm.LawKit.callS X5 hx (y := (⟨"com/example/tiphys/tiphys/CodePointOrder", "compare", "(Ljava/lang/String;Ljava/lang/String;)I"⟩ : MethodName)) hown (mvT hZ (hw _ (List.mem_of_getElem? (i := 111) rfl))) (mvT hZ (hw _ (List.mem_of_getElem? (i := 112) rfl))) (mvT hZ (hw _ (List.mem_of_getElem? (i := 113) rfl))) (mvT hZ (hw _ (List.mem_of_getElem? (i := 114) rfl))) (by decide) (backOf (W := 0) (rmCM l Z a0 hw [] r0 r1 ky0 ky1 cs fm h0 n0 Z0 So0 So1 S_cs hcs S_fm hfm hO) hZ (hw _ (List.mem_of_getElem? (i := 114) rfl)) (hw _ (List.mem_of_getElem? (i := 113) rfl)) (by decide) (by decide)) (g := (mkF m 34 #[.val (.ref o0), .val (.int (1 : Int32))] [(.ref r1), (.ref r0)])) rfl (by rw [hml]; rfl) (argsL := [(.ref r0), (.ref r1)]) (rest := []) (lenOf pd__28Ljava_2flang_2fString_3bLjava_2flang_2fString_3b_29I rfl) rfl (by show 2 * 0 + _ ≤ _; exact Nat.le_of_eq rfl) (hb hby d7_34) (fun _ _ => ⟨rfl, e5, (by decide : 0 + 0 ≤ _), (by decide : 0 + 0 ≤ _)⟩)
  dsimp only [Pt.U, Pt.locs, Pt.cells, Pt.slots] at X6 l6 y6 z6 st6 hQ6
  obtain ⟨rfl, N6q, e6⟩ := hQ6
  obtain ⟨lc6, X6, N6⟩ := own_pack X6 l6 y6 z6 N4 N6q (C := 0) (S' := 0) rfl rfl
  refine own_thr (a := T6.setTop (mkF m 37 #[.val (.ref o0), .val (.int (1 : Int32))] [(.int (f_rmIC ky0 ky1))])) (fun t kt => st6 t kt) ?_
  by_cases hc7 : (f_rmIC ky0 ky1) < (0 : Int32)
  · refine own_thr (a := T6.setTop (mkF m 4 #[.val (.ref o0), .val (.int (2 : Int32))] [(.ref o0), (.int (2 : Int32))])) (fun t kt => ?_) ?_
    · show Steps p.tables e below (T6.setTop (mkF m 37 #[.val (.ref o0), .val (.int (1 : Int32))] [(.int (f_rmIC ky0 ky1))])) _
      refine XS.ifYes X6.here hx rfl (pc0 := 37) (pc' := 42) rfl (hb hby d7_37) rfl ((if0 _ _).trans (tlt hc7).1) (by decide) (by decide) ?_
      refine XS.iinc X6.here hx rfl (hb hby d7_42) rfl (l' := #[.val (.ref o0), .val (.int (2 : Int32))]) rfl ?_
      refine XS.goto X6.here hx rfl (pc0 := 45) (pc' := 2) rfl (hb hby d7_45) (by decide) (by decide) ?_
      refine XS.iloadN X6.here hx rfl (hb hby d7_2) rfl ?_
      refine XS.aloadN X6.here hx rfl (hb hby d7_3) rfl rfl ?_
      exact kt
    obtain ⟨cq8, kq8, q8a, q8b, q8c⟩ := isOf hZ e6 E_o0
    obtain ⟨_, _, ⟨T8, L8, k8, n8⟩, -, X8, ⟨Lc8, hQ8, l8, y8, z8⟩, st8⟩ := X6.interfaceBack hx (xi := (⟨"java/util/List", "size", "()I"⟩ : MethodName)) (y := (⟨"java/util/ArrayList", "size", "()I"⟩ : MethodName)) hown (mvT hZ (hw _ (List.mem_of_getElem? (i := 45) rfl))) (mvT hZ (hw _ (List.mem_of_getElem? (i := 46) rfl))) (mvT hZ (hw _ (List.mem_of_getElem? (i := 47) rfl))) (mvT hZ (hw _ (List.mem_of_getElem? (i := 48) rfl))) (mvT hZ (hw _ (List.mem_of_getElem? (i := 49) rfl))) (mvT hZ (hw _ (List.mem_of_getElem? (i := 50) rfl))) (mvT hZ (hw _ (List.mem_of_getElem? (i := 51) rfl))) (mvT hZ (hw _ (List.mem_of_getElem? (i := 52) rfl))) (by decide) (backOf (W := 1) (rmSZ l Z a0 hw [] o0 (3 : Int32) h0 n0 Z0 E_o0 F_size_o0) hZ (hw _ (List.mem_of_getElem? (i := 53) rfl)) (hw _ (List.mem_of_getElem? (i := 14) rfl)) (by decide) (by decide)) q8a q8b q8c (g := (mkF m 4 #[.val (.ref o0), .val (.int (2 : Int32))] [(.ref o0), (.int (2 : Int32))])) rfl (by rw [hml]; rfl) (Steps.refl _) (argsL := []) (rest := [(.int (2 : Int32))]) (lenOf pd__28_29I rfl) rfl (by show 2 * 0 + _ ≤ _; exact Nat.le_of_eq rfl) (hb hby d7_4) (fun _ _ => ⟨rfl, e6, (by decide : 0 + 0 ≤ _), (by decide : 0 + 0 ≤ _)⟩)
    dsimp only [Pt.U, Pt.locs, Pt.cells, Pt.slots] at X8 l8 y8 z8 st8 hQ8
    obtain ⟨rfl, N8q, e8⟩ := hQ8
    obtain ⟨lc8, X8, N8⟩ := own_pack X8 l8 y8 z8 N6 N8q (C := 0) (S' := 0) rfl rfl
    refine own_thr (a := T8.setTop (mkF m 9 #[.val (.ref o0), .val (.int (2 : Int32))] [(.int (3 : Int32)), (.int (2 : Int32))])) (fun t kt => st8.trans kt) ?_
    refine own_thr (a := T8.setTop (mkF m 16 #[.val (.ref o0), .val (.int (2 : Int32))] [(.int (1 : Int32)), (.ref o0)])) (fun t kt => ?_) ?_
    · show Steps p.tables e below (T8.setTop (mkF m 9 #[.val (.ref o0), .val (.int (2 : Int32))] [(.int (3 : Int32)), (.int (2 : Int32))])) _
      refine XS.icmpNo X8.here hx rfl (hb hby d7_9) rfl (tlt (by decide)).2.1 ?_
      refine XS.aloadN X8.here hx rfl (hb hby d7_12) rfl rfl ?_
      refine XS.iloadN X8.here hx rfl (hb hby d7_13) rfl ?_
      refine XS.iconst X8.here hx rfl (hb hby d7_14) ?_
      refine XS.isub X8.here hx rfl (hb hby d7_15) rfl ?_
      exact kt
    obtain ⟨cq9, kq9, q9a, q9b, q9c⟩ := isOf hZ e8 E_o0
    obtain ⟨_, _, ⟨T9, L9, k9, n9⟩, -, X9, ⟨Lc9, hQ9, l9, y9, z9⟩, st9⟩ := X8.interfaceBack hx (xi := (⟨"java/util/List", "get", "(I)Ljava/lang/Object;"⟩ : MethodName)) (y := (⟨"java/util/ArrayList", "get", "(I)Ljava/lang/Object;"⟩ : MethodName)) hown (mvT hZ (hw _ (List.mem_of_getElem? (i := 88) rfl))) (mvT hZ (hw _ (List.mem_of_getElem? (i := 89) rfl))) (mvT hZ (hw _ (List.mem_of_getElem? (i := 90) rfl))) (mvT hZ (hw _ (List.mem_of_getElem? (i := 91) rfl))) (mvT hZ (hw _ (List.mem_of_getElem? (i := 92) rfl))) (mvT hZ (hw _ (List.mem_of_getElem? (i := 93) rfl))) (mvT hZ (hw _ (List.mem_of_getElem? (i := 94) rfl))) (mvT hZ (hw _ (List.mem_of_getElem? (i := 52) rfl))) (by decide) (backOf (W := 0) (rmGE l Z a0 hw [] o0 (1 : Int32) ea ke [(.ref r0), (.ref r1), (.ref r2), .null, .null, .null, .null, .null, .null, .null] r1 (3 : Int32) h0 n0 Z0 E_o0 F_size_o0 F_elementData_o0 V_ea (by decide) (by decide) rfl (by decide)) hZ (hw _ (List.mem_of_getElem? (i := 95) rfl)) (hw _ (List.mem_of_getElem? (i := 14) rfl)) (by decide) (by decide)) q9a q9b q9c (g := (mkF m 16 #[.val (.ref o0), .val (.int (2 : Int32))] [(.int (1 : Int32)), (.ref o0)])) rfl (by rw [hml]; rfl) (Steps.refl _) (argsL := [(.int (1 : Int32))]) (rest := []) (lenOf pd__28I_29Ljava_2flang_2fObject_3b rfl) rfl (by show 2 * 0 + _ ≤ _; exact Nat.le_of_eq rfl) (hb hby d7_16) (fun _ _ => ⟨rfl, e8, (by decide : 0 + 0 ≤ _), (by decide : 0 + 0 ≤ _)⟩)
    dsimp only [Pt.U, Pt.locs, Pt.cells, Pt.slots] at X9 l9 y9 z9 st9 hQ9
    obtain ⟨rfl, N9q, e9⟩ := hQ9
    obtain ⟨lc9, X9, N9⟩ := own_pack X9 l9 y9 z9 N8 N9q (C := 0) (S' := 0) rfl rfl
    refine own_thr (a := T9.setTop (mkF m 21 #[.val (.ref o0), .val (.int (2 : Int32))] [(.ref r1)])) (fun t kt => st9.trans kt) ?_
    obtain ⟨T10, X10, e10, st10⟩ := castY X9 hx hZ hown (hw _ (List.mem_of_getElem? (i := 109) rfl)) e9 (Ins.self So1.1) (g := (mkF m 21 #[.val (.ref o0), .val (.int (2 : Int32))] [(.ref r1)])) rfl rfl (hb hby d7_21)
    refine own_thr (a := T10.setTop (mkF m 24 #[.val (.ref o0), .val (.int (2 : Int32))] [(.ref r1)])) (fun t kt => st10 t kt) ?_
    refine own_thr (a := T10.setTop (mkF m 26 #[.val (.ref o0), .val (.int (2 : Int32))] [(.int (2 : Int32)), (.ref o0), (.ref r1)])) (fun t kt => ?_) ?_
    · show Steps p.tables e below (T10.setTop (mkF m 24 #[.val (.ref o0), .val (.int (2 : Int32))] [(.ref r1)])) _
      refine XS.aloadN X10.here hx rfl (hb hby d7_24) rfl rfl ?_
      refine XS.iloadN X10.here hx rfl (hb hby d7_25) rfl ?_
      exact kt
    obtain ⟨cq11, kq11, q11a, q11b, q11c⟩ := isOf hZ e10 E_o0
    obtain ⟨_, _, ⟨T11, L11, k11, n11⟩, -, X11, ⟨Lc11, hQ11, l11, y11, z11⟩, st11⟩ := X10.interfaceBack hx (xi := (⟨"java/util/List", "get", "(I)Ljava/lang/Object;"⟩ : MethodName)) (y := (⟨"java/util/ArrayList", "get", "(I)Ljava/lang/Object;"⟩ : MethodName)) hown (mvT hZ (hw _ (List.mem_of_getElem? (i := 88) rfl))) (mvT hZ (hw _ (List.mem_of_getElem? (i := 89) rfl))) (mvT hZ (hw _ (List.mem_of_getElem? (i := 90) rfl))) (mvT hZ (hw _ (List.mem_of_getElem? (i := 91) rfl))) (mvT hZ (hw _ (List.mem_of_getElem? (i := 92) rfl))) (mvT hZ (hw _ (List.mem_of_getElem? (i := 93) rfl))) (mvT hZ (hw _ (List.mem_of_getElem? (i := 94) rfl))) (mvT hZ (hw _ (List.mem_of_getElem? (i := 52) rfl))) (by decide) (backOf (W := 1) (rmGE l Z a0 hw [] o0 (2 : Int32) ea ke [(.ref r0), (.ref r1), (.ref r2), .null, .null, .null, .null, .null, .null, .null] r2 (3 : Int32) h0 n0 Z0 E_o0 F_size_o0 F_elementData_o0 V_ea (by decide) (by decide) rfl (by decide)) hZ (hw _ (List.mem_of_getElem? (i := 95) rfl)) (hw _ (List.mem_of_getElem? (i := 14) rfl)) (by decide) (by decide)) q11a q11b q11c (g := (mkF m 26 #[.val (.ref o0), .val (.int (2 : Int32))] [(.int (2 : Int32)), (.ref o0), (.ref r1)])) rfl (by rw [hml]; rfl) (Steps.refl _) (argsL := [(.int (2 : Int32))]) (rest := [(.ref r1)]) (lenOf pd__28I_29Ljava_2flang_2fObject_3b rfl) rfl (by show 2 * 0 + _ ≤ _; exact Nat.le_of_eq rfl) (hb hby d7_26) (fun _ _ => ⟨rfl, e10, (by decide : 0 + 0 ≤ _), (by decide : 0 + 0 ≤ _)⟩)
    dsimp only [Pt.U, Pt.locs, Pt.cells, Pt.slots] at X11 l11 y11 z11 st11 hQ11
    obtain ⟨rfl, N11q, e11⟩ := hQ11
    obtain ⟨lc11, X11, N11⟩ := own_pack X11 l11 y11 z11 N9 N11q (C := 0) (S' := 0) rfl rfl
    refine own_thr (a := T11.setTop (mkF m 31 #[.val (.ref o0), .val (.int (2 : Int32))] [(.ref r2), (.ref r1)])) (fun t kt => st11.trans kt) ?_
    obtain ⟨T12, X12, e12, st12⟩ := castY X11 hx hZ hown (hw _ (List.mem_of_getElem? (i := 109) rfl)) e11 (Ins.self So2.1) (g := (mkF m 31 #[.val (.ref o0), .val (.int (2 : Int32))] [(.ref r2), (.ref r1)])) rfl rfl (hb hby d7_31)
    refine own_thr (a := T12.setTop (mkF m 34 #[.val (.ref o0), .val (.int (2 : Int32))] [(.ref r2), (.ref r1)])) (fun t kt => st12 t kt) ?_
    obtain ⟨_, _, ⟨T13, L13, k13, n13⟩, -, X13, ⟨Lc13, hQ13, l13, y13, z13⟩, st13⟩ := Jvm.LawKit.callS X12 hx (y := (⟨"com/example/tiphys/tiphys/CodePointOrder", "compare", "(Ljava/lang/String;Ljava/lang/String;)I"⟩ : MethodName)) hown (mvT hZ (hw _ (List.mem_of_getElem? (i := 111) rfl))) (mvT hZ (hw _ (List.mem_of_getElem? (i := 112) rfl))) (mvT hZ (hw _ (List.mem_of_getElem? (i := 113) rfl))) (mvT hZ (hw _ (List.mem_of_getElem? (i := 114) rfl))) (by decide) (backOf (W := 0) (rmCM l Z a0 hw [] r1 r2 ky1 ky2 cs fm h0 n0 Z0 So1 So2 S_cs hcs S_fm hfm hO) hZ (hw _ (List.mem_of_getElem? (i := 114) rfl)) (hw _ (List.mem_of_getElem? (i := 113) rfl)) (by decide) (by decide)) (g := (mkF m 34 #[.val (.ref o0), .val (.int (2 : Int32))] [(.ref r2), (.ref r1)])) rfl (by rw [hml]; rfl) (argsL := [(.ref r1), (.ref r2)]) (rest := []) (lenOf pd__28Ljava_2flang_2fString_3bLjava_2flang_2fString_3b_29I rfl) rfl (by show 2 * 0 + _ ≤ _; exact Nat.le_of_eq rfl) (hb hby d7_34) (fun _ _ => ⟨rfl, e12, (by decide : 0 + 0 ≤ _), (by decide : 0 + 0 ≤ _)⟩)
    dsimp only [Pt.U, Pt.locs, Pt.cells, Pt.slots] at X13 l13 y13 z13 st13 hQ13
    obtain ⟨rfl, N13q, e13⟩ := hQ13
    obtain ⟨lc13, X13, N13⟩ := own_pack X13 l13 y13 z13 N11 N13q (C := 0) (S' := 0) rfl rfl
    refine own_thr (a := T13.setTop (mkF m 37 #[.val (.ref o0), .val (.int (2 : Int32))] [(.int (f_rmIC ky1 ky2))])) (fun t kt => st13 t kt) ?_
    by_cases hc14 : (f_rmIC ky1 ky2) < (0 : Int32)
    · refine own_thr (a := T13.setTop (mkF m 4 #[.val (.ref o0), .val (.int (3 : Int32))] [(.ref o0), (.int (3 : Int32))])) (fun t kt => ?_) ?_
      · show Steps p.tables e below (T13.setTop (mkF m 37 #[.val (.ref o0), .val (.int (2 : Int32))] [(.int (f_rmIC ky1 ky2))])) _
        refine XS.ifYes X13.here hx rfl (pc0 := 37) (pc' := 42) rfl (hb hby d7_37) rfl ((if0 _ _).trans (tlt hc14).1) (by decide) (by decide) ?_
        refine XS.iinc X13.here hx rfl (hb hby d7_42) rfl (l' := #[.val (.ref o0), .val (.int (3 : Int32))]) rfl ?_
        refine XS.goto X13.here hx rfl (pc0 := 45) (pc' := 2) rfl (hb hby d7_45) (by decide) (by decide) ?_
        refine XS.iloadN X13.here hx rfl (hb hby d7_2) rfl ?_
        refine XS.aloadN X13.here hx rfl (hb hby d7_3) rfl rfl ?_
        exact kt
      obtain ⟨cq15, kq15, q15a, q15b, q15c⟩ := isOf hZ e13 E_o0
      obtain ⟨_, _, ⟨T15, L15, k15, n15⟩, -, X15, ⟨Lc15, hQ15, l15, y15, z15⟩, st15⟩ := X13.interfaceBack hx (xi := (⟨"java/util/List", "size", "()I"⟩ : MethodName)) (y := (⟨"java/util/ArrayList", "size", "()I"⟩ : MethodName)) hown (mvT hZ (hw _ (List.mem_of_getElem? (i := 45) rfl))) (mvT hZ (hw _ (List.mem_of_getElem? (i := 46) rfl))) (mvT hZ (hw _ (List.mem_of_getElem? (i := 47) rfl))) (mvT hZ (hw _ (List.mem_of_getElem? (i := 48) rfl))) (mvT hZ (hw _ (List.mem_of_getElem? (i := 49) rfl))) (mvT hZ (hw _ (List.mem_of_getElem? (i := 50) rfl))) (mvT hZ (hw _ (List.mem_of_getElem? (i := 51) rfl))) (mvT hZ (hw _ (List.mem_of_getElem? (i := 52) rfl))) (by decide) (backOf (W := 1) (rmSZ l Z a0 hw [] o0 (3 : Int32) h0 n0 Z0 E_o0 F_size_o0) hZ (hw _ (List.mem_of_getElem? (i := 53) rfl)) (hw _ (List.mem_of_getElem? (i := 14) rfl)) (by decide) (by decide)) q15a q15b q15c (g := (mkF m 4 #[.val (.ref o0), .val (.int (3 : Int32))] [(.ref o0), (.int (3 : Int32))])) rfl (by rw [hml]; rfl) (Steps.refl _) (argsL := []) (rest := [(.int (3 : Int32))]) (lenOf pd__28_29I rfl) rfl (by show 2 * 0 + _ ≤ _; exact Nat.le_of_eq rfl) (hb hby d7_4) (fun _ _ => ⟨rfl, e13, (by decide : 0 + 0 ≤ _), (by decide : 0 + 0 ≤ _)⟩)
      dsimp only [Pt.U, Pt.locs, Pt.cells, Pt.slots] at X15 l15 y15 z15 st15 hQ15
      obtain ⟨rfl, N15q, e15⟩ := hQ15
      obtain ⟨lc15, X15, N15⟩ := own_pack X15 l15 y15 z15 N13 N15q (C := 0) (S' := 0) rfl rfl
      refine own_thr (a := T15.setTop (mkF m 9 #[.val (.ref o0), .val (.int (3 : Int32))] [(.int (3 : Int32)), (.int (3 : Int32))])) (fun t kt => st15.trans kt) ?_
      refine own_thr (a := T15.setTop (mkF m 49 #[.val (.ref o0), .val (.int (3 : Int32))] [(.int (-1 : Int32))])) (fun t kt => ?_) ?_
      · show Steps p.tables e below (T15.setTop (mkF m 9 #[.val (.ref o0), .val (.int (3 : Int32))] [(.int (3 : Int32)), (.int (3 : Int32))])) _
        refine XS.icmpYes X15.here hx rfl (pc0 := 9) (pc' := 48) rfl (hb hby d7_9) rfl (flt (by decide)).2.1 (by decide) (by decide) ?_
        refine XS.iconst X15.here hx rfl (hb hby d7_48) ?_
        exact kt
      exact own_end X15 hlk (v := some (.int (-1 : Int32))) (fun h => by rw [Bd.returns] at h; cases h) (fun fs hr => retI X15 hx Bd.returns (hb hby d7_49) hr) (by rw [e15]; exact ⟨(by rw [f_rmO3, if_pos hc7, if_pos hc14]), N15, rfl⟩) (by decide : 0 ≤ _) (by decide : 0 ≤ _)
    · refine own_thr (a := T13.setTop (mkF m 41 #[.val (.ref o0), .val (.int (2 : Int32))] [(.int (2 : Int32))])) (fun t kt => ?_) ?_
      · show Steps p.tables e below (T13.setTop (mkF m 37 #[.val (.ref o0), .val (.int (2 : Int32))] [(.int (f_rmIC ky1 ky2))])) _
        refine XS.ifNo X13.here hx rfl (hb hby d7_37) rfl ((if0 _ _).trans (flt hc14).1) ?_
        refine XS.iloadN X13.here hx rfl (hb hby d7_40) rfl ?_
        exact kt
      exact own_end X13 hlk (v := some (.int (2 : Int32))) (fun h => by rw [Bd.returns] at h; cases h) (fun fs hr => retI X13 hx Bd.returns (hb hby d7_41) hr) (by rw [e13]; exact ⟨(by rw [f_rmO3, if_pos hc7, if_neg hc14]), N13, rfl⟩) (by decide : 0 ≤ _) (by decide : 0 ≤ _)
  · refine own_thr (a := T6.setTop (mkF m 41 #[.val (.ref o0), .val (.int (1 : Int32))] [(.int (1 : Int32))])) (fun t kt => ?_) ?_
    · show Steps p.tables e below (T6.setTop (mkF m 37 #[.val (.ref o0), .val (.int (1 : Int32))] [(.int (f_rmIC ky0 ky1))])) _
      refine XS.ifNo X6.here hx rfl (hb hby d7_37) rfl ((if0 _ _).trans (flt hc7).1) ?_
      refine XS.iloadN X6.here hx rfl (hb hby d7_40) rfl ?_
      exact kt
    exact own_end X6 hlk (v := some (.int (1 : Int32))) (fun h => by rw [Bd.returns] at h; cases h) (fun fs hr => retI X6 hx Bd.returns (hb hby d7_41) hr) (by rw [e6]; exact ⟨(by rw [f_rmO3, if_neg hc7]), N6, rfl⟩) (by decide : 0 ≤ _) (by decide : 0 ≤ _)
theorem ef_rmO4 (m : MethodId) (o0 : Addr)  : entryFrame m #[(.ref o0)] 2 = mkF m 0 #[.val (.ref o0), .unset] [] := by first |  (simp [entryFrame, mkF, argsToLocals, Value.category]; done) | rfl
def f_rmO4 (o0 : Addr) (ea : Addr) (ke : ClassId) (r0 : Addr) (r1 : Addr) (r2 : Addr) (r3 : Addr) (ky0 : Int32) (ky1 : Int32) (ky2 : Int32) (ky3 : Int32) (cs : Int32) (fm : Value) : Int32 := if (f_rmIC ky0 ky1) < (0 : Int32) then (if (f_rmIC ky1 ky2) < (0 : Int32) then (if (f_rmIC ky2 ky3) < (0 : Int32) then (-1 : Int32) else (3 : Int32)) else (2 : Int32)) else (1 : Int32)
def Q_rmO4 (Z : State) (o0 : Addr) (ea : Addr) (ke : ClassId) (r0 : Addr) (r1 : Addr) (r2 : Addr) (r3 : Addr) (ky0 : Int32) (ky1 : Int32) (ky2 : Int32) (ky3 : Int32) (cs : Int32) (fm : Value) (h0 : Heap) (n0 : Nat) (v : Option Value) (h : Heap) (L : List Loc) : Prop := v = some (.int (f_rmO4 o0 ea ke r0 r1 r2 r3 ky0 ky1 ky2 ky3 cs fm)) ∧ Fr n0 L ∧ h = h0
set_option maxRecDepth 65536 in
set_option maxHeartbeats 40000000 in
theorem rmO4 (l : Launch) (Z : State) (a0 : Array Value) (hw : ∀ d ∈ tables_1, d.before a0 Z = true) (ws : List Jvm.Cond) (o0 : Addr) (ea : Addr) (ke : ClassId) (r0 : Addr) (r1 : Addr) (r2 : Addr) (r3 : Addr) (ky0 : Int32) (ky1 : Int32) (ky2 : Int32) (ky3 : Int32) (cs : Int32) (fm : Value) (h0 : Heap) (n0 : Nat) (Z0 : n0 ≤ h0.size) (E_o0 : Exa Z h0 o0 "java/util/ArrayList") (F_size_o0 : Fld Z h0 o0 "java/util/ArrayList" "size" "I" (.int (4 : Int32))) (F_elementData_o0 : Fld Z h0 o0 "java/util/ArrayList" "elementData" "[Ljava/lang/Object;" (.ref ea)) (V_ea : Arv Z h0 ea ke (.object "java/lang/Object") (10 : Int32) [(.ref r0), (.ref r1), (.ref r2), (.ref r3), .null, .null, .null, .null, .null, .null] .null) (So0 : own_S Z h0 r0 ky0) (So1 : own_S Z h0 r1 ky1) (So2 : own_S Z h0 r2 ky2) (So3 : own_S Z h0 r3 ky3) (S_cs : Sta Z Z.heap "java/lang/String" "COMPACT_STRINGS" "Z" (.int cs)) (hcs : ¬ cs = (0 : Int32)) (S_fm : Sta Z Z.heap "jdk/internal/util/Preconditions" "SIOOBE_FORMATTER" "Ljava/util/function/BiFunction;" fm) (hfm : fm.isRef = true) (hO : Old Z n0 h0) :
    MetFree l (⟨"com/example/tiphys/tiphys/KnowledgeBase", "outOfOrder", "(Ljava/util/List;)I"⟩ : MethodName) (head1 (Jvm.Cond.code (⟨"com/example/tiphys/tiphys/KnowledgeBase", "outOfOrder", "(Ljava/util/List;)I"⟩ : MethodName) prog_8_method_2_code 2 (some .int) :: ws) ({ frames := 4, cells := 0, slots := 0, locals := 57 } : Room)) (fun a U => a = #[(.ref o0)] ∧ Z.Warmed39 U.vm ∧ U.heap = h0) (fun _ _ _ _ _ => True) (fun _ U o U' => ∃ v L, o = .returned v ∧ Q_rmO4 Z o0 ea ke r0 r1 r2 r3 ky0 ky1 ky2 ky3 cs fm h0 n0 v U'.heap L ∧ FrameEnd U o U' L ({ frames := 4, cells := 0, slots := 0, locals := 57 } : Room).cells ({ frames := 4, cells := 0, slots := 0, locals := 57 } : Room).slots) := by
  refine MetFree.of_bodySF (plainFor_of_name pn_com_example_tiphys_tiphys_KnowledgeBase) hisR ?_
  intro p e s m args below meth c s₁ Bd hml0 hP hK
  obtain ⟨rfl, hZ, hh⟩ := hP
  have hx := Bd.exec
  have hby := Bd.bytes
  have hml : c.maxLocals = 2 := hml0
  have hown : s.vm.findClass "com/example/tiphys/tiphys/KnowledgeBase" = some m.cls := findClass_of_methodNamed Bd.named
  have hnm := (name_of_methodNamed Bd.named Bd.method).1
  have hlk := Bd.notSynchronized
  have X0 : Stand p l e ({ frames := 4, cells := 0, slots := 0, locals := 57 } : Room) s m #[(.ref o0)] below meth c s₁ [] 0 0 := Stand.of_body Bd
  have e0 : s₁.heap = h0 := by rw [← hh, Bd.state]; rfl
  have N0 := Fr.nil n0
  show own_G p.tables e below s (Q_rmO4 Z o0 ea ke r0 r1 r2 r3 ky0 ky1 ky2 ky3 cs fm h0 n0) ({ frames := 4, cells := 0, slots := 0, locals := 57 } : Room).cells ({ frames := 4, cells := 0, slots := 0, locals := 57 } : Room).slots _
  refine own_thr (a := s₁.setTop (mkF m 0 #[.val (.ref o0), .unset] [])) (fun t kt => castTop (ef_rmO4 m o0) kt) ?_
  refine own_thr (a := s₁.setTop (mkF m 4 #[.val (.ref o0), .val (.int (1 : Int32))] [(.ref o0), (.int (1 : Int32))])) (fun t kt => ?_) ?_
  · show Steps p.tables e below (s₁.setTop (mkF m 0 #[.val (.ref o0), .unset] [])) _
    refine XS.iconst X0.here hx rfl (hb hby d7_0) ?_
    refine XS.istoreN X0.here hx rfl (hb hby d7_1) rfl (l' := #[.val (.ref o0), .val (.int (1 : Int32))]) rfl ?_
    refine XS.iloadN X0.here hx rfl (hb hby d7_2) rfl ?_
    refine XS.aloadN X0.here hx rfl (hb hby d7_3) rfl rfl ?_
    exact kt
  obtain ⟨cq1, kq1, q1a, q1b, q1c⟩ := isOf hZ e0 E_o0
  obtain ⟨_, _, ⟨T1, L1, k1, n1⟩, -, X1, ⟨Lc1, hQ1, l1, y1, z1⟩, st1⟩ := X0.interfaceBack hx (xi := (⟨"java/util/List", "size", "()I"⟩ : MethodName)) (y := (⟨"java/util/ArrayList", "size", "()I"⟩ : MethodName)) hown (mvT hZ (hw _ (List.mem_of_getElem? (i := 45) rfl))) (mvT hZ (hw _ (List.mem_of_getElem? (i := 46) rfl))) (mvT hZ (hw _ (List.mem_of_getElem? (i := 47) rfl))) (mvT hZ (hw _ (List.mem_of_getElem? (i := 48) rfl))) (mvT hZ (hw _ (List.mem_of_getElem? (i := 49) rfl))) (mvT hZ (hw _ (List.mem_of_getElem? (i := 50) rfl))) (mvT hZ (hw _ (List.mem_of_getElem? (i := 51) rfl))) (mvT hZ (hw _ (List.mem_of_getElem? (i := 52) rfl))) (by decide) (backOf (W := 1) (rmSZ l Z a0 hw [] o0 (4 : Int32) h0 n0 Z0 E_o0 F_size_o0) hZ (hw _ (List.mem_of_getElem? (i := 53) rfl)) (hw _ (List.mem_of_getElem? (i := 14) rfl)) (by decide) (by decide)) q1a q1b q1c (g := (mkF m 4 #[.val (.ref o0), .val (.int (1 : Int32))] [(.ref o0), (.int (1 : Int32))])) rfl (by rw [hml]; rfl) (Steps.refl _) (argsL := []) (rest := [(.int (1 : Int32))]) (lenOf pd__28_29I rfl) rfl (by show 2 * 0 + _ ≤ _; exact Nat.le_of_eq rfl) (hb hby d7_4) (fun _ _ => ⟨rfl, e0, (by decide : 0 + 0 ≤ _), (by decide : 0 + 0 ≤ _)⟩)
  dsimp only [Pt.U, Pt.locs, Pt.cells, Pt.slots] at X1 l1 y1 z1 st1 hQ1
  obtain ⟨rfl, N1q, e1⟩ := hQ1
  obtain ⟨lc1, X1, N1⟩ := own_pack X1 l1 y1 z1 N0 N1q (C := 0) (S' := 0) rfl rfl
  refine own_thr (a := T1.setTop (mkF m 9 #[.val (.ref o0), .val (.int (1 : Int32))] [(.int (4 : Int32)), (.int (1 : Int32))])) (fun t kt => st1.trans kt) ?_
  refine own_thr (a := T1.setTop (mkF m 16 #[.val (.ref o0), .val (.int (1 : Int32))] [(.int (0 : Int32)), (.ref o0)])) (fun t kt => ?_) ?_
  · show Steps p.tables e below (T1.setTop (mkF m 9 #[.val (.ref o0), .val (.int (1 : Int32))] [(.int (4 : Int32)), (.int (1 : Int32))])) _
    refine XS.icmpNo X1.here hx rfl (hb hby d7_9) rfl (tlt (by decide)).2.1 ?_
    refine XS.aloadN X1.here hx rfl (hb hby d7_12) rfl rfl ?_
    refine XS.iloadN X1.here hx rfl (hb hby d7_13) rfl ?_
    refine XS.iconst X1.here hx rfl (hb hby d7_14) ?_
    refine XS.isub X1.here hx rfl (hb hby d7_15) rfl ?_
    exact kt
  obtain ⟨cq2, kq2, q2a, q2b, q2c⟩ := isOf hZ e1 E_o0
  obtain ⟨_, _, ⟨T2, L2, k2, n2⟩, -, X2, ⟨Lc2, hQ2, l2, y2, z2⟩, st2⟩ := X1.interfaceBack hx (xi := (⟨"java/util/List", "get", "(I)Ljava/lang/Object;"⟩ : MethodName)) (y := (⟨"java/util/ArrayList", "get", "(I)Ljava/lang/Object;"⟩ : MethodName)) hown (mvT hZ (hw _ (List.mem_of_getElem? (i := 88) rfl))) (mvT hZ (hw _ (List.mem_of_getElem? (i := 89) rfl))) (mvT hZ (hw _ (List.mem_of_getElem? (i := 90) rfl))) (mvT hZ (hw _ (List.mem_of_getElem? (i := 91) rfl))) (mvT hZ (hw _ (List.mem_of_getElem? (i := 92) rfl))) (mvT hZ (hw _ (List.mem_of_getElem? (i := 93) rfl))) (mvT hZ (hw _ (List.mem_of_getElem? (i := 94) rfl))) (mvT hZ (hw _ (List.mem_of_getElem? (i := 52) rfl))) (by decide) (backOf (W := 0) (rmGE l Z a0 hw [] o0 (0 : Int32) ea ke [(.ref r0), (.ref r1), (.ref r2), (.ref r3), .null, .null, .null, .null, .null, .null] r0 (4 : Int32) h0 n0 Z0 E_o0 F_size_o0 F_elementData_o0 V_ea (by decide) (by decide) rfl (by decide)) hZ (hw _ (List.mem_of_getElem? (i := 95) rfl)) (hw _ (List.mem_of_getElem? (i := 14) rfl)) (by decide) (by decide)) q2a q2b q2c (g := (mkF m 16 #[.val (.ref o0), .val (.int (1 : Int32))] [(.int (0 : Int32)), (.ref o0)])) rfl (by rw [hml]; rfl) (Steps.refl _) (argsL := [(.int (0 : Int32))]) (rest := []) (lenOf pd__28I_29Ljava_2flang_2fObject_3b rfl) rfl (by show 2 * 0 + _ ≤ _; exact Nat.le_of_eq rfl) (hb hby d7_16) (fun _ _ => ⟨rfl, e1, (by decide : 0 + 0 ≤ _), (by decide : 0 + 0 ≤ _)⟩)
  dsimp only [Pt.U, Pt.locs, Pt.cells, Pt.slots] at X2 l2 y2 z2 st2 hQ2
  obtain ⟨rfl, N2q, e2⟩ := hQ2
  obtain ⟨lc2, X2, N2⟩ := own_pack X2 l2 y2 z2 N1 N2q (C := 0) (S' := 0) rfl rfl
  refine own_thr (a := T2.setTop (mkF m 21 #[.val (.ref o0), .val (.int (1 : Int32))] [(.ref r0)])) (fun t kt => st2.trans kt) ?_
  obtain ⟨T3, X3, e3, st3⟩ := castY X2 hx hZ hown (hw _ (List.mem_of_getElem? (i := 109) rfl)) e2 (Ins.self So0.1) (g := (mkF m 21 #[.val (.ref o0), .val (.int (1 : Int32))] [(.ref r0)])) rfl rfl (hb hby d7_21)
  refine own_thr (a := T3.setTop (mkF m 24 #[.val (.ref o0), .val (.int (1 : Int32))] [(.ref r0)])) (fun t kt => st3 t kt) ?_
  refine own_thr (a := T3.setTop (mkF m 26 #[.val (.ref o0), .val (.int (1 : Int32))] [(.int (1 : Int32)), (.ref o0), (.ref r0)])) (fun t kt => ?_) ?_
  · show Steps p.tables e below (T3.setTop (mkF m 24 #[.val (.ref o0), .val (.int (1 : Int32))] [(.ref r0)])) _
    refine XS.aloadN X3.here hx rfl (hb hby d7_24) rfl rfl ?_
    refine XS.iloadN X3.here hx rfl (hb hby d7_25) rfl ?_
    exact kt
  obtain ⟨cq4, kq4, q4a, q4b, q4c⟩ := isOf hZ e3 E_o0
  obtain ⟨_, _, ⟨T4, L4, k4, n4⟩, -, X4, ⟨Lc4, hQ4, l4, y4, z4⟩, st4⟩ := X3.interfaceBack hx (xi := (⟨"java/util/List", "get", "(I)Ljava/lang/Object;"⟩ : MethodName)) (y := (⟨"java/util/ArrayList", "get", "(I)Ljava/lang/Object;"⟩ : MethodName)) hown (mvT hZ (hw _ (List.mem_of_getElem? (i := 88) rfl))) (mvT hZ (hw _ (List.mem_of_getElem? (i := 89) rfl))) (mvT hZ (hw _ (List.mem_of_getElem? (i := 90) rfl))) (mvT hZ (hw _ (List.mem_of_getElem? (i := 91) rfl))) (mvT hZ (hw _ (List.mem_of_getElem? (i := 92) rfl))) (mvT hZ (hw _ (List.mem_of_getElem? (i := 93) rfl))) (mvT hZ (hw _ (List.mem_of_getElem? (i := 94) rfl))) (mvT hZ (hw _ (List.mem_of_getElem? (i := 52) rfl))) (by decide) (backOf (W := 1) (rmGE l Z a0 hw [] o0 (1 : Int32) ea ke [(.ref r0), (.ref r1), (.ref r2), (.ref r3), .null, .null, .null, .null, .null, .null] r1 (4 : Int32) h0 n0 Z0 E_o0 F_size_o0 F_elementData_o0 V_ea (by decide) (by decide) rfl (by decide)) hZ (hw _ (List.mem_of_getElem? (i := 95) rfl)) (hw _ (List.mem_of_getElem? (i := 14) rfl)) (by decide) (by decide)) q4a q4b q4c (g := (mkF m 26 #[.val (.ref o0), .val (.int (1 : Int32))] [(.int (1 : Int32)), (.ref o0), (.ref r0)])) rfl (by rw [hml]; rfl) (Steps.refl _) (argsL := [(.int (1 : Int32))]) (rest := [(.ref r0)]) (lenOf pd__28I_29Ljava_2flang_2fObject_3b rfl) rfl (by show 2 * 0 + _ ≤ _; exact Nat.le_of_eq rfl) (hb hby d7_26) (fun _ _ => ⟨rfl, e3, (by decide : 0 + 0 ≤ _), (by decide : 0 + 0 ≤ _)⟩)
  dsimp only [Pt.U, Pt.locs, Pt.cells, Pt.slots] at X4 l4 y4 z4 st4 hQ4
  obtain ⟨rfl, N4q, e4⟩ := hQ4
  obtain ⟨lc4, X4, N4⟩ := own_pack X4 l4 y4 z4 N2 N4q (C := 0) (S' := 0) rfl rfl
  refine own_thr (a := T4.setTop (mkF m 31 #[.val (.ref o0), .val (.int (1 : Int32))] [(.ref r1), (.ref r0)])) (fun t kt => st4.trans kt) ?_
  obtain ⟨T5, X5, e5, st5⟩ := castY X4 hx hZ hown (hw _ (List.mem_of_getElem? (i := 109) rfl)) e4 (Ins.self So1.1) (g := (mkF m 31 #[.val (.ref o0), .val (.int (1 : Int32))] [(.ref r1), (.ref r0)])) rfl rfl (hb hby d7_31)
  refine own_thr (a := T5.setTop (mkF m 34 #[.val (.ref o0), .val (.int (1 : Int32))] [(.ref r1), (.ref r0)])) (fun t kt => st5 t kt) ?_
  obtain ⟨_, _, ⟨T6, L6, k6, n6⟩, -, X6, ⟨Lc6, hQ6, l6, y6, z6⟩, st6⟩ := Jvm.LawKit.callS X5 hx (y := (⟨"com/example/tiphys/tiphys/CodePointOrder", "compare", "(Ljava/lang/String;Ljava/lang/String;)I"⟩ : MethodName)) hown (mvT hZ (hw _ (List.mem_of_getElem? (i := 111) rfl))) (mvT hZ (hw _ (List.mem_of_getElem? (i := 112) rfl))) (mvT hZ (hw _ (List.mem_of_getElem? (i := 113) rfl))) (mvT hZ (hw _ (List.mem_of_getElem? (i := 114) rfl))) (by decide) (backOf (W := 0) (rmCM l Z a0 hw [] r0 r1 ky0 ky1 cs fm h0 n0 Z0 So0 So1 S_cs hcs S_fm hfm hO) hZ (hw _ (List.mem_of_getElem? (i := 114) rfl)) (hw _ (List.mem_of_getElem? (i := 113) rfl)) (by decide) (by decide)) (g := (mkF m 34 #[.val (.ref o0), .val (.int (1 : Int32))] [(.ref r1), (.ref r0)])) rfl (by rw [hml]; rfl) (argsL := [(.ref r0), (.ref r1)]) (rest := []) (lenOf pd__28Ljava_2flang_2fString_3bLjava_2flang_2fString_3b_29I rfl) rfl (by show 2 * 0 + _ ≤ _; exact Nat.le_of_eq rfl) (hb hby d7_34) (fun _ _ => ⟨rfl, e5, (by decide : 0 + 0 ≤ _), (by decide : 0 + 0 ≤ _)⟩)
  dsimp only [Pt.U, Pt.locs, Pt.cells, Pt.slots] at X6 l6 y6 z6 st6 hQ6
  obtain ⟨rfl, N6q, e6⟩ := hQ6
  obtain ⟨lc6, X6, N6⟩ := own_pack X6 l6 y6 z6 N4 N6q (C := 0) (S' := 0) rfl rfl
  refine own_thr (a := T6.setTop (mkF m 37 #[.val (.ref o0), .val (.int (1 : Int32))] [(.int (f_rmIC ky0 ky1))])) (fun t kt => st6 t kt) ?_
  by_cases hc7 : (f_rmIC ky0 ky1) < (0 : Int32)
  · refine own_thr (a := T6.setTop (mkF m 4 #[.val (.ref o0), .val (.int (2 : Int32))] [(.ref o0), (.int (2 : Int32))])) (fun t kt => ?_) ?_
    · show Steps p.tables e below (T6.setTop (mkF m 37 #[.val (.ref o0), .val (.int (1 : Int32))] [(.int (f_rmIC ky0 ky1))])) _
      refine XS.ifYes X6.here hx rfl (pc0 := 37) (pc' := 42) rfl (hb hby d7_37) rfl ((if0 _ _).trans (tlt hc7).1) (by decide) (by decide) ?_
      refine XS.iinc X6.here hx rfl (hb hby d7_42) rfl (l' := #[.val (.ref o0), .val (.int (2 : Int32))]) rfl ?_
      refine XS.goto X6.here hx rfl (pc0 := 45) (pc' := 2) rfl (hb hby d7_45) (by decide) (by decide) ?_
      refine XS.iloadN X6.here hx rfl (hb hby d7_2) rfl ?_
      refine XS.aloadN X6.here hx rfl (hb hby d7_3) rfl rfl ?_
      exact kt
    obtain ⟨cq8, kq8, q8a, q8b, q8c⟩ := isOf hZ e6 E_o0
    obtain ⟨_, _, ⟨T8, L8, k8, n8⟩, -, X8, ⟨Lc8, hQ8, l8, y8, z8⟩, st8⟩ := X6.interfaceBack hx (xi := (⟨"java/util/List", "size", "()I"⟩ : MethodName)) (y := (⟨"java/util/ArrayList", "size", "()I"⟩ : MethodName)) hown (mvT hZ (hw _ (List.mem_of_getElem? (i := 45) rfl))) (mvT hZ (hw _ (List.mem_of_getElem? (i := 46) rfl))) (mvT hZ (hw _ (List.mem_of_getElem? (i := 47) rfl))) (mvT hZ (hw _ (List.mem_of_getElem? (i := 48) rfl))) (mvT hZ (hw _ (List.mem_of_getElem? (i := 49) rfl))) (mvT hZ (hw _ (List.mem_of_getElem? (i := 50) rfl))) (mvT hZ (hw _ (List.mem_of_getElem? (i := 51) rfl))) (mvT hZ (hw _ (List.mem_of_getElem? (i := 52) rfl))) (by decide) (backOf (W := 1) (rmSZ l Z a0 hw [] o0 (4 : Int32) h0 n0 Z0 E_o0 F_size_o0) hZ (hw _ (List.mem_of_getElem? (i := 53) rfl)) (hw _ (List.mem_of_getElem? (i := 14) rfl)) (by decide) (by decide)) q8a q8b q8c (g := (mkF m 4 #[.val (.ref o0), .val (.int (2 : Int32))] [(.ref o0), (.int (2 : Int32))])) rfl (by rw [hml]; rfl) (Steps.refl _) (argsL := []) (rest := [(.int (2 : Int32))]) (lenOf pd__28_29I rfl) rfl (by show 2 * 0 + _ ≤ _; exact Nat.le_of_eq rfl) (hb hby d7_4) (fun _ _ => ⟨rfl, e6, (by decide : 0 + 0 ≤ _), (by decide : 0 + 0 ≤ _)⟩)
    dsimp only [Pt.U, Pt.locs, Pt.cells, Pt.slots] at X8 l8 y8 z8 st8 hQ8
    obtain ⟨rfl, N8q, e8⟩ := hQ8
    obtain ⟨lc8, X8, N8⟩ := own_pack X8 l8 y8 z8 N6 N8q (C := 0) (S' := 0) rfl rfl
    refine own_thr (a := T8.setTop (mkF m 9 #[.val (.ref o0), .val (.int (2 : Int32))] [(.int (4 : Int32)), (.int (2 : Int32))])) (fun t kt => st8.trans kt) ?_
    refine own_thr (a := T8.setTop (mkF m 16 #[.val (.ref o0), .val (.int (2 : Int32))] [(.int (1 : Int32)), (.ref o0)])) (fun t kt => ?_) ?_
    · show Steps p.tables e below (T8.setTop (mkF m 9 #[.val (.ref o0), .val (.int (2 : Int32))] [(.int (4 : Int32)), (.int (2 : Int32))])) _
      refine XS.icmpNo X8.here hx rfl (hb hby d7_9) rfl (tlt (by decide)).2.1 ?_
      refine XS.aloadN X8.here hx rfl (hb hby d7_12) rfl rfl ?_
      refine XS.iloadN X8.here hx rfl (hb hby d7_13) rfl ?_
      refine XS.iconst X8.here hx rfl (hb hby d7_14) ?_
      refine XS.isub X8.here hx rfl (hb hby d7_15) rfl ?_
      exact kt
    obtain ⟨cq9, kq9, q9a, q9b, q9c⟩ := isOf hZ e8 E_o0
    obtain ⟨_, _, ⟨T9, L9, k9, n9⟩, -, X9, ⟨Lc9, hQ9, l9, y9, z9⟩, st9⟩ := X8.interfaceBack hx (xi := (⟨"java/util/List", "get", "(I)Ljava/lang/Object;"⟩ : MethodName)) (y := (⟨"java/util/ArrayList", "get", "(I)Ljava/lang/Object;"⟩ : MethodName)) hown (mvT hZ (hw _ (List.mem_of_getElem? (i := 88) rfl))) (mvT hZ (hw _ (List.mem_of_getElem? (i := 89) rfl))) (mvT hZ (hw _ (List.mem_of_getElem? (i := 90) rfl))) (mvT hZ (hw _ (List.mem_of_getElem? (i := 91) rfl))) (mvT hZ (hw _ (List.mem_of_getElem? (i := 92) rfl))) (mvT hZ (hw _ (List.mem_of_getElem? (i := 93) rfl))) (mvT hZ (hw _ (List.mem_of_getElem? (i := 94) rfl))) (mvT hZ (hw _ (List.mem_of_getElem? (i := 52) rfl))) (by decide) (backOf (W := 0) (rmGE l Z a0 hw [] o0 (1 : Int32) ea ke [(.ref r0), (.ref r1), (.ref r2), (.ref r3), .null, .null, .null, .null, .null, .null] r1 (4 : Int32) h0 n0 Z0 E_o0 F_size_o0 F_elementData_o0 V_ea (by decide) (by decide) rfl (by decide)) hZ (hw _ (List.mem_of_getElem? (i := 95) rfl)) (hw _ (List.mem_of_getElem? (i := 14) rfl)) (by decide) (by decide)) q9a q9b q9c (g := (mkF m 16 #[.val (.ref o0), .val (.int (2 : Int32))] [(.int (1 : Int32)), (.ref o0)])) rfl (by rw [hml]; rfl) (Steps.refl _) (argsL := [(.int (1 : Int32))]) (rest := []) (lenOf pd__28I_29Ljava_2flang_2fObject_3b rfl) rfl (by show 2 * 0 + _ ≤ _; exact Nat.le_of_eq rfl) (hb hby d7_16) (fun _ _ => ⟨rfl, e8, (by decide : 0 + 0 ≤ _), (by decide : 0 + 0 ≤ _)⟩)
    dsimp only [Pt.U, Pt.locs, Pt.cells, Pt.slots] at X9 l9 y9 z9 st9 hQ9
    obtain ⟨rfl, N9q, e9⟩ := hQ9
    obtain ⟨lc9, X9, N9⟩ := own_pack X9 l9 y9 z9 N8 N9q (C := 0) (S' := 0) rfl rfl
    refine own_thr (a := T9.setTop (mkF m 21 #[.val (.ref o0), .val (.int (2 : Int32))] [(.ref r1)])) (fun t kt => st9.trans kt) ?_
    obtain ⟨T10, X10, e10, st10⟩ := castY X9 hx hZ hown (hw _ (List.mem_of_getElem? (i := 109) rfl)) e9 (Ins.self So1.1) (g := (mkF m 21 #[.val (.ref o0), .val (.int (2 : Int32))] [(.ref r1)])) rfl rfl (hb hby d7_21)
    refine own_thr (a := T10.setTop (mkF m 24 #[.val (.ref o0), .val (.int (2 : Int32))] [(.ref r1)])) (fun t kt => st10 t kt) ?_
    refine own_thr (a := T10.setTop (mkF m 26 #[.val (.ref o0), .val (.int (2 : Int32))] [(.int (2 : Int32)), (.ref o0), (.ref r1)])) (fun t kt => ?_) ?_
    · show Steps p.tables e below (T10.setTop (mkF m 24 #[.val (.ref o0), .val (.int (2 : Int32))] [(.ref r1)])) _
      refine XS.aloadN X10.here hx rfl (hb hby d7_24) rfl rfl ?_
      refine XS.iloadN X10.here hx rfl (hb hby d7_25) rfl ?_
      exact kt
    obtain ⟨cq11, kq11, q11a, q11b, q11c⟩ := isOf hZ e10 E_o0
    obtain ⟨_, _, ⟨T11, L11, k11, n11⟩, -, X11, ⟨Lc11, hQ11, l11, y11, z11⟩, st11⟩ := X10.interfaceBack hx (xi := (⟨"java/util/List", "get", "(I)Ljava/lang/Object;"⟩ : MethodName)) (y := (⟨"java/util/ArrayList", "get", "(I)Ljava/lang/Object;"⟩ : MethodName)) hown (mvT hZ (hw _ (List.mem_of_getElem? (i := 88) rfl))) (mvT hZ (hw _ (List.mem_of_getElem? (i := 89) rfl))) (mvT hZ (hw _ (List.mem_of_getElem? (i := 90) rfl))) (mvT hZ (hw _ (List.mem_of_getElem? (i := 91) rfl))) (mvT hZ (hw _ (List.mem_of_getElem? (i := 92) rfl))) (mvT hZ (hw _ (List.mem_of_getElem? (i := 93) rfl))) (mvT hZ (hw _ (List.mem_of_getElem? (i := 94) rfl))) (mvT hZ (hw _ (List.mem_of_getElem? (i := 52) rfl))) (by decide) (backOf (W := 1) (rmGE l Z a0 hw [] o0 (2 : Int32) ea ke [(.ref r0), (.ref r1), (.ref r2), (.ref r3), .null, .null, .null, .null, .null, .null] r2 (4 : Int32) h0 n0 Z0 E_o0 F_size_o0 F_elementData_o0 V_ea (by decide) (by decide) rfl (by decide)) hZ (hw _ (List.mem_of_getElem? (i := 95) rfl)) (hw _ (List.mem_of_getElem? (i := 14) rfl)) (by decide) (by decide)) q11a q11b q11c (g := (mkF m 26 #[.val (.ref o0), .val (.int (2 : Int32))] [(.int (2 : Int32)), (.ref o0), (.ref r1)])) rfl (by rw [hml]; rfl) (Steps.refl _) (argsL := [(.int (2 : Int32))]) (rest := [(.ref r1)]) (lenOf pd__28I_29Ljava_2flang_2fObject_3b rfl) rfl (by show 2 * 0 + _ ≤ _; exact Nat.le_of_eq rfl) (hb hby d7_26) (fun _ _ => ⟨rfl, e10, (by decide : 0 + 0 ≤ _), (by decide : 0 + 0 ≤ _)⟩)
    dsimp only [Pt.U, Pt.locs, Pt.cells, Pt.slots] at X11 l11 y11 z11 st11 hQ11
    obtain ⟨rfl, N11q, e11⟩ := hQ11
    obtain ⟨lc11, X11, N11⟩ := own_pack X11 l11 y11 z11 N9 N11q (C := 0) (S' := 0) rfl rfl
    refine own_thr (a := T11.setTop (mkF m 31 #[.val (.ref o0), .val (.int (2 : Int32))] [(.ref r2), (.ref r1)])) (fun t kt => st11.trans kt) ?_
    obtain ⟨T12, X12, e12, st12⟩ := castY X11 hx hZ hown (hw _ (List.mem_of_getElem? (i := 109) rfl)) e11 (Ins.self So2.1) (g := (mkF m 31 #[.val (.ref o0), .val (.int (2 : Int32))] [(.ref r2), (.ref r1)])) rfl rfl (hb hby d7_31)
    refine own_thr (a := T12.setTop (mkF m 34 #[.val (.ref o0), .val (.int (2 : Int32))] [(.ref r2), (.ref r1)])) (fun t kt => st12 t kt) ?_
    obtain ⟨_, _, ⟨T13, L13, k13, n13⟩, -, X13, ⟨Lc13, hQ13, l13, y13, z13⟩, st13⟩ := Jvm.LawKit.callS X12 hx (y := (⟨"com/example/tiphys/tiphys/CodePointOrder", "compare", "(Ljava/lang/String;Ljava/lang/String;)I"⟩ : MethodName)) hown (mvT hZ (hw _ (List.mem_of_getElem? (i := 111) rfl))) (mvT hZ (hw _ (List.mem_of_getElem? (i := 112) rfl))) (mvT hZ (hw _ (List.mem_of_getElem? (i := 113) rfl))) (mvT hZ (hw _ (List.mem_of_getElem? (i := 114) rfl))) (by decide) (backOf (W := 0) (rmCM l Z a0 hw [] r1 r2 ky1 ky2 cs fm h0 n0 Z0 So1 So2 S_cs hcs S_fm hfm hO) hZ (hw _ (List.mem_of_getElem? (i := 114) rfl)) (hw _ (List.mem_of_getElem? (i := 113) rfl)) (by decide) (by decide)) (g := (mkF m 34 #[.val (.ref o0), .val (.int (2 : Int32))] [(.ref r2), (.ref r1)])) rfl (by rw [hml]; rfl) (argsL := [(.ref r1), (.ref r2)]) (rest := []) (lenOf pd__28Ljava_2flang_2fString_3bLjava_2flang_2fString_3b_29I rfl) rfl (by show 2 * 0 + _ ≤ _; exact Nat.le_of_eq rfl) (hb hby d7_34) (fun _ _ => ⟨rfl, e12, (by decide : 0 + 0 ≤ _), (by decide : 0 + 0 ≤ _)⟩)
    dsimp only [Pt.U, Pt.locs, Pt.cells, Pt.slots] at X13 l13 y13 z13 st13 hQ13
    obtain ⟨rfl, N13q, e13⟩ := hQ13
    obtain ⟨lc13, X13, N13⟩ := own_pack X13 l13 y13 z13 N11 N13q (C := 0) (S' := 0) rfl rfl
    refine own_thr (a := T13.setTop (mkF m 37 #[.val (.ref o0), .val (.int (2 : Int32))] [(.int (f_rmIC ky1 ky2))])) (fun t kt => st13 t kt) ?_
    by_cases hc14 : (f_rmIC ky1 ky2) < (0 : Int32)
    · refine own_thr (a := T13.setTop (mkF m 4 #[.val (.ref o0), .val (.int (3 : Int32))] [(.ref o0), (.int (3 : Int32))])) (fun t kt => ?_) ?_
      · show Steps p.tables e below (T13.setTop (mkF m 37 #[.val (.ref o0), .val (.int (2 : Int32))] [(.int (f_rmIC ky1 ky2))])) _
        refine XS.ifYes X13.here hx rfl (pc0 := 37) (pc' := 42) rfl (hb hby d7_37) rfl ((if0 _ _).trans (tlt hc14).1) (by decide) (by decide) ?_
        refine XS.iinc X13.here hx rfl (hb hby d7_42) rfl (l' := #[.val (.ref o0), .val (.int (3 : Int32))]) rfl ?_
        refine XS.goto X13.here hx rfl (pc0 := 45) (pc' := 2) rfl (hb hby d7_45) (by decide) (by decide) ?_
        refine XS.iloadN X13.here hx rfl (hb hby d7_2) rfl ?_
        refine XS.aloadN X13.here hx rfl (hb hby d7_3) rfl rfl ?_
        exact kt
      obtain ⟨cq15, kq15, q15a, q15b, q15c⟩ := isOf hZ e13 E_o0
      obtain ⟨_, _, ⟨T15, L15, k15, n15⟩, -, X15, ⟨Lc15, hQ15, l15, y15, z15⟩, st15⟩ := X13.interfaceBack hx (xi := (⟨"java/util/List", "size", "()I"⟩ : MethodName)) (y := (⟨"java/util/ArrayList", "size", "()I"⟩ : MethodName)) hown (mvT hZ (hw _ (List.mem_of_getElem? (i := 45) rfl))) (mvT hZ (hw _ (List.mem_of_getElem? (i := 46) rfl))) (mvT hZ (hw _ (List.mem_of_getElem? (i := 47) rfl))) (mvT hZ (hw _ (List.mem_of_getElem? (i := 48) rfl))) (mvT hZ (hw _ (List.mem_of_getElem? (i := 49) rfl))) (mvT hZ (hw _ (List.mem_of_getElem? (i := 50) rfl))) (mvT hZ (hw _ (List.mem_of_getElem? (i := 51) rfl))) (mvT hZ (hw _ (List.mem_of_getElem? (i := 52) rfl))) (by decide) (backOf (W := 1) (rmSZ l Z a0 hw [] o0 (4 : Int32) h0 n0 Z0 E_o0 F_size_o0) hZ (hw _ (List.mem_of_getElem? (i := 53) rfl)) (hw _ (List.mem_of_getElem? (i := 14) rfl)) (by decide) (by decide)) q15a q15b q15c (g := (mkF m 4 #[.val (.ref o0), .val (.int (3 : Int32))] [(.ref o0), (.int (3 : Int32))])) rfl (by rw [hml]; rfl) (Steps.refl _) (argsL := []) (rest := [(.int (3 : Int32))]) (lenOf pd__28_29I rfl) rfl (by show 2 * 0 + _ ≤ _; exact Nat.le_of_eq rfl) (hb hby d7_4) (fun _ _ => ⟨rfl, e13, (by decide : 0 + 0 ≤ _), (by decide : 0 + 0 ≤ _)⟩)
      dsimp only [Pt.U, Pt.locs, Pt.cells, Pt.slots] at X15 l15 y15 z15 st15 hQ15
      obtain ⟨rfl, N15q, e15⟩ := hQ15
      obtain ⟨lc15, X15, N15⟩ := own_pack X15 l15 y15 z15 N13 N15q (C := 0) (S' := 0) rfl rfl
      refine own_thr (a := T15.setTop (mkF m 9 #[.val (.ref o0), .val (.int (3 : Int32))] [(.int (4 : Int32)), (.int (3 : Int32))])) (fun t kt => st15.trans kt) ?_
      refine own_thr (a := T15.setTop (mkF m 16 #[.val (.ref o0), .val (.int (3 : Int32))] [(.int (2 : Int32)), (.ref o0)])) (fun t kt => ?_) ?_
      · show Steps p.tables e below (T15.setTop (mkF m 9 #[.val (.ref o0), .val (.int (3 : Int32))] [(.int (4 : Int32)), (.int (3 : Int32))])) _
        refine XS.icmpNo X15.here hx rfl (hb hby d7_9) rfl (tlt (by decide)).2.1 ?_
        refine XS.aloadN X15.here hx rfl (hb hby d7_12) rfl rfl ?_
        refine XS.iloadN X15.here hx rfl (hb hby d7_13) rfl ?_
        refine XS.iconst X15.here hx rfl (hb hby d7_14) ?_
        refine XS.isub X15.here hx rfl (hb hby d7_15) rfl ?_
        exact kt
      obtain ⟨cq16, kq16, q16a, q16b, q16c⟩ := isOf hZ e15 E_o0
      obtain ⟨_, _, ⟨T16, L16, k16, n16⟩, -, X16, ⟨Lc16, hQ16, l16, y16, z16⟩, st16⟩ := X15.interfaceBack hx (xi := (⟨"java/util/List", "get", "(I)Ljava/lang/Object;"⟩ : MethodName)) (y := (⟨"java/util/ArrayList", "get", "(I)Ljava/lang/Object;"⟩ : MethodName)) hown (mvT hZ (hw _ (List.mem_of_getElem? (i := 88) rfl))) (mvT hZ (hw _ (List.mem_of_getElem? (i := 89) rfl))) (mvT hZ (hw _ (List.mem_of_getElem? (i := 90) rfl))) (mvT hZ (hw _ (List.mem_of_getElem? (i := 91) rfl))) (mvT hZ (hw _ (List.mem_of_getElem? (i := 92) rfl))) (mvT hZ (hw _ (List.mem_of_getElem? (i := 93) rfl))) (mvT hZ (hw _ (List.mem_of_getElem? (i := 94) rfl))) (mvT hZ (hw _ (List.mem_of_getElem? (i := 52) rfl))) (by decide) (backOf (W := 0) (rmGE l Z a0 hw [] o0 (2 : Int32) ea ke [(.ref r0), (.ref r1), (.ref r2), (.ref r3), .null, .null, .null, .null, .null, .null] r2 (4 : Int32) h0 n0 Z0 E_o0 F_size_o0 F_elementData_o0 V_ea (by decide) (by decide) rfl (by decide)) hZ (hw _ (List.mem_of_getElem? (i := 95) rfl)) (hw _ (List.mem_of_getElem? (i := 14) rfl)) (by decide) (by decide)) q16a q16b q16c (g := (mkF m 16 #[.val (.ref o0), .val (.int (3 : Int32))] [(.int (2 : Int32)), (.ref o0)])) rfl (by rw [hml]; rfl) (Steps.refl _) (argsL := [(.int (2 : Int32))]) (rest := []) (lenOf pd__28I_29Ljava_2flang_2fObject_3b rfl) rfl (by show 2 * 0 + _ ≤ _; exact Nat.le_of_eq rfl) (hb hby d7_16) (fun _ _ => ⟨rfl, e15, (by decide : 0 + 0 ≤ _), (by decide : 0 + 0 ≤ _)⟩)
      dsimp only [Pt.U, Pt.locs, Pt.cells, Pt.slots] at X16 l16 y16 z16 st16 hQ16
      obtain ⟨rfl, N16q, e16⟩ := hQ16
      obtain ⟨lc16, X16, N16⟩ := own_pack X16 l16 y16 z16 N15 N16q (C := 0) (S' := 0) rfl rfl
      refine own_thr (a := T16.setTop (mkF m 21 #[.val (.ref o0), .val (.int (3 : Int32))] [(.ref r2)])) (fun t kt => st16.trans kt) ?_
      obtain ⟨T17, X17, e17, st17⟩ := castY X16 hx hZ hown (hw _ (List.mem_of_getElem? (i := 109) rfl)) e16 (Ins.self So2.1) (g := (mkF m 21 #[.val (.ref o0), .val (.int (3 : Int32))] [(.ref r2)])) rfl rfl (hb hby d7_21)
      refine own_thr (a := T17.setTop (mkF m 24 #[.val (.ref o0), .val (.int (3 : Int32))] [(.ref r2)])) (fun t kt => st17 t kt) ?_
      refine own_thr (a := T17.setTop (mkF m 26 #[.val (.ref o0), .val (.int (3 : Int32))] [(.int (3 : Int32)), (.ref o0), (.ref r2)])) (fun t kt => ?_) ?_
      · show Steps p.tables e below (T17.setTop (mkF m 24 #[.val (.ref o0), .val (.int (3 : Int32))] [(.ref r2)])) _
        refine XS.aloadN X17.here hx rfl (hb hby d7_24) rfl rfl ?_
        refine XS.iloadN X17.here hx rfl (hb hby d7_25) rfl ?_
        exact kt
      obtain ⟨cq18, kq18, q18a, q18b, q18c⟩ := isOf hZ e17 E_o0
      obtain ⟨_, _, ⟨T18, L18, k18, n18⟩, -, X18, ⟨Lc18, hQ18, l18, y18, z18⟩, st18⟩ := X17.interfaceBack hx (xi := (⟨"java/util/List", "get", "(I)Ljava/lang/Object;"⟩ : MethodName)) (y := (⟨"java/util/ArrayList", "get", "(I)Ljava/lang/Object;"⟩ : MethodName)) hown (mvT hZ (hw _ (List.mem_of_getElem? (i := 88) rfl))) (mvT hZ (hw _ (List.mem_of_getElem? (i := 89) rfl))) (mvT hZ (hw _ (List.mem_of_getElem? (i := 90) rfl))) (mvT hZ (hw _ (List.mem_of_getElem? (i := 91) rfl))) (mvT hZ (hw _ (List.mem_of_getElem? (i := 92) rfl))) (mvT hZ (hw _ (List.mem_of_getElem? (i := 93) rfl))) (mvT hZ (hw _ (List.mem_of_getElem? (i := 94) rfl))) (mvT hZ (hw _ (List.mem_of_getElem? (i := 52) rfl))) (by decide) (backOf (W := 1) (rmGE l Z a0 hw [] o0 (3 : Int32) ea ke [(.ref r0), (.ref r1), (.ref r2), (.ref r3), .null, .null, .null, .null, .null, .null] r3 (4 : Int32) h0 n0 Z0 E_o0 F_size_o0 F_elementData_o0 V_ea (by decide) (by decide) rfl (by decide)) hZ (hw _ (List.mem_of_getElem? (i := 95) rfl)) (hw _ (List.mem_of_getElem? (i := 14) rfl)) (by decide) (by decide)) q18a q18b q18c (g := (mkF m 26 #[.val (.ref o0), .val (.int (3 : Int32))] [(.int (3 : Int32)), (.ref o0), (.ref r2)])) rfl (by rw [hml]; rfl) (Steps.refl _) (argsL := [(.int (3 : Int32))]) (rest := [(.ref r2)]) (lenOf pd__28I_29Ljava_2flang_2fObject_3b rfl) rfl (by show 2 * 0 + _ ≤ _; exact Nat.le_of_eq rfl) (hb hby d7_26) (fun _ _ => ⟨rfl, e17, (by decide : 0 + 0 ≤ _), (by decide : 0 + 0 ≤ _)⟩)
      dsimp only [Pt.U, Pt.locs, Pt.cells, Pt.slots] at X18 l18 y18 z18 st18 hQ18
      obtain ⟨rfl, N18q, e18⟩ := hQ18
      obtain ⟨lc18, X18, N18⟩ := own_pack X18 l18 y18 z18 N16 N18q (C := 0) (S' := 0) rfl rfl
      refine own_thr (a := T18.setTop (mkF m 31 #[.val (.ref o0), .val (.int (3 : Int32))] [(.ref r3), (.ref r2)])) (fun t kt => st18.trans kt) ?_
      obtain ⟨T19, X19, e19, st19⟩ := castY X18 hx hZ hown (hw _ (List.mem_of_getElem? (i := 109) rfl)) e18 (Ins.self So3.1) (g := (mkF m 31 #[.val (.ref o0), .val (.int (3 : Int32))] [(.ref r3), (.ref r2)])) rfl rfl (hb hby d7_31)
      refine own_thr (a := T19.setTop (mkF m 34 #[.val (.ref o0), .val (.int (3 : Int32))] [(.ref r3), (.ref r2)])) (fun t kt => st19 t kt) ?_
      obtain ⟨_, _, ⟨T20, L20, k20, n20⟩, -, X20, ⟨Lc20, hQ20, l20, y20, z20⟩, st20⟩ := Jvm.LawKit.callS X19 hx (y := (⟨"com/example/tiphys/tiphys/CodePointOrder", "compare", "(Ljava/lang/String;Ljava/lang/String;)I"⟩ : MethodName)) hown (mvT hZ (hw _ (List.mem_of_getElem? (i := 111) rfl))) (mvT hZ (hw _ (List.mem_of_getElem? (i := 112) rfl))) (mvT hZ (hw _ (List.mem_of_getElem? (i := 113) rfl))) (mvT hZ (hw _ (List.mem_of_getElem? (i := 114) rfl))) (by decide) (backOf (W := 0) (rmCM l Z a0 hw [] r2 r3 ky2 ky3 cs fm h0 n0 Z0 So2 So3 S_cs hcs S_fm hfm hO) hZ (hw _ (List.mem_of_getElem? (i := 114) rfl)) (hw _ (List.mem_of_getElem? (i := 113) rfl)) (by decide) (by decide)) (g := (mkF m 34 #[.val (.ref o0), .val (.int (3 : Int32))] [(.ref r3), (.ref r2)])) rfl (by rw [hml]; rfl) (argsL := [(.ref r2), (.ref r3)]) (rest := []) (lenOf pd__28Ljava_2flang_2fString_3bLjava_2flang_2fString_3b_29I rfl) rfl (by show 2 * 0 + _ ≤ _; exact Nat.le_of_eq rfl) (hb hby d7_34) (fun _ _ => ⟨rfl, e19, (by decide : 0 + 0 ≤ _), (by decide : 0 + 0 ≤ _)⟩)
      dsimp only [Pt.U, Pt.locs, Pt.cells, Pt.slots] at X20 l20 y20 z20 st20 hQ20
      obtain ⟨rfl, N20q, e20⟩ := hQ20
      obtain ⟨lc20, X20, N20⟩ := own_pack X20 l20 y20 z20 N18 N20q (C := 0) (S' := 0) rfl rfl
      refine own_thr (a := T20.setTop (mkF m 37 #[.val (.ref o0), .val (.int (3 : Int32))] [(.int (f_rmIC ky2 ky3))])) (fun t kt => st20 t kt) ?_
      by_cases hc21 : (f_rmIC ky2 ky3) < (0 : Int32)
      · refine own_thr (a := T20.setTop (mkF m 4 #[.val (.ref o0), .val (.int (4 : Int32))] [(.ref o0), (.int (4 : Int32))])) (fun t kt => ?_) ?_
        · show Steps p.tables e below (T20.setTop (mkF m 37 #[.val (.ref o0), .val (.int (3 : Int32))] [(.int (f_rmIC ky2 ky3))])) _
          refine XS.ifYes X20.here hx rfl (pc0 := 37) (pc' := 42) rfl (hb hby d7_37) rfl ((if0 _ _).trans (tlt hc21).1) (by decide) (by decide) ?_
          refine XS.iinc X20.here hx rfl (hb hby d7_42) rfl (l' := #[.val (.ref o0), .val (.int (4 : Int32))]) rfl ?_
          refine XS.goto X20.here hx rfl (pc0 := 45) (pc' := 2) rfl (hb hby d7_45) (by decide) (by decide) ?_
          refine XS.iloadN X20.here hx rfl (hb hby d7_2) rfl ?_
          refine XS.aloadN X20.here hx rfl (hb hby d7_3) rfl rfl ?_
          exact kt
        obtain ⟨cq22, kq22, q22a, q22b, q22c⟩ := isOf hZ e20 E_o0
        obtain ⟨_, _, ⟨T22, L22, k22, n22⟩, -, X22, ⟨Lc22, hQ22, l22, y22, z22⟩, st22⟩ := X20.interfaceBack hx (xi := (⟨"java/util/List", "size", "()I"⟩ : MethodName)) (y := (⟨"java/util/ArrayList", "size", "()I"⟩ : MethodName)) hown (mvT hZ (hw _ (List.mem_of_getElem? (i := 45) rfl))) (mvT hZ (hw _ (List.mem_of_getElem? (i := 46) rfl))) (mvT hZ (hw _ (List.mem_of_getElem? (i := 47) rfl))) (mvT hZ (hw _ (List.mem_of_getElem? (i := 48) rfl))) (mvT hZ (hw _ (List.mem_of_getElem? (i := 49) rfl))) (mvT hZ (hw _ (List.mem_of_getElem? (i := 50) rfl))) (mvT hZ (hw _ (List.mem_of_getElem? (i := 51) rfl))) (mvT hZ (hw _ (List.mem_of_getElem? (i := 52) rfl))) (by decide) (backOf (W := 1) (rmSZ l Z a0 hw [] o0 (4 : Int32) h0 n0 Z0 E_o0 F_size_o0) hZ (hw _ (List.mem_of_getElem? (i := 53) rfl)) (hw _ (List.mem_of_getElem? (i := 14) rfl)) (by decide) (by decide)) q22a q22b q22c (g := (mkF m 4 #[.val (.ref o0), .val (.int (4 : Int32))] [(.ref o0), (.int (4 : Int32))])) rfl (by rw [hml]; rfl) (Steps.refl _) (argsL := []) (rest := [(.int (4 : Int32))]) (lenOf pd__28_29I rfl) rfl (by show 2 * 0 + _ ≤ _; exact Nat.le_of_eq rfl) (hb hby d7_4) (fun _ _ => ⟨rfl, e20, (by decide : 0 + 0 ≤ _), (by decide : 0 + 0 ≤ _)⟩)
        dsimp only [Pt.U, Pt.locs, Pt.cells, Pt.slots] at X22 l22 y22 z22 st22 hQ22
        obtain ⟨rfl, N22q, e22⟩ := hQ22
        obtain ⟨lc22, X22, N22⟩ := own_pack X22 l22 y22 z22 N20 N22q (C := 0) (S' := 0) rfl rfl
        refine own_thr (a := T22.setTop (mkF m 9 #[.val (.ref o0), .val (.int (4 : Int32))] [(.int (4 : Int32)), (.int (4 : Int32))])) (fun t kt => st22.trans kt) ?_
        refine own_thr (a := T22.setTop (mkF m 49 #[.val (.ref o0), .val (.int (4 : Int32))] [(.int (-1 : Int32))])) (fun t kt => ?_) ?_
        · show Steps p.tables e below (T22.setTop (mkF m 9 #[.val (.ref o0), .val (.int (4 : Int32))] [(.int (4 : Int32)), (.int (4 : Int32))])) _
          refine XS.icmpYes X22.here hx rfl (pc0 := 9) (pc' := 48) rfl (hb hby d7_9) rfl (flt (by decide)).2.1 (by decide) (by decide) ?_
          refine XS.iconst X22.here hx rfl (hb hby d7_48) ?_
          exact kt
        exact own_end X22 hlk (v := some (.int (-1 : Int32))) (fun h => by rw [Bd.returns] at h; cases h) (fun fs hr => retI X22 hx Bd.returns (hb hby d7_49) hr) (by rw [e22]; exact ⟨(by rw [f_rmO4, if_pos hc7, if_pos hc14, if_pos hc21]), N22, rfl⟩) (by decide : 0 ≤ _) (by decide : 0 ≤ _)
      · refine own_thr (a := T20.setTop (mkF m 41 #[.val (.ref o0), .val (.int (3 : Int32))] [(.int (3 : Int32))])) (fun t kt => ?_) ?_
        · show Steps p.tables e below (T20.setTop (mkF m 37 #[.val (.ref o0), .val (.int (3 : Int32))] [(.int (f_rmIC ky2 ky3))])) _
          refine XS.ifNo X20.here hx rfl (hb hby d7_37) rfl ((if0 _ _).trans (flt hc21).1) ?_
          refine XS.iloadN X20.here hx rfl (hb hby d7_40) rfl ?_
          exact kt
        exact own_end X20 hlk (v := some (.int (3 : Int32))) (fun h => by rw [Bd.returns] at h; cases h) (fun fs hr => retI X20 hx Bd.returns (hb hby d7_41) hr) (by rw [e20]; exact ⟨(by rw [f_rmO4, if_pos hc7, if_pos hc14, if_neg hc21]), N20, rfl⟩) (by decide : 0 ≤ _) (by decide : 0 ≤ _)
    · refine own_thr (a := T13.setTop (mkF m 41 #[.val (.ref o0), .val (.int (2 : Int32))] [(.int (2 : Int32))])) (fun t kt => ?_) ?_
      · show Steps p.tables e below (T13.setTop (mkF m 37 #[.val (.ref o0), .val (.int (2 : Int32))] [(.int (f_rmIC ky1 ky2))])) _
        refine XS.ifNo X13.here hx rfl (hb hby d7_37) rfl ((if0 _ _).trans (flt hc14).1) ?_
        refine XS.iloadN X13.here hx rfl (hb hby d7_40) rfl ?_
        exact kt
      exact own_end X13 hlk (v := some (.int (2 : Int32))) (fun h => by rw [Bd.returns] at h; cases h) (fun fs hr => retI X13 hx Bd.returns (hb hby d7_41) hr) (by rw [e13]; exact ⟨(by rw [f_rmO4, if_pos hc7, if_neg hc14]), N13, rfl⟩) (by decide : 0 ≤ _) (by decide : 0 ≤ _)
  · refine own_thr (a := T6.setTop (mkF m 41 #[.val (.ref o0), .val (.int (1 : Int32))] [(.int (1 : Int32))])) (fun t kt => ?_) ?_
    · show Steps p.tables e below (T6.setTop (mkF m 37 #[.val (.ref o0), .val (.int (1 : Int32))] [(.int (f_rmIC ky0 ky1))])) _
      refine XS.ifNo X6.here hx rfl (hb hby d7_37) rfl ((if0 _ _).trans (flt hc7).1) ?_
      refine XS.iloadN X6.here hx rfl (hb hby d7_40) rfl ?_
      exact kt
    exact own_end X6 hlk (v := some (.int (1 : Int32))) (fun h => by rw [Bd.returns] at h; cases h) (fun fs hr => retI X6 hx Bd.returns (hb hby d7_41) hr) (by rw [e6]; exact ⟨(by rw [f_rmO4, if_neg hc7]), N6, rfl⟩) (by decide : 0 ≤ _) (by decide : 0 ≤ _)
theorem own_n (x : Int32) : (x &&& (7 : Int32)) % (5 : Int32) = 0 ∨ (x &&& (7 : Int32)) % (5 : Int32) = 1 ∨ (x &&& (7 : Int32)) % (5 : Int32) = 2 ∨ (x &&& (7 : Int32)) % (5 : Int32) = 3 ∨ (x &&& (7 : Int32)) % (5 : Int32) = 4 := by
  have h := (c_and x 7 (by decide)).1
  obtain ⟨h1, h2, -⟩ := (c_iremV (x &&& (7 : Int32)) (5 : Int32)).1 h (by decide)
  have e0 : (0 : Int32).toInt = 0 := rfl
  have e1 : (1 : Int32).toInt = 1 := rfl
  have e2 : (2 : Int32).toInt = 2 := rfl
  have e3 : (3 : Int32).toInt = 3 := rfl
  have e4 : (4 : Int32).toInt = 4 := rfl
  have e5 : (5 : Int32).toInt = 5 := rfl
  simp only [← Int32.toInt_inj]; omega
theorem own_len {s : State} {args : Array Value} {ca : Addr} {cl : Cell} {t : Term} {ty : FieldType} {n : Int32} (ev : t.eval args s none [] s = some (.ref ca)) (A : Arr s s.heap ca cl ty) (h : (Jvm.Cond.eq (Term.length t) (Term.int n)).value args s none s [] = some true) : cl.slots.size.toInt32 = n ∧ cl.slots.size < 2 ^ 31 := by
  have hA : s.arrayAt? ca = some cl := Arr.fin (Vm.Alike.refl _) A
  simp only [Cond.value, Term.eval, ev, Option.bind_eq_bind, Option.bind_some, hA] at h
  by_cases hl : cl.slots.size < 2147483648
  · simp [hl] at h; exact ⟨h, hl⟩
  · simp [hl] at h
theorem own_lenN {s : State} {args : Array Value} {ca : Addr} {cl : Cell} {t : Term} {ty : FieldType} {n : Int32} (ev : t.eval args s none [] s = some (.ref ca)) (A : Arr s s.heap ca cl ty) (h : (Jvm.Cond.eq (Term.length t) (Term.int n)).value args s none s [] = some true) (N : Nat) (hN : n.toInt = N) : cl.slots.size = N := by
  obtain ⟨h1, h2⟩ := own_len ev A h
  have h3 := len_toInt h2
  rw [h1] at h3
  omega
theorem own_not0 {s : State} {args : Array Value} {C n d : String} {cs : Int32} (ev : (Term.static C n d).eval args s none [] s = some (.int cs)) (h : (Jvm.Cond.not (.eq (.static C n d) (.int 0))).value args s none s [] = some true) : ¬ cs = (0 : Int32) := by
  have h1 := not_v h
  intro e
  have h2 : (Jvm.Cond.eq (.static C n d) (.int 0)).value args s none s [] = some true := eq_i ev (Term.int_eval 0) (by rw [e])
  rw [h2] at h1
  cases h1
theorem own_held {tb : Tables} {e : Env} {args : Array Value} {s : State} (h : Calls_1 tb e args s) : ∀ p ∈ own_EL, Jvm.Lit.constHeld s p.1 p.2 := by
  intro p hp
  exact h.1 p (by revert p; decide)
theorem pd__28I_29Ljava_2flang_2fString_3b : parseMethodDescriptor "(I)Ljava/lang/String;" = some ⟨[.int], some (.object "java/lang/String")⟩ := by decide +kernel
theorem pd__28Ljava_2futil_2fList_3b_29I : parseMethodDescriptor "(Ljava/util/List;)I" = some ⟨[(.object "java/util/List")], some .int⟩ := by decide +kernel
theorem pd__28Ljava_2flang_2fObject_3b_29Z : parseMethodDescriptor "(Ljava/lang/Object;)Z" = some ⟨[(.object "java/lang/Object")], some .boolean⟩ := by decide +kernel
theorem ef_rm0 (m : MethodId) (ct : Int32) (qa : Int32) (qb : Int32) (qc : Int32) (qd : Int32)  : entryFrame m #[(.int ct), (.int qa), (.int qb), (.int qc), (.int qd)] maxLocals = mkF m 0 #[.val (.int ct), .val (.int qa), .val (.int qb), .val (.int qc), .val (.int qd), .unset, .unset, .unset, .unset, .unset, .unset, .unset, .unset, .unset, .unset, .unset, .unset] [] := by first |  (simp [entryFrame, mkF, argsToLocals, Value.category, maxLocals]; done) | rfl
def Q0 (Z : State) (ct : Int32) (qa : Int32) (qb : Int32) (qc : Int32) (qd : Int32) (de : Addr) (kd : ClassId) (cs : Int32) (fm : Value) (h0 : Heap) (n0 : Nat) (v : Option Value) (h : Heap) (L : List Loc) : Prop := v = some (.int (1 : Int32)) ∧ Fr n0 L
set_option maxRecDepth 65536 in
set_option maxHeartbeats 40000000 in
theorem rm0 (l : Launch) (Z : State) (a0 : Array Value) (hw : ∀ d ∈ tables_1, d.before a0 Z = true) (ws : List Jvm.Cond) (ct : Int32) (qa : Int32) (qb : Int32) (qc : Int32) (qd : Int32) (de : Addr) (kd : ClassId) (cs : Int32) (fm : Value) (h0 : Heap) (n0 : Nat) (Z0 : n0 ≤ h0.size) (S_de : Sta Z Z.heap "java/util/ArrayList" "DEFAULTCAPACITY_EMPTY_ELEMENTDATA" "[Ljava/lang/Object;" (.ref de)) (V_de : Arv Z Z.heap de kd (.object "java/lang/Object") (0 : Int32) [] .null) (S_cs : Sta Z Z.heap "java/lang/String" "COMPACT_STRINGS" "Z" (.int cs)) (hcs : ¬ cs = (0 : Int32)) (S_fm : Sta Z Z.heap "jdk/internal/util/Preconditions" "SIOOBE_FORMATTER" "Ljava/util/function/BiFunction;" fm) (hfm : fm.isRef = true) (hO : Old Z n0 h0) :
    MetFree l x (head1 (Jvm.Cond.code x code maxLocals ret :: ws) room_1) (fun a U => a = #[(.int ct), (.int qa), (.int qb), (.int qc), (.int qd)] ∧ Z.Warmed39 U.vm ∧ U.heap = h0 ∧ CHv Z own_EL U.vm h0) (fun _ _ _ _ _ => True) (fun _ U o U' => ∃ v L, o = .returned v ∧ Q0 Z ct qa qb qc qd de kd cs fm h0 n0 v U'.heap L ∧ CHr Z own_EL U.vm U.heap U'.vm U'.heap ∧ ReturnedEndW U o U' L room_1.cells room_1.slots) := by
  refine MetFree.of_bodySF (plainFor_of_name pn_com_example_tiphys_tiphys_KnowledgeBaseOutOfOrderPinLaw) hisR ?_
  intro p e s m args below meth c s₁ Bd hml0 hP hK
  obtain ⟨rfl, hZ, hh, hCH0⟩ := hP
  have hx := Bd.exec
  have hby := Bd.bytes
  have hml : c.maxLocals = 17 := hml0
  have hown : s.vm.findClass "com/example/tiphys/tiphys/KnowledgeBaseOutOfOrderPinLaw" = some m.cls := findClass_of_methodNamed Bd.named
  have hnm := (name_of_methodNamed Bd.named Bd.method).1
  have hlk := Bd.notSynchronized
  have X0 : Stand p l e room_1 (s.setVm s.vm) m #[(.int ct), (.int qa), (.int qb), (.int qc), (.int qd)] below meth c s₁ [] 0 0 := Stand.of_body Bd
  have e0 : s₁.heap = h0 := by rw [← hh, Bd.state]; rfl
  have N0 := Fr.nil n0
  show own_GH p.tables e below s Z own_EL (Q0 Z ct qa qb qc qd de kd cs fm h0 n0) room_1.cells room_1.slots _
  have hS0 : s.Since s.vm 0 := (State.WarmedH.refl s).since 0
  have hEL := own_EW hw
  have CH0 : CHr Z own_EL s.vm h0 s.vm h0 := CHr.refl hCH0
  refine own_thrH (a := s₁.setTop (mkF m 0 #[.val (.int ct), .val (.int qa), .val (.int qb), .val (.int qc), .val (.int qd), .unset, .unset, .unset, .unset, .unset, .unset, .unset, .unset, .unset, .unset, .unset, .unset] [])) (fun t kt => castTop (ef_rm0 m ct qa qb qc qd) kt) ?_
  refine own_thrH (a := s₁.setTop (mkF m 8 #[.val (.int ct), .val (.int qa), .val (.int qb), .val (.int qc), .val (.int qd), .val (.int ((ct &&& (7 : Int32)) % (5 : Int32))), .unset, .unset, .unset, .unset, .unset, .unset, .unset, .unset, .unset, .unset, .unset] [])) (fun t kt => ?_) ?_
  · show Steps p.tables e below (s₁.setTop (mkF m 0 #[.val (.int ct), .val (.int qa), .val (.int qb), .val (.int qc), .val (.int qd), .unset, .unset, .unset, .unset, .unset, .unset, .unset, .unset, .unset, .unset, .unset, .unset] [])) _
    refine XS.iloadN X0.here hx rfl (hb hby at_0) rfl ?_
    refine XS.bipush X0.here hx rfl (hb hby at_1) ?_
    refine XS.iand X0.here hx rfl (hb hby at_3) rfl ?_
    refine XS.iconst X0.here hx rfl (hb hby at_4) ?_
    refine iremM X0 hx rfl (hb hby at_5) rfl (by decide) ?_
    refine XS.istore X0.here hx rfl (hb hby at_6) rfl (l' := #[.val (.int ct), .val (.int qa), .val (.int qb), .val (.int qc), .val (.int qd), .val (.int ((ct &&& (7 : Int32)) % (5 : Int32))), .unset, .unset, .unset, .unset, .unset, .unset, .unset, .unset, .unset, .unset, .unset]) rfl ?_
    exact kt
  obtain ⟨n, e_n⟩ : ∃ z, z = ((ct &&& (7 : Int32)) % (5 : Int32)) := ⟨_, rfl⟩
  rw [← e_n]
  have Hn : n = 0 ∨ n = 1 ∨ n = 2 ∨ n = 3 ∨ n = 4 := by rw [e_n]; exact own_n _
  refine own_thrH (a := s₁.setTop (mkF m 9 #[.val (.int ct), .val (.int qa), .val (.int qb), .val (.int qc), .val (.int qd), .val (.int n), .unset, .unset, .unset, .unset, .unset, .unset, .unset, .unset, .unset, .unset, .unset] [(.int qa)])) (fun t kt => ?_) ?_
  · show Steps p.tables e below (s₁.setTop (mkF m 8 #[.val (.int ct), .val (.int qa), .val (.int qb), .val (.int qc), .val (.int qd), .val (.int n), .unset, .unset, .unset, .unset, .unset, .unset, .unset, .unset, .unset, .unset, .unset] [])) _
    refine XS.iloadN X0.here hx rfl (hb hby at_8) rfl ?_
    exact kt
  obtain ⟨_, _, ⟨T1, L1, k1, n1⟩, -, X1, hSq1, hgr1, ⟨Lc1, hQ1, l1, y1, z1, ch1⟩, st1⟩ := callSS X0 hx (y := (⟨"com/example/tiphys/tiphys/KnowledgeBaseOutOfOrderPinLaw", "name", "(I)Ljava/lang/String;"⟩ : MethodName)) hown (mvT hZ (hw _ (List.mem_of_getElem? (i := 0) rfl))) (mvT hZ (hw _ (List.mem_of_getElem? (i := 1) rfl))) (mvT hZ (hw _ (List.mem_of_getElem? (i := 2) rfl))) (mvT hZ (hw _ (List.mem_of_getElem? (i := 3) rfl))) (by decide) (backOfSH (W := 0) (rmN l Z a0 hw [] qa cs h0 n0 Z0 S_cs hcs hO) hZ (hw _ (List.mem_of_getElem? (i := 3) rfl)) (hw _ (List.mem_of_getElem? (i := 2) rfl)) (by decide) (by decide) hEL CH0.1) (g := (mkF m 9 #[.val (.int ct), .val (.int qa), .val (.int qb), .val (.int qc), .val (.int qd), .val (.int n), .unset, .unset, .unset, .unset, .unset, .unset, .unset, .unset, .unset, .unset, .unset] [(.int qa)])) rfl (by rw [hml]; rfl) (argsL := [(.int qa)]) (rest := []) (lenOf pd__28I_29Ljava_2flang_2fString_3b rfl) rfl (by show 2 * 0 + _ ≤ _; exact Nat.le_of_eq rfl) (hb hby at_9) (fun _ _ => ⟨rfl, e0, (by decide : 0 + 2 ≤ _), (by decide : 0 + 5 ≤ _)⟩)
  dsimp only [Pt.U, Pt.locs, Pt.cells, Pt.slots] at X1 l1 y1 z1 st1 hQ1 hSq1 hgr1 ch1
  have hS1 := hS0.trans hSq1 (Nat.le_trans (by rw [e0]; exact (Nat.zero_le _)) hgr1)
  have hZ1 : Z.Warmed39 (s.setVm T1.vm).vm := State.Warmed39.trans (t := s.setVm s.vm) hZ hSq1.1
  have hown1 : (s.setVm T1.vm).vm.findClass "com/example/tiphys/tiphys/KnowledgeBaseOutOfOrderPinLaw" = some m.cls := by rw [show (s.setVm T1.vm).vm = T1.vm from rfl, hSq1.1.alike.findClass]; exact hown
  have X1 : Stand p l e _ (s.setVm T1.vm) m _ below meth c T1 _ _ _ := X1
  obtain ⟨r1, rfl, N1q, K1, S1⟩ := hQ1
  have Z2 : n0 ≤ T1.heap.size := Nat.le_trans Z0 K1.1
  have Z2h : h0.size ≤ T1.heap.size := Nat.le_trans (Nat.le_refl h0.size) K1.1
  have CHc1 := CH0.trans ch1
  obtain ⟨lc1, X1, N1⟩ := own_pack X1 l1 y1 z1 N0 N1q (C := 2) (S' := 5) rfl rfl
  refine own_thrH (a := T1.setTop (mkF m 12 #[.val (.int ct), .val (.int qa), .val (.int qb), .val (.int qc), .val (.int qd), .val (.int n), .unset, .unset, .unset, .unset, .unset, .unset, .unset, .unset, .unset, .unset, .unset] [(.ref r1)])) (fun t kt => st1.trans kt) ?_
  refine own_thrH (a := T1.setTop (mkF m 15 #[.val (.int ct), .val (.int qa), .val (.int qb), .val (.int qc), .val (.int qd), .val (.int n), .val (.ref r1), .unset, .unset, .unset, .unset, .unset, .unset, .unset, .unset, .unset, .unset] [(.int qb)])) (fun t kt => ?_) ?_
  · show Steps p.tables e below (T1.setTop (mkF m 12 #[.val (.int ct), .val (.int qa), .val (.int qb), .val (.int qc), .val (.int qd), .val (.int n), .unset, .unset, .unset, .unset, .unset, .unset, .unset, .unset, .unset, .unset, .unset] [(.ref r1)])) _
    refine XS.astore X1.here hx rfl (hb hby at_12) rfl rfl (l' := #[.val (.int ct), .val (.int qa), .val (.int qb), .val (.int qc), .val (.int qd), .val (.int n), .val (.ref r1), .unset, .unset, .unset, .unset, .unset, .unset, .unset, .unset, .unset, .unset]) rfl ?_
    refine XS.iloadN X1.here hx rfl (hb hby at_14) rfl ?_
    exact kt
  obtain ⟨_, _, ⟨T3, L3, k3, n3⟩, -, X3, hSq3, hgr3, ⟨Lc3, hQ3, l3, y3, z3, ch3⟩, st3⟩ := callSS X1 hx (y := (⟨"com/example/tiphys/tiphys/KnowledgeBaseOutOfOrderPinLaw", "name", "(I)Ljava/lang/String;"⟩ : MethodName)) hown1 (mvT hZ1 (hw _ (List.mem_of_getElem? (i := 0) rfl))) (mvT hZ1 (hw _ (List.mem_of_getElem? (i := 1) rfl))) (mvT hZ1 (hw _ (List.mem_of_getElem? (i := 2) rfl))) (mvT hZ1 (hw _ (List.mem_of_getElem? (i := 3) rfl))) (by decide) (backOfSH (W := 0) (rmN l Z a0 hw [] qb cs T1.heap n0 Z2 S_cs hcs (hO.keep K1 all0)) hZ1 (hw _ (List.mem_of_getElem? (i := 3) rfl)) (hw _ (List.mem_of_getElem? (i := 2) rfl)) (by decide) (by decide) hEL CHc1.1) (g := (mkF m 15 #[.val (.int ct), .val (.int qa), .val (.int qb), .val (.int qc), .val (.int qd), .val (.int n), .val (.ref r1), .unset, .unset, .unset, .unset, .unset, .unset, .unset, .unset, .unset, .unset] [(.int qb)])) rfl (by rw [hml]; rfl) (argsL := [(.int qb)]) (rest := []) (lenOf pd__28I_29Ljava_2flang_2fString_3b rfl) rfl (by show 2 * 0 + _ ≤ _; exact Nat.le_of_eq rfl) (hb hby at_15) (fun _ _ => ⟨rfl, rfl, (by decide : 2 + 2 ≤ _), (by decide : 5 + 5 ≤ _)⟩)
  dsimp only [Pt.U, Pt.locs, Pt.cells, Pt.slots] at X3 l3 y3 z3 st3 hQ3 hSq3 hgr3 ch3
  have hS3 := hS1.trans hSq3 (Nat.le_trans (Nat.le_refl _) hgr3)
  have hZ3 : Z.Warmed39 (s.setVm T3.vm).vm := State.Warmed39.trans (t := s.setVm T1.vm) hZ1 hSq3.1
  have hown3 : (s.setVm T3.vm).vm.findClass "com/example/tiphys/tiphys/KnowledgeBaseOutOfOrderPinLaw" = some m.cls := by rw [show (s.setVm T3.vm).vm = T3.vm from rfl, hSq3.1.alike.findClass]; exact hown1
  have X3 : Stand p l e _ (s.setVm T3.vm) m _ below meth c T3 _ _ _ := X3
  obtain ⟨r3, rfl, N3q, K3, S3⟩ := hQ3
  have Z4 : n0 ≤ T3.heap.size := Nat.le_trans Z2 K3.1
  have Z4h : h0.size ≤ T3.heap.size := Nat.le_trans Z2h K3.1
  have CHc3 := CHc1.trans ch3
  obtain ⟨lc3, X3, N3⟩ := own_pack X3 l3 y3 z3 N1 N3q (C := 4) (S' := 10) rfl rfl
  refine own_thrH (a := T3.setTop (mkF m 18 #[.val (.int ct), .val (.int qa), .val (.int qb), .val (.int qc), .val (.int qd), .val (.int n), .val (.ref r1), .unset, .unset, .unset, .unset, .unset, .unset, .unset, .unset, .unset, .unset] [(.ref r3)])) (fun t kt => st3.trans kt) ?_
  refine own_thrH (a := T3.setTop (mkF m 21 #[.val (.int ct), .val (.int qa), .val (.int qb), .val (.int qc), .val (.int qd), .val (.int n), .val (.ref r1), .val (.ref r3), .unset, .unset, .unset, .unset, .unset, .unset, .unset, .unset, .unset] [(.int qc)])) (fun t kt => ?_) ?_
  · show Steps p.tables e below (T3.setTop (mkF m 18 #[.val (.int ct), .val (.int qa), .val (.int qb), .val (.int qc), .val (.int qd), .val (.int n), .val (.ref r1), .unset, .unset, .unset, .unset, .unset, .unset, .unset, .unset, .unset, .unset] [(.ref r3)])) _
    refine XS.astore X3.here hx rfl (hb hby at_18) rfl rfl (l' := #[.val (.int ct), .val (.int qa), .val (.int qb), .val (.int qc), .val (.int qd), .val (.int n), .val (.ref r1), .val (.ref r3), .unset, .unset, .unset, .unset, .unset, .unset, .unset, .unset, .unset]) rfl ?_
    refine XS.iloadN X3.here hx rfl (hb hby at_20) rfl ?_
    exact kt
  obtain ⟨_, _, ⟨T5, L5, k5, n5⟩, -, X5, hSq5, hgr5, ⟨Lc5, hQ5, l5, y5, z5, ch5⟩, st5⟩ := callSS X3 hx (y := (⟨"com/example/tiphys/tiphys/KnowledgeBaseOutOfOrderPinLaw", "name", "(I)Ljava/lang/String;"⟩ : MethodName)) hown3 (mvT hZ3 (hw _ (List.mem_of_getElem? (i := 0) rfl))) (mvT hZ3 (hw _ (List.mem_of_getElem? (i := 1) rfl))) (mvT hZ3 (hw _ (List.mem_of_getElem? (i := 2) rfl))) (mvT hZ3 (hw _ (List.mem_of_getElem? (i := 3) rfl))) (by decide) (backOfSH (W := 0) (rmN l Z a0 hw [] qc cs T3.heap n0 Z4 S_cs hcs ((hO.keep K1 all0).keep K3 all0)) hZ3 (hw _ (List.mem_of_getElem? (i := 3) rfl)) (hw _ (List.mem_of_getElem? (i := 2) rfl)) (by decide) (by decide) hEL CHc3.1) (g := (mkF m 21 #[.val (.int ct), .val (.int qa), .val (.int qb), .val (.int qc), .val (.int qd), .val (.int n), .val (.ref r1), .val (.ref r3), .unset, .unset, .unset, .unset, .unset, .unset, .unset, .unset, .unset] [(.int qc)])) rfl (by rw [hml]; rfl) (argsL := [(.int qc)]) (rest := []) (lenOf pd__28I_29Ljava_2flang_2fString_3b rfl) rfl (by show 2 * 0 + _ ≤ _; exact Nat.le_of_eq rfl) (hb hby at_21) (fun _ _ => ⟨rfl, rfl, (by decide : 4 + 2 ≤ _), (by decide : 10 + 5 ≤ _)⟩)
  dsimp only [Pt.U, Pt.locs, Pt.cells, Pt.slots] at X5 l5 y5 z5 st5 hQ5 hSq5 hgr5 ch5
  have hS5 := hS3.trans hSq5 (Nat.le_trans (Nat.le_refl _) hgr5)
  have hZ5 : Z.Warmed39 (s.setVm T5.vm).vm := State.Warmed39.trans (t := s.setVm T3.vm) hZ3 hSq5.1
  have hown5 : (s.setVm T5.vm).vm.findClass "com/example/tiphys/tiphys/KnowledgeBaseOutOfOrderPinLaw" = some m.cls := by rw [show (s.setVm T5.vm).vm = T5.vm from rfl, hSq5.1.alike.findClass]; exact hown3
  have X5 : Stand p l e _ (s.setVm T5.vm) m _ below meth c T5 _ _ _ := X5
  obtain ⟨r5, rfl, N5q, K5, S5⟩ := hQ5
  have Z6 : n0 ≤ T5.heap.size := Nat.le_trans Z4 K5.1
  have Z6h : h0.size ≤ T5.heap.size := Nat.le_trans Z4h K5.1
  have CHc5 := CHc3.trans ch5
  obtain ⟨lc5, X5, N5⟩ := own_pack X5 l5 y5 z5 N3 N5q (C := 6) (S' := 15) rfl rfl
  refine own_thrH (a := T5.setTop (mkF m 24 #[.val (.int ct), .val (.int qa), .val (.int qb), .val (.int qc), .val (.int qd), .val (.int n), .val (.ref r1), .val (.ref r3), .unset, .unset, .unset, .unset, .unset, .unset, .unset, .unset, .unset] [(.ref r5)])) (fun t kt => st5.trans kt) ?_
  refine own_thrH (a := T5.setTop (mkF m 28 #[.val (.int ct), .val (.int qa), .val (.int qb), .val (.int qc), .val (.int qd), .val (.int n), .val (.ref r1), .val (.ref r3), .val (.ref r5), .unset, .unset, .unset, .unset, .unset, .unset, .unset, .unset] [(.int qd)])) (fun t kt => ?_) ?_
  · show Steps p.tables e below (T5.setTop (mkF m 24 #[.val (.int ct), .val (.int qa), .val (.int qb), .val (.int qc), .val (.int qd), .val (.int n), .val (.ref r1), .val (.ref r3), .unset, .unset, .unset, .unset, .unset, .unset, .unset, .unset, .unset] [(.ref r5)])) _
    refine XS.astore X5.here hx rfl (hb hby at_24) rfl rfl (l' := #[.val (.int ct), .val (.int qa), .val (.int qb), .val (.int qc), .val (.int qd), .val (.int n), .val (.ref r1), .val (.ref r3), .val (.ref r5), .unset, .unset, .unset, .unset, .unset, .unset, .unset, .unset]) rfl ?_
    refine XS.iload X5.here hx rfl (hb hby at_26) rfl ?_
    exact kt
  obtain ⟨_, _, ⟨T7, L7, k7, n7⟩, -, X7, hSq7, hgr7, ⟨Lc7, hQ7, l7, y7, z7, ch7⟩, st7⟩ := callSS X5 hx (y := (⟨"com/example/tiphys/tiphys/KnowledgeBaseOutOfOrderPinLaw", "name", "(I)Ljava/lang/String;"⟩ : MethodName)) hown5 (mvT hZ5 (hw _ (List.mem_of_getElem? (i := 0) rfl))) (mvT hZ5 (hw _ (List.mem_of_getElem? (i := 1) rfl))) (mvT hZ5 (hw _ (List.mem_of_getElem? (i := 2) rfl))) (mvT hZ5 (hw _ (List.mem_of_getElem? (i := 3) rfl))) (by decide) (backOfSH (W := 0) (rmN l Z a0 hw [] qd cs T5.heap n0 Z6 S_cs hcs (((hO.keep K1 all0).keep K3 all0).keep K5 all0)) hZ5 (hw _ (List.mem_of_getElem? (i := 3) rfl)) (hw _ (List.mem_of_getElem? (i := 2) rfl)) (by decide) (by decide) hEL CHc5.1) (g := (mkF m 28 #[.val (.int ct), .val (.int qa), .val (.int qb), .val (.int qc), .val (.int qd), .val (.int n), .val (.ref r1), .val (.ref r3), .val (.ref r5), .unset, .unset, .unset, .unset, .unset, .unset, .unset, .unset] [(.int qd)])) rfl (by rw [hml]; rfl) (argsL := [(.int qd)]) (rest := []) (lenOf pd__28I_29Ljava_2flang_2fString_3b rfl) rfl (by show 2 * 0 + _ ≤ _; exact Nat.le_of_eq rfl) (hb hby at_28) (fun _ _ => ⟨rfl, rfl, (by decide : 6 + 2 ≤ _), (by decide : 15 + 5 ≤ _)⟩)
  dsimp only [Pt.U, Pt.locs, Pt.cells, Pt.slots] at X7 l7 y7 z7 st7 hQ7 hSq7 hgr7 ch7
  have hS7 := hS5.trans hSq7 (Nat.le_trans (Nat.le_refl _) hgr7)
  have hZ7 : Z.Warmed39 (s.setVm T7.vm).vm := State.Warmed39.trans (t := s.setVm T5.vm) hZ5 hSq7.1
  have hown7 : (s.setVm T7.vm).vm.findClass "com/example/tiphys/tiphys/KnowledgeBaseOutOfOrderPinLaw" = some m.cls := by rw [show (s.setVm T7.vm).vm = T7.vm from rfl, hSq7.1.alike.findClass]; exact hown5
  have X7 : Stand p l e _ (s.setVm T7.vm) m _ below meth c T7 _ _ _ := X7
  obtain ⟨r7, rfl, N7q, K7, S7⟩ := hQ7
  have Z8 : n0 ≤ T7.heap.size := Nat.le_trans Z6 K7.1
  have Z8h : h0.size ≤ T7.heap.size := Nat.le_trans Z6h K7.1
  have CHc7 := CHc5.trans ch7
  obtain ⟨lc7, X7, N7⟩ := own_pack X7 l7 y7 z7 N5 N7q (C := 8) (S' := 20) rfl rfl
  refine own_thrH (a := T7.setTop (mkF m 31 #[.val (.int ct), .val (.int qa), .val (.int qb), .val (.int qc), .val (.int qd), .val (.int n), .val (.ref r1), .val (.ref r3), .val (.ref r5), .unset, .unset, .unset, .unset, .unset, .unset, .unset, .unset] [(.ref r7)])) (fun t kt => st7.trans kt) ?_
  refine own_thrH (a := T7.setTop (mkF m 33 #[.val (.int ct), .val (.int qa), .val (.int qb), .val (.int qc), .val (.int qd), .val (.int n), .val (.ref r1), .val (.ref r3), .val (.ref r5), .val (.ref r7), .unset, .unset, .unset, .unset, .unset, .unset, .unset] [])) (fun t kt => ?_) ?_
  · show Steps p.tables e below (T7.setTop (mkF m 31 #[.val (.int ct), .val (.int qa), .val (.int qb), .val (.int qc), .val (.int qd), .val (.int n), .val (.ref r1), .val (.ref r3), .val (.ref r5), .unset, .unset, .unset, .unset, .unset, .unset, .unset, .unset] [(.ref r7)])) _
    refine XS.astore X7.here hx rfl (hb hby at_31) rfl rfl (l' := #[.val (.int ct), .val (.int qa), .val (.int qb), .val (.int qc), .val (.int qd), .val (.int n), .val (.ref r1), .val (.ref r3), .val (.ref r5), .val (.ref r7), .unset, .unset, .unset, .unset, .unset, .unset, .unset]) rfl ?_
    exact kt
  have bS0 := own_S.bound (((S1.keep0 K3).keep0 K5).keep0 K7)
  have bS1 := own_S.bound ((S3.keep0 K5).keep0 K7)
  have bS2 := own_S.bound (S5.keep0 K7)
  have bS3 := own_S.bound S7
  obtain ⟨T9, h9, X9, e9, E9, A9, D9, U9, st9⟩ := newO X7 hx hZ7 hown7 (hw _ (List.mem_of_getElem? (i := 12) rfl)) (hw _ (List.mem_of_getElem? (i := 13) rfl)) (hw _ (List.mem_of_getElem? (i := 14) rfl)) rfl (g := (mkF m 33 #[.val (.int ct), .val (.int qa), .val (.int qb), .val (.int qc), .val (.int qd), .val (.int n), .val (.ref r1), .val (.ref r3), .val (.ref r5), .val (.ref r7), .unset, .unset, .unset, .unset, .unset, .unset, .unset] [])) rfl (hb hby at_33) (by decide : 8 + 1 ≤ _) (by decide : 20 + 3 ≤ _)
  obtain ⟨b9, g9⟩ : ∃ z, z = T7.heap.size := ⟨_, rfl⟩
  rw [← g9] at A9 D9 st9 U9
  have g_b9 : n0 ≤ b9 := Nat.le_trans Z8 (Nat.le_of_eq g9.symm)
  have sz_b9 : h0.size ≤ b9 := Nat.le_trans Z8h (Nat.le_of_eq g9.symm)
  have CH10 := CHc7.trans (CHr.ext E9 CHc7.1)
  have Z11 : n0 ≤ h9.size := Nat.le_trans Z8 E9.1
  have Z11h : h0.size ≤ h9.size := Nat.le_trans Z8h E9.1
  have Z11k := Nat.le_trans (Nat.le_refl _) E9.1
  have F_modCount_b9 : Fld Z h9 b9 "java/util/AbstractList" "modCount" "I" (.int (0 : Int32)) := D9 (Or.inl (hw _ (List.mem_of_getElem? (i := 34) rfl))) (ty := .int) (by decide)
  have F_elementData_b9 : Fld Z h9 b9 "java/util/ArrayList" "elementData" "[Ljava/lang/Object;" .null := D9 (Or.inl (hw _ (List.mem_of_getElem? (i := 37) rfl))) (ty := (.array (.object "java/lang/Object"))) (by decide)
  have F_size_b9 : Fld Z h9 b9 "java/util/ArrayList" "size" "I" (.int (0 : Int32)) := D9 (Or.inl (hw _ (List.mem_of_getElem? (i := 55) rfl))) (ty := .int) (by decide)
  refine own_thrH (a := T9.setTop (mkF m 36 #[.val (.int ct), .val (.int qa), .val (.int qb), .val (.int qc), .val (.int qd), .val (.int n), .val (.ref r1), .val (.ref r3), .val (.ref r5), .val (.ref r7), .unset, .unset, .unset, .unset, .unset, .unset, .unset] [(.ref b9)])) (fun t kt => st9 t kt) ?_
  refine own_thrH (a := T9.setTop (mkF m 37 #[.val (.int ct), .val (.int qa), .val (.int qb), .val (.int qc), .val (.int qd), .val (.int n), .val (.ref r1), .val (.ref r3), .val (.ref r5), .val (.ref r7), .unset, .unset, .unset, .unset, .unset, .unset, .unset] [(.ref b9), (.ref b9)])) (fun t kt => ?_) ?_
  · show Steps p.tables e below (T9.setTop (mkF m 36 #[.val (.int ct), .val (.int qa), .val (.int qb), .val (.int qc), .val (.int qd), .val (.int n), .val (.ref r1), .val (.ref r3), .val (.ref r5), .val (.ref r7), .unset, .unset, .unset, .unset, .unset, .unset, .unset] [(.ref b9)])) _
    refine XS.dup X9.here hx rfl (hb hby at_36) rfl rfl ?_
    exact kt
  have c13 := (((((hO.keep K1 all0).keep K3 all0).keep K5 all0).keep K7 all0).ext E9)
  obtain ⟨_, _, ⟨T12, L12, k12, n12⟩, -, X12, ⟨Lc12, hQ12, l12, y12, z12⟩, st12⟩ := X9.specialBack hx (y := (⟨"java/util/ArrayList", "<init>", "()V"⟩ : MethodName)) rfl hown7 (mvT hZ7 (hw _ (List.mem_of_getElem? (i := 15) rfl))) (mvT hZ7 (hw _ (List.mem_of_getElem? (i := 16) rfl))) (mvT hZ7 (hw _ (List.mem_of_getElem? (i := 17) rfl))) (by decide) (backOf (W := 1) (rmI3 l Z a0 hw [] b9 de h9 n0 Z11 A9 F_modCount_b9 F_elementData_b9 F_size_b9 g_b9 S_de c13) hZ7 (hw _ (List.mem_of_getElem? (i := 17) rfl)) (hw _ (List.mem_of_getElem? (i := 14) rfl)) (by decide) (by decide)) (g := (mkF m 37 #[.val (.int ct), .val (.int qa), .val (.int qb), .val (.int qc), .val (.int qd), .val (.int n), .val (.ref r1), .val (.ref r3), .val (.ref r5), .val (.ref r7), .unset, .unset, .unset, .unset, .unset, .unset, .unset] [(.ref b9), (.ref b9)])) rfl (by rw [hml]; rfl) (Steps.refl _) (a := b9) (argsL := []) (rest := [(.ref b9)]) (lenOf pd__28_29V rfl) rfl (by show 2 * 0 + _ ≤ _; exact Nat.le_of_eq rfl) (hb hby at_37) (fun _ _ => ⟨rfl, e9, (by decide : 9 + 0 ≤ _), (by decide : 23 + 0 ≤ _)⟩)
  dsimp only [Pt.U, Pt.locs, Pt.cells, Pt.slots] at X12 l12 y12 z12 st12 hQ12
  obtain ⟨rfl, N12q, K12, o12_0, o12_1, o12_2, o12_3⟩ := hQ12
  have CH14 := CH10.trans (CHr.keep K12 (allS (Safe.exa hZ7.alike A9 (by decide) (by decide)) all0) CH10.1)
  have Z15 : n0 ≤ T12.heap.size := Nat.le_trans Z11 K12.1
  have Z15h : h0.size ≤ T12.heap.size := Nat.le_trans Z11h K12.1
  have Z15k := Nat.le_trans Z11k K12.1
  obtain ⟨lc12, X12, N12⟩ := own_pack X12 l12 y12 z12 N7 N12q (C := 9) (S' := 23) rfl rfl
  refine own_thrH (a := T12.setTop (mkF m 40 #[.val (.int ct), .val (.int qa), .val (.int qb), .val (.int qc), .val (.int qd), .val (.int n), .val (.ref r1), .val (.ref r3), .val (.ref r5), .val (.ref r7), .unset, .unset, .unset, .unset, .unset, .unset, .unset] [(.ref b9)])) (fun t kt => st12.trans kt) ?_
  refine own_thrH (a := T12.setTop (mkF m 42 #[.val (.int ct), .val (.int qa), .val (.int qb), .val (.int qc), .val (.int qd), .val (.int n), .val (.ref r1), .val (.ref r3), .val (.ref r5), .val (.ref r7), .val (.ref b9), .unset, .unset, .unset, .unset, .unset, .unset] [])) (fun t kt => ?_) ?_
  · show Steps p.tables e below (T12.setTop (mkF m 40 #[.val (.int ct), .val (.int qa), .val (.int qb), .val (.int qc), .val (.int qd), .val (.int n), .val (.ref r1), .val (.ref r3), .val (.ref r5), .val (.ref r7), .unset, .unset, .unset, .unset, .unset, .unset, .unset] [(.ref b9)])) _
    refine XS.astore X12.here hx rfl (hb hby at_40) rfl rfl (l' := #[.val (.int ct), .val (.int qa), .val (.int qb), .val (.int qc), .val (.int qd), .val (.int n), .val (.ref r1), .val (.ref r3), .val (.ref r5), .val (.ref r7), .val (.ref b9), .unset, .unset, .unset, .unset, .unset, .unset]) rfl ?_
    exact kt
  rcases Hn with hk | hk | hk | hk | hk
  · subst hk
    refine own_thrH (a := T12.setTop (mkF m 107 #[.val (.int ct), .val (.int qa), .val (.int qb), .val (.int qc), .val (.int qd), .val (.int (0 : Int32)), .val (.ref r1), .val (.ref r3), .val (.ref r5), .val (.ref r7), .val (.ref b9), .unset, .unset, .unset, .unset, .unset, .unset] [(.int qa)])) (fun t kt => ?_) ?_
    · show Steps p.tables e below (T12.setTop (mkF m 42 #[.val (.int ct), .val (.int qa), .val (.int qb), .val (.int qc), .val (.int qd), .val (.int (0 : Int32)), .val (.ref r1), .val (.ref r3), .val (.ref r5), .val (.ref r7), .val (.ref b9), .unset, .unset, .unset, .unset, .unset, .unset] [])) _
      refine XS.iload X12.here hx rfl (hb hby at_42) rfl ?_
      refine XS.iconst X12.here hx rfl (hb hby at_44) ?_
      refine XS.icmpYes X12.here hx rfl (pc0 := 45) (pc' := 58) rfl (hb hby at_45) rfl (tlt (by decide)).1 (by decide) (by decide) ?_
      refine XS.iload X12.here hx rfl (hb hby at_58) rfl ?_
      refine XS.iconst X12.here hx rfl (hb hby at_60) ?_
      refine XS.icmpYes X12.here hx rfl (pc0 := 61) (pc' := 74) rfl (hb hby at_61) rfl (tlt (by decide)).1 (by decide) (by decide) ?_
      refine XS.iload X12.here hx rfl (hb hby at_74) rfl ?_
      refine XS.iconst X12.here hx rfl (hb hby at_76) ?_
      refine XS.icmpYes X12.here hx rfl (pc0 := 77) (pc' := 90) rfl (hb hby at_77) rfl (tlt (by decide)).1 (by decide) (by decide) ?_
      refine XS.iload X12.here hx rfl (hb hby at_90) rfl ?_
      refine XS.iconst X12.here hx rfl (hb hby at_92) ?_
      refine XS.icmpYes X12.here hx rfl (pc0 := 93) (pc' := 106) rfl (hb hby at_93) rfl (tlt (by decide)).1 (by decide) (by decide) ?_
      refine XS.iloadN X12.here hx rfl (hb hby at_106) rfl ?_
      exact kt
    obtain ⟨_, _, ⟨T16, L16, k16, n16⟩, -, X16, ⟨Lc16, hQ16, l16, y16, z16⟩, st16⟩ := Jvm.LawKit.callS X12 hx (y := (⟨"com/example/tiphys/tiphys/KnowledgeBaseOutOfOrderPinLaw", "key", "(I)I"⟩ : MethodName)) hown7 (mvT hZ7 (hw _ (List.mem_of_getElem? (i := 38) rfl))) (mvT hZ7 (hw _ (List.mem_of_getElem? (i := 39) rfl))) (mvT hZ7 (hw _ (List.mem_of_getElem? (i := 2) rfl))) (mvT hZ7 (hw _ (List.mem_of_getElem? (i := 40) rfl))) (by decide) (backOf (W := 0) (rmK l Z a0 hw [] qa T12.heap n0 Z15) hZ7 (hw _ (List.mem_of_getElem? (i := 40) rfl)) (hw _ (List.mem_of_getElem? (i := 2) rfl)) (by decide) (by decide)) (g := (mkF m 107 #[.val (.int ct), .val (.int qa), .val (.int qb), .val (.int qc), .val (.int qd), .val (.int (0 : Int32)), .val (.ref r1), .val (.ref r3), .val (.ref r5), .val (.ref r7), .val (.ref b9), .unset, .unset, .unset, .unset, .unset, .unset] [(.int qa)])) rfl (by rw [hml]; rfl) (argsL := [(.int qa)]) (rest := []) (lenOf pd__28I_29I rfl) rfl (by show 2 * 0 + _ ≤ _; exact Nat.le_of_eq rfl) (hb hby at_107) (fun _ _ => ⟨rfl, rfl, (by decide : 9 + 0 ≤ _), (by decide : 23 + 0 ≤ _)⟩)
    dsimp only [Pt.U, Pt.locs, Pt.cells, Pt.slots] at X16 l16 y16 z16 st16 hQ16
    obtain ⟨rfl, N16q, e16⟩ := hQ16
    obtain ⟨lc16, X16, N16⟩ := own_pack X16 l16 y16 z16 N12 N16q (C := 9) (S' := 23) rfl rfl
    refine own_thrH (a := T16.setTop (mkF m 110 #[.val (.int ct), .val (.int qa), .val (.int qb), .val (.int qc), .val (.int qd), .val (.int (0 : Int32)), .val (.ref r1), .val (.ref r3), .val (.ref r5), .val (.ref r7), .val (.ref b9), .unset, .unset, .unset, .unset, .unset, .unset] [(.int (f_rmK qa))])) (fun t kt => st16 t kt) ?_
    refine own_thrH (a := T16.setTop (mkF m 113 #[.val (.int ct), .val (.int qa), .val (.int qb), .val (.int qc), .val (.int qd), .val (.int (0 : Int32)), .val (.ref r1), .val (.ref r3), .val (.ref r5), .val (.ref r7), .val (.ref b9), .val (.int (f_rmK qa)), .unset, .unset, .unset, .unset, .unset] [(.int qb)])) (fun t kt => ?_) ?_
    · show Steps p.tables e below (T16.setTop (mkF m 110 #[.val (.int ct), .val (.int qa), .val (.int qb), .val (.int qc), .val (.int qd), .val (.int (0 : Int32)), .val (.ref r1), .val (.ref r3), .val (.ref r5), .val (.ref r7), .val (.ref b9), .unset, .unset, .unset, .unset, .unset, .unset] [(.int (f_rmK qa))])) _
      refine XS.istore X16.here hx rfl (hb hby at_110) rfl (l' := #[.val (.int ct), .val (.int qa), .val (.int qb), .val (.int qc), .val (.int qd), .val (.int (0 : Int32)), .val (.ref r1), .val (.ref r3), .val (.ref r5), .val (.ref r7), .val (.ref b9), .val (.int (f_rmK qa)), .unset, .unset, .unset, .unset, .unset]) rfl ?_
      refine XS.iloadN X16.here hx rfl (hb hby at_112) rfl ?_
      exact kt
    obtain ⟨_, _, ⟨T17, L17, k17, n17⟩, -, X17, ⟨Lc17, hQ17, l17, y17, z17⟩, st17⟩ := Jvm.LawKit.callS X16 hx (y := (⟨"com/example/tiphys/tiphys/KnowledgeBaseOutOfOrderPinLaw", "key", "(I)I"⟩ : MethodName)) hown7 (mvT hZ7 (hw _ (List.mem_of_getElem? (i := 38) rfl))) (mvT hZ7 (hw _ (List.mem_of_getElem? (i := 39) rfl))) (mvT hZ7 (hw _ (List.mem_of_getElem? (i := 2) rfl))) (mvT hZ7 (hw _ (List.mem_of_getElem? (i := 40) rfl))) (by decide) (backOf (W := 0) (rmK l Z a0 hw [] qb T12.heap n0 Z15) hZ7 (hw _ (List.mem_of_getElem? (i := 40) rfl)) (hw _ (List.mem_of_getElem? (i := 2) rfl)) (by decide) (by decide)) (g := (mkF m 113 #[.val (.int ct), .val (.int qa), .val (.int qb), .val (.int qc), .val (.int qd), .val (.int (0 : Int32)), .val (.ref r1), .val (.ref r3), .val (.ref r5), .val (.ref r7), .val (.ref b9), .val (.int (f_rmK qa)), .unset, .unset, .unset, .unset, .unset] [(.int qb)])) rfl (by rw [hml]; rfl) (argsL := [(.int qb)]) (rest := []) (lenOf pd__28I_29I rfl) rfl (by show 2 * 0 + _ ≤ _; exact Nat.le_of_eq rfl) (hb hby at_113) (fun _ _ => ⟨rfl, e16, (by decide : 9 + 0 ≤ _), (by decide : 23 + 0 ≤ _)⟩)
    dsimp only [Pt.U, Pt.locs, Pt.cells, Pt.slots] at X17 l17 y17 z17 st17 hQ17
    obtain ⟨rfl, N17q, e17⟩ := hQ17
    obtain ⟨lc17, X17, N17⟩ := own_pack X17 l17 y17 z17 N16 N17q (C := 9) (S' := 23) rfl rfl
    refine own_thrH (a := T17.setTop (mkF m 116 #[.val (.int ct), .val (.int qa), .val (.int qb), .val (.int qc), .val (.int qd), .val (.int (0 : Int32)), .val (.ref r1), .val (.ref r3), .val (.ref r5), .val (.ref r7), .val (.ref b9), .val (.int (f_rmK qa)), .unset, .unset, .unset, .unset, .unset] [(.int (f_rmK qb))])) (fun t kt => st17 t kt) ?_
    refine own_thrH (a := T17.setTop (mkF m 119 #[.val (.int ct), .val (.int qa), .val (.int qb), .val (.int qc), .val (.int qd), .val (.int (0 : Int32)), .val (.ref r1), .val (.ref r3), .val (.ref r5), .val (.ref r7), .val (.ref b9), .val (.int (f_rmK qa)), .val (.int (f_rmK qb)), .unset, .unset, .unset, .unset] [(.int qc)])) (fun t kt => ?_) ?_
    · show Steps p.tables e below (T17.setTop (mkF m 116 #[.val (.int ct), .val (.int qa), .val (.int qb), .val (.int qc), .val (.int qd), .val (.int (0 : Int32)), .val (.ref r1), .val (.ref r3), .val (.ref r5), .val (.ref r7), .val (.ref b9), .val (.int (f_rmK qa)), .unset, .unset, .unset, .unset, .unset] [(.int (f_rmK qb))])) _
      refine XS.istore X17.here hx rfl (hb hby at_116) rfl (l' := #[.val (.int ct), .val (.int qa), .val (.int qb), .val (.int qc), .val (.int qd), .val (.int (0 : Int32)), .val (.ref r1), .val (.ref r3), .val (.ref r5), .val (.ref r7), .val (.ref b9), .val (.int (f_rmK qa)), .val (.int (f_rmK qb)), .unset, .unset, .unset, .unset]) rfl ?_
      refine XS.iloadN X17.here hx rfl (hb hby at_118) rfl ?_
      exact kt
    obtain ⟨_, _, ⟨T18, L18, k18, n18⟩, -, X18, ⟨Lc18, hQ18, l18, y18, z18⟩, st18⟩ := Jvm.LawKit.callS X17 hx (y := (⟨"com/example/tiphys/tiphys/KnowledgeBaseOutOfOrderPinLaw", "key", "(I)I"⟩ : MethodName)) hown7 (mvT hZ7 (hw _ (List.mem_of_getElem? (i := 38) rfl))) (mvT hZ7 (hw _ (List.mem_of_getElem? (i := 39) rfl))) (mvT hZ7 (hw _ (List.mem_of_getElem? (i := 2) rfl))) (mvT hZ7 (hw _ (List.mem_of_getElem? (i := 40) rfl))) (by decide) (backOf (W := 0) (rmK l Z a0 hw [] qc T12.heap n0 Z15) hZ7 (hw _ (List.mem_of_getElem? (i := 40) rfl)) (hw _ (List.mem_of_getElem? (i := 2) rfl)) (by decide) (by decide)) (g := (mkF m 119 #[.val (.int ct), .val (.int qa), .val (.int qb), .val (.int qc), .val (.int qd), .val (.int (0 : Int32)), .val (.ref r1), .val (.ref r3), .val (.ref r5), .val (.ref r7), .val (.ref b9), .val (.int (f_rmK qa)), .val (.int (f_rmK qb)), .unset, .unset, .unset, .unset] [(.int qc)])) rfl (by rw [hml]; rfl) (argsL := [(.int qc)]) (rest := []) (lenOf pd__28I_29I rfl) rfl (by show 2 * 0 + _ ≤ _; exact Nat.le_of_eq rfl) (hb hby at_119) (fun _ _ => ⟨rfl, e17, (by decide : 9 + 0 ≤ _), (by decide : 23 + 0 ≤ _)⟩)
    dsimp only [Pt.U, Pt.locs, Pt.cells, Pt.slots] at X18 l18 y18 z18 st18 hQ18
    obtain ⟨rfl, N18q, e18⟩ := hQ18
    obtain ⟨lc18, X18, N18⟩ := own_pack X18 l18 y18 z18 N17 N18q (C := 9) (S' := 23) rfl rfl
    refine own_thrH (a := T18.setTop (mkF m 122 #[.val (.int ct), .val (.int qa), .val (.int qb), .val (.int qc), .val (.int qd), .val (.int (0 : Int32)), .val (.ref r1), .val (.ref r3), .val (.ref r5), .val (.ref r7), .val (.ref b9), .val (.int (f_rmK qa)), .val (.int (f_rmK qb)), .unset, .unset, .unset, .unset] [(.int (f_rmK qc))])) (fun t kt => st18 t kt) ?_
    refine own_thrH (a := T18.setTop (mkF m 126 #[.val (.int ct), .val (.int qa), .val (.int qb), .val (.int qc), .val (.int qd), .val (.int (0 : Int32)), .val (.ref r1), .val (.ref r3), .val (.ref r5), .val (.ref r7), .val (.ref b9), .val (.int (f_rmK qa)), .val (.int (f_rmK qb)), .val (.int (f_rmK qc)), .unset, .unset, .unset] [(.int qd)])) (fun t kt => ?_) ?_
    · show Steps p.tables e below (T18.setTop (mkF m 122 #[.val (.int ct), .val (.int qa), .val (.int qb), .val (.int qc), .val (.int qd), .val (.int (0 : Int32)), .val (.ref r1), .val (.ref r3), .val (.ref r5), .val (.ref r7), .val (.ref b9), .val (.int (f_rmK qa)), .val (.int (f_rmK qb)), .unset, .unset, .unset, .unset] [(.int (f_rmK qc))])) _
      refine XS.istore X18.here hx rfl (hb hby at_122) rfl (l' := #[.val (.int ct), .val (.int qa), .val (.int qb), .val (.int qc), .val (.int qd), .val (.int (0 : Int32)), .val (.ref r1), .val (.ref r3), .val (.ref r5), .val (.ref r7), .val (.ref b9), .val (.int (f_rmK qa)), .val (.int (f_rmK qb)), .val (.int (f_rmK qc)), .unset, .unset, .unset]) rfl ?_
      refine XS.iload X18.here hx rfl (hb hby at_124) rfl ?_
      exact kt
    obtain ⟨_, _, ⟨T19, L19, k19, n19⟩, -, X19, ⟨Lc19, hQ19, l19, y19, z19⟩, st19⟩ := Jvm.LawKit.callS X18 hx (y := (⟨"com/example/tiphys/tiphys/KnowledgeBaseOutOfOrderPinLaw", "key", "(I)I"⟩ : MethodName)) hown7 (mvT hZ7 (hw _ (List.mem_of_getElem? (i := 38) rfl))) (mvT hZ7 (hw _ (List.mem_of_getElem? (i := 39) rfl))) (mvT hZ7 (hw _ (List.mem_of_getElem? (i := 2) rfl))) (mvT hZ7 (hw _ (List.mem_of_getElem? (i := 40) rfl))) (by decide) (backOf (W := 0) (rmK l Z a0 hw [] qd T12.heap n0 Z15) hZ7 (hw _ (List.mem_of_getElem? (i := 40) rfl)) (hw _ (List.mem_of_getElem? (i := 2) rfl)) (by decide) (by decide)) (g := (mkF m 126 #[.val (.int ct), .val (.int qa), .val (.int qb), .val (.int qc), .val (.int qd), .val (.int (0 : Int32)), .val (.ref r1), .val (.ref r3), .val (.ref r5), .val (.ref r7), .val (.ref b9), .val (.int (f_rmK qa)), .val (.int (f_rmK qb)), .val (.int (f_rmK qc)), .unset, .unset, .unset] [(.int qd)])) rfl (by rw [hml]; rfl) (argsL := [(.int qd)]) (rest := []) (lenOf pd__28I_29I rfl) rfl (by show 2 * 0 + _ ≤ _; exact Nat.le_of_eq rfl) (hb hby at_126) (fun _ _ => ⟨rfl, e18, (by decide : 9 + 0 ≤ _), (by decide : 23 + 0 ≤ _)⟩)
    dsimp only [Pt.U, Pt.locs, Pt.cells, Pt.slots] at X19 l19 y19 z19 st19 hQ19
    obtain ⟨rfl, N19q, e19⟩ := hQ19
    obtain ⟨lc19, X19, N19⟩ := own_pack X19 l19 y19 z19 N18 N19q (C := 9) (S' := 23) rfl rfl
    refine own_thrH (a := T19.setTop (mkF m 129 #[.val (.int ct), .val (.int qa), .val (.int qb), .val (.int qc), .val (.int qd), .val (.int (0 : Int32)), .val (.ref r1), .val (.ref r3), .val (.ref r5), .val (.ref r7), .val (.ref b9), .val (.int (f_rmK qa)), .val (.int (f_rmK qb)), .val (.int (f_rmK qc)), .unset, .unset, .unset] [(.int (f_rmK qd))])) (fun t kt => st19 t kt) ?_
    refine own_thrH (a := T19.setTop (mkF m 190 #[.val (.int ct), .val (.int qa), .val (.int qb), .val (.int qc), .val (.int qd), .val (.int (0 : Int32)), .val (.ref r1), .val (.ref r3), .val (.ref r5), .val (.ref r7), .val (.ref b9), .val (.int (f_rmK qa)), .val (.int (f_rmK qb)), .val (.int (f_rmK qc)), .val (.int (f_rmK qd)), .val (.int (-1 : Int32)), .unset] [(.ref b9)])) (fun t kt => ?_) ?_
    · show Steps p.tables e below (T19.setTop (mkF m 129 #[.val (.int ct), .val (.int qa), .val (.int qb), .val (.int qc), .val (.int qd), .val (.int (0 : Int32)), .val (.ref r1), .val (.ref r3), .val (.ref r5), .val (.ref r7), .val (.ref b9), .val (.int (f_rmK qa)), .val (.int (f_rmK qb)), .val (.int (f_rmK qc)), .unset, .unset, .unset] [(.int (f_rmK qd))])) _
      refine XS.istore X19.here hx rfl (hb hby at_129) rfl (l' := #[.val (.int ct), .val (.int qa), .val (.int qb), .val (.int qc), .val (.int qd), .val (.int (0 : Int32)), .val (.ref r1), .val (.ref r3), .val (.ref r5), .val (.ref r7), .val (.ref b9), .val (.int (f_rmK qa)), .val (.int (f_rmK qb)), .val (.int (f_rmK qc)), .val (.int (f_rmK qd)), .unset, .unset]) rfl ?_
      refine XS.iconst X19.here hx rfl (hb hby at_131) ?_
      refine XS.istore X19.here hx rfl (hb hby at_132) rfl (l' := #[.val (.int ct), .val (.int qa), .val (.int qb), .val (.int qc), .val (.int qd), .val (.int (0 : Int32)), .val (.ref r1), .val (.ref r3), .val (.ref r5), .val (.ref r7), .val (.ref b9), .val (.int (f_rmK qa)), .val (.int (f_rmK qb)), .val (.int (f_rmK qc)), .val (.int (f_rmK qd)), .val (.int (-1 : Int32)), .unset]) rfl ?_
      refine XS.iload X19.here hx rfl (hb hby at_134) rfl ?_
      refine XS.iconst X19.here hx rfl (hb hby at_136) ?_
      refine XS.icmpYes X19.here hx rfl (pc0 := 137) (pc' := 153) rfl (hb hby at_137) rfl (tlt (by decide)).1 (by decide) (by decide) ?_
      refine XS.iload X19.here hx rfl (hb hby at_153) rfl ?_
      refine XS.iconst X19.here hx rfl (hb hby at_155) ?_
      refine XS.icmpYes X19.here hx rfl (pc0 := 156) (pc' := 172) rfl (hb hby at_156) rfl (tlt (by decide)).1 (by decide) (by decide) ?_
      refine XS.iload X19.here hx rfl (hb hby at_172) rfl ?_
      refine XS.iconst X19.here hx rfl (hb hby at_174) ?_
      refine XS.icmpYes X19.here hx rfl (pc0 := 175) (pc' := 188) rfl (hb hby at_175) rfl (tlt (by decide)).1 (by decide) (by decide) ?_
      refine XS.aload X19.here hx rfl (hb hby at_188) rfl rfl ?_
      exact kt
    obtain ⟨_, _, ⟨T20, L20, k20, n20⟩, -, X20, ⟨Lc20, hQ20, l20, y20, z20⟩, st20⟩ := Jvm.LawKit.callS X19 hx (y := (⟨"com/example/tiphys/tiphys/KnowledgeBase", "outOfOrder", "(Ljava/util/List;)I"⟩ : MethodName)) hown7 (mvT hZ7 (hw _ (List.mem_of_getElem? (i := 41) rfl))) (mvT hZ7 (hw _ (List.mem_of_getElem? (i := 42) rfl))) (mvT hZ7 (hw _ (List.mem_of_getElem? (i := 43) rfl))) (mvT hZ7 (hw _ (List.mem_of_getElem? (i := 44) rfl))) (by decide) (backOf (W := 0) (rmO0 l Z a0 hw [] b9 T12.heap n0 Z15 o12_0 o12_3) hZ7 (hw _ (List.mem_of_getElem? (i := 44) rfl)) (hw _ (List.mem_of_getElem? (i := 43) rfl)) (by decide) (by decide)) (g := (mkF m 190 #[.val (.int ct), .val (.int qa), .val (.int qb), .val (.int qc), .val (.int qd), .val (.int (0 : Int32)), .val (.ref r1), .val (.ref r3), .val (.ref r5), .val (.ref r7), .val (.ref b9), .val (.int (f_rmK qa)), .val (.int (f_rmK qb)), .val (.int (f_rmK qc)), .val (.int (f_rmK qd)), .val (.int (-1 : Int32)), .unset] [(.ref b9)])) rfl (by rw [hml]; rfl) (argsL := [(.ref b9)]) (rest := []) (lenOf pd__28Ljava_2futil_2fList_3b_29I rfl) rfl (by show 2 * 0 + _ ≤ _; exact Nat.le_of_eq rfl) (hb hby at_190) (fun _ _ => ⟨rfl, e19, (by decide : 9 + 0 ≤ _), (by decide : 23 + 0 ≤ _)⟩)
    dsimp only [Pt.U, Pt.locs, Pt.cells, Pt.slots] at X20 l20 y20 z20 st20 hQ20
    obtain ⟨rfl, N20q, e20⟩ := hQ20
    obtain ⟨lc20, X20, N20⟩ := own_pack X20 l20 y20 z20 N19 N20q (C := 9) (S' := 23) rfl rfl
    refine own_thrH (a := T20.setTop (mkF m 193 #[.val (.int ct), .val (.int qa), .val (.int qb), .val (.int qc), .val (.int qd), .val (.int (0 : Int32)), .val (.ref r1), .val (.ref r3), .val (.ref r5), .val (.ref r7), .val (.ref b9), .val (.int (f_rmK qa)), .val (.int (f_rmK qb)), .val (.int (f_rmK qc)), .val (.int (f_rmK qd)), .val (.int (-1 : Int32)), .unset] [(.int (f_rmO0 b9))])) (fun t kt => st20 t kt) ?_
    refine own_thrH (a := T20.setTop (mkF m 207 #[.val (.int ct), .val (.int qa), .val (.int qb), .val (.int qc), .val (.int qd), .val (.int (0 : Int32)), .val (.ref r1), .val (.ref r3), .val (.ref r5), .val (.ref r7), .val (.ref b9), .val (.int (f_rmK qa)), .val (.int (f_rmK qb)), .val (.int (f_rmK qc)), .val (.int (f_rmK qd)), .val (.int (-1 : Int32)), .val (.int (f_rmO0 b9))] [(.int (1 : Int32))])) (fun t kt => ?_) ?_
    · show Steps p.tables e below (T20.setTop (mkF m 193 #[.val (.int ct), .val (.int qa), .val (.int qb), .val (.int qc), .val (.int qd), .val (.int (0 : Int32)), .val (.ref r1), .val (.ref r3), .val (.ref r5), .val (.ref r7), .val (.ref b9), .val (.int (f_rmK qa)), .val (.int (f_rmK qb)), .val (.int (f_rmK qc)), .val (.int (f_rmK qd)), .val (.int (-1 : Int32)), .unset] [(.int (f_rmO0 b9))])) _
      refine XS.istore X20.here hx rfl (hb hby at_193) rfl (l' := #[.val (.int ct), .val (.int qa), .val (.int qb), .val (.int qc), .val (.int qd), .val (.int (0 : Int32)), .val (.ref r1), .val (.ref r3), .val (.ref r5), .val (.ref r7), .val (.ref b9), .val (.int (f_rmK qa)), .val (.int (f_rmK qb)), .val (.int (f_rmK qc)), .val (.int (f_rmK qd)), .val (.int (-1 : Int32)), .val (.int (f_rmO0 b9))]) rfl ?_
      refine XS.iload X20.here hx rfl (hb hby at_195) rfl ?_
      refine XS.iload X20.here hx rfl (hb hby at_197) rfl ?_
      refine XS.icmpNo X20.here hx rfl (hb hby at_199) rfl (teq (by rw [f_rmO0])).2 ?_
      refine XS.iconst X20.here hx rfl (hb hby at_202) ?_
      refine XS.goto X20.here hx rfl (pc0 := 203) (pc' := 207) rfl (hb hby at_203) (by decide) (by decide) ?_
      exact kt
    exact own_endH X20 hS7 (by rw [e20]; exact Z15k) hZ7 hEL CH14 hh e20 hlk (v := some (.int (1 : Int32))) (fun h => by rw [Bd.returns] at h; cases h) (fun fs hr => retN X20 hx (t := .boolean) Bd.returns (by simp) (hb hby at_207) hr) ⟨rfl, N20⟩ (by decide : 9 ≤ _) (by decide : 23 ≤ _)
  · subst hk
    refine own_thrH (a := T12.setTop (mkF m 52 #[.val (.int ct), .val (.int qa), .val (.int qb), .val (.int qc), .val (.int qd), .val (.int (1 : Int32)), .val (.ref r1), .val (.ref r3), .val (.ref r5), .val (.ref r7), .val (.ref b9), .unset, .unset, .unset, .unset, .unset, .unset] [(.ref r1), (.ref b9)])) (fun t kt => ?_) ?_
    · show Steps p.tables e below (T12.setTop (mkF m 42 #[.val (.int ct), .val (.int qa), .val (.int qb), .val (.int qc), .val (.int qd), .val (.int (1 : Int32)), .val (.ref r1), .val (.ref r3), .val (.ref r5), .val (.ref r7), .val (.ref b9), .unset, .unset, .unset, .unset, .unset, .unset] [])) _
      refine XS.iload X12.here hx rfl (hb hby at_42) rfl ?_
      refine XS.iconst X12.here hx rfl (hb hby at_44) ?_
      refine XS.icmpNo X12.here hx rfl (hb hby at_45) rfl (flt (by decide)).1 ?_
      refine XS.aload X12.here hx rfl (hb hby at_48) rfl rfl ?_
      refine XS.aload X12.here hx rfl (hb hby at_50) rfl rfl ?_
      exact kt
    obtain ⟨cq21, kq21, q21a, q21b, q21c⟩ := isOf hZ7 rfl o12_0
    obtain ⟨_, _, ⟨T21, L21, k21, n21⟩, -, X21, ⟨Lc21, hQ21, l21, y21, z21⟩, st21⟩ := X12.interfaceBack hx (xi := (⟨"java/util/List", "add", "(Ljava/lang/Object;)Z"⟩ : MethodName)) (y := (⟨"java/util/ArrayList", "add", "(Ljava/lang/Object;)Z"⟩ : MethodName)) hown7 (mvT hZ7 (hw _ (List.mem_of_getElem? (i := 56) rfl))) (mvT hZ7 (hw _ (List.mem_of_getElem? (i := 57) rfl))) (mvT hZ7 (hw _ (List.mem_of_getElem? (i := 58) rfl))) (mvT hZ7 (hw _ (List.mem_of_getElem? (i := 59) rfl))) (mvT hZ7 (hw _ (List.mem_of_getElem? (i := 60) rfl))) (mvT hZ7 (hw _ (List.mem_of_getElem? (i := 61) rfl))) (mvT hZ7 (hw _ (List.mem_of_getElem? (i := 62) rfl))) (mvT hZ7 (hw _ (List.mem_of_getElem? (i := 52) rfl))) (by decide) (backOf (W := 0) (rmA1 l Z a0 hw [] b9 r1 de kd T12.heap n0 Z15 o12_0 o12_1 o12_2 o12_3 S_de V_de (c13.keep K12 (allS g_b9 all0)) g_b9 ((bS0.ext E9).keep K12 (allS (Nat.le_of_eq g9.symm) all0)).un.1) hZ7 (hw _ (List.mem_of_getElem? (i := 63) rfl)) (hw _ (List.mem_of_getElem? (i := 14) rfl)) (by decide) (by decide)) q21a q21b q21c (g := (mkF m 52 #[.val (.int ct), .val (.int qa), .val (.int qb), .val (.int qc), .val (.int qd), .val (.int (1 : Int32)), .val (.ref r1), .val (.ref r3), .val (.ref r5), .val (.ref r7), .val (.ref b9), .unset, .unset, .unset, .unset, .unset, .unset] [(.ref r1), (.ref b9)])) rfl (by rw [hml]; rfl) (Steps.refl _) (argsL := [(.ref r1)]) (rest := []) (lenOf pd__28Ljava_2flang_2fObject_3b_29Z rfl) rfl (by show 2 * 0 + _ ≤ _; exact Nat.le_of_eq rfl) (hb hby at_52) (fun _ _ => ⟨rfl, rfl, (by decide : 9 + 1 ≤ _), (by decide : 23 + 10 ≤ _)⟩)
    dsimp only [Pt.U, Pt.locs, Pt.cells, Pt.slots] at X21 l21 y21 z21 st21 hQ21
    obtain ⟨B21, ke21, rfl, N21q, K21, o21_e, o21_m, o21_d, o21_s, o21_a, o21_o, hB21⟩ := hQ21
    have ne_b9_B21 : b9 ≠ B21 := Nat.ne_of_lt (Nat.lt_of_lt_of_le o12_0.lt hB21)
    have g_B21 : n0 ≤ B21 := Nat.le_trans Z15 hB21
    have sz_B21 : h0.size ≤ B21 := Nat.le_trans Z15h hB21
    have gB_B21 := Nat.le_trans (Nat.le_of_eq g9.symm) (Nat.le_of_lt (Nat.lt_of_lt_of_le o12_0.lt hB21))
    have CH22 := CH14.trans (CHr.keep K21 (allS (Safe.exa hZ7.alike o12_0 (by decide) (by decide)) all0) CH14.1)
    have Z23 : n0 ≤ T21.heap.size := Nat.le_trans Z15 K21.1
    have Z23h : h0.size ≤ T21.heap.size := Nat.le_trans Z15h K21.1
    have Z23k := Nat.le_trans Z15k K21.1
    obtain ⟨lc21, X21, N21⟩ := own_pack X21 l21 y21 z21 N12 N21q (C := 10) (S' := 33) rfl rfl
    refine own_thrH (a := T21.setTop (mkF m 57 #[.val (.int ct), .val (.int qa), .val (.int qb), .val (.int qc), .val (.int qd), .val (.int (1 : Int32)), .val (.ref r1), .val (.ref r3), .val (.ref r5), .val (.ref r7), .val (.ref b9), .unset, .unset, .unset, .unset, .unset, .unset] [(.int (1 : Int32))])) (fun t kt => st21.trans kt) ?_
    refine own_thrH (a := T21.setTop (mkF m 107 #[.val (.int ct), .val (.int qa), .val (.int qb), .val (.int qc), .val (.int qd), .val (.int (1 : Int32)), .val (.ref r1), .val (.ref r3), .val (.ref r5), .val (.ref r7), .val (.ref b9), .unset, .unset, .unset, .unset, .unset, .unset] [(.int qa)])) (fun t kt => ?_) ?_
    · show Steps p.tables e below (T21.setTop (mkF m 57 #[.val (.int ct), .val (.int qa), .val (.int qb), .val (.int qc), .val (.int qd), .val (.int (1 : Int32)), .val (.ref r1), .val (.ref r3), .val (.ref r5), .val (.ref r7), .val (.ref b9), .unset, .unset, .unset, .unset, .unset, .unset] [(.int (1 : Int32))])) _
      refine XS.pop X21.here hx rfl (hb hby at_57) rfl rfl ?_
      refine XS.iload X21.here hx rfl (hb hby at_58) rfl ?_
      refine XS.iconst X21.here hx rfl (hb hby at_60) ?_
      refine XS.icmpYes X21.here hx rfl (pc0 := 61) (pc' := 74) rfl (hb hby at_61) rfl (tlt (by decide)).1 (by decide) (by decide) ?_
      refine XS.iload X21.here hx rfl (hb hby at_74) rfl ?_
      refine XS.iconst X21.here hx rfl (hb hby at_76) ?_
      refine XS.icmpYes X21.here hx rfl (pc0 := 77) (pc' := 90) rfl (hb hby at_77) rfl (tlt (by decide)).1 (by decide) (by decide) ?_
      refine XS.iload X21.here hx rfl (hb hby at_90) rfl ?_
      refine XS.iconst X21.here hx rfl (hb hby at_92) ?_
      refine XS.icmpYes X21.here hx rfl (pc0 := 93) (pc' := 106) rfl (hb hby at_93) rfl (tlt (by decide)).1 (by decide) (by decide) ?_
      refine XS.iloadN X21.here hx rfl (hb hby at_106) rfl ?_
      exact kt
    obtain ⟨_, _, ⟨T24, L24, k24, n24⟩, -, X24, ⟨Lc24, hQ24, l24, y24, z24⟩, st24⟩ := Jvm.LawKit.callS X21 hx (y := (⟨"com/example/tiphys/tiphys/KnowledgeBaseOutOfOrderPinLaw", "key", "(I)I"⟩ : MethodName)) hown7 (mvT hZ7 (hw _ (List.mem_of_getElem? (i := 38) rfl))) (mvT hZ7 (hw _ (List.mem_of_getElem? (i := 39) rfl))) (mvT hZ7 (hw _ (List.mem_of_getElem? (i := 2) rfl))) (mvT hZ7 (hw _ (List.mem_of_getElem? (i := 40) rfl))) (by decide) (backOf (W := 0) (rmK l Z a0 hw [] qa T21.heap n0 Z23) hZ7 (hw _ (List.mem_of_getElem? (i := 40) rfl)) (hw _ (List.mem_of_getElem? (i := 2) rfl)) (by decide) (by decide)) (g := (mkF m 107 #[.val (.int ct), .val (.int qa), .val (.int qb), .val (.int qc), .val (.int qd), .val (.int (1 : Int32)), .val (.ref r1), .val (.ref r3), .val (.ref r5), .val (.ref r7), .val (.ref b9), .unset, .unset, .unset, .unset, .unset, .unset] [(.int qa)])) rfl (by rw [hml]; rfl) (argsL := [(.int qa)]) (rest := []) (lenOf pd__28I_29I rfl) rfl (by show 2 * 0 + _ ≤ _; exact Nat.le_of_eq rfl) (hb hby at_107) (fun _ _ => ⟨rfl, rfl, (by decide : 10 + 0 ≤ _), (by decide : 33 + 0 ≤ _)⟩)
    dsimp only [Pt.U, Pt.locs, Pt.cells, Pt.slots] at X24 l24 y24 z24 st24 hQ24
    obtain ⟨rfl, N24q, e24⟩ := hQ24
    obtain ⟨lc24, X24, N24⟩ := own_pack X24 l24 y24 z24 N21 N24q (C := 10) (S' := 33) rfl rfl
    refine own_thrH (a := T24.setTop (mkF m 110 #[.val (.int ct), .val (.int qa), .val (.int qb), .val (.int qc), .val (.int qd), .val (.int (1 : Int32)), .val (.ref r1), .val (.ref r3), .val (.ref r5), .val (.ref r7), .val (.ref b9), .unset, .unset, .unset, .unset, .unset, .unset] [(.int (f_rmK qa))])) (fun t kt => st24 t kt) ?_
    refine own_thrH (a := T24.setTop (mkF m 113 #[.val (.int ct), .val (.int qa), .val (.int qb), .val (.int qc), .val (.int qd), .val (.int (1 : Int32)), .val (.ref r1), .val (.ref r3), .val (.ref r5), .val (.ref r7), .val (.ref b9), .val (.int (f_rmK qa)), .unset, .unset, .unset, .unset, .unset] [(.int qb)])) (fun t kt => ?_) ?_
    · show Steps p.tables e below (T24.setTop (mkF m 110 #[.val (.int ct), .val (.int qa), .val (.int qb), .val (.int qc), .val (.int qd), .val (.int (1 : Int32)), .val (.ref r1), .val (.ref r3), .val (.ref r5), .val (.ref r7), .val (.ref b9), .unset, .unset, .unset, .unset, .unset, .unset] [(.int (f_rmK qa))])) _
      refine XS.istore X24.here hx rfl (hb hby at_110) rfl (l' := #[.val (.int ct), .val (.int qa), .val (.int qb), .val (.int qc), .val (.int qd), .val (.int (1 : Int32)), .val (.ref r1), .val (.ref r3), .val (.ref r5), .val (.ref r7), .val (.ref b9), .val (.int (f_rmK qa)), .unset, .unset, .unset, .unset, .unset]) rfl ?_
      refine XS.iloadN X24.here hx rfl (hb hby at_112) rfl ?_
      exact kt
    obtain ⟨_, _, ⟨T25, L25, k25, n25⟩, -, X25, ⟨Lc25, hQ25, l25, y25, z25⟩, st25⟩ := Jvm.LawKit.callS X24 hx (y := (⟨"com/example/tiphys/tiphys/KnowledgeBaseOutOfOrderPinLaw", "key", "(I)I"⟩ : MethodName)) hown7 (mvT hZ7 (hw _ (List.mem_of_getElem? (i := 38) rfl))) (mvT hZ7 (hw _ (List.mem_of_getElem? (i := 39) rfl))) (mvT hZ7 (hw _ (List.mem_of_getElem? (i := 2) rfl))) (mvT hZ7 (hw _ (List.mem_of_getElem? (i := 40) rfl))) (by decide) (backOf (W := 0) (rmK l Z a0 hw [] qb T21.heap n0 Z23) hZ7 (hw _ (List.mem_of_getElem? (i := 40) rfl)) (hw _ (List.mem_of_getElem? (i := 2) rfl)) (by decide) (by decide)) (g := (mkF m 113 #[.val (.int ct), .val (.int qa), .val (.int qb), .val (.int qc), .val (.int qd), .val (.int (1 : Int32)), .val (.ref r1), .val (.ref r3), .val (.ref r5), .val (.ref r7), .val (.ref b9), .val (.int (f_rmK qa)), .unset, .unset, .unset, .unset, .unset] [(.int qb)])) rfl (by rw [hml]; rfl) (argsL := [(.int qb)]) (rest := []) (lenOf pd__28I_29I rfl) rfl (by show 2 * 0 + _ ≤ _; exact Nat.le_of_eq rfl) (hb hby at_113) (fun _ _ => ⟨rfl, e24, (by decide : 10 + 0 ≤ _), (by decide : 33 + 0 ≤ _)⟩)
    dsimp only [Pt.U, Pt.locs, Pt.cells, Pt.slots] at X25 l25 y25 z25 st25 hQ25
    obtain ⟨rfl, N25q, e25⟩ := hQ25
    obtain ⟨lc25, X25, N25⟩ := own_pack X25 l25 y25 z25 N24 N25q (C := 10) (S' := 33) rfl rfl
    refine own_thrH (a := T25.setTop (mkF m 116 #[.val (.int ct), .val (.int qa), .val (.int qb), .val (.int qc), .val (.int qd), .val (.int (1 : Int32)), .val (.ref r1), .val (.ref r3), .val (.ref r5), .val (.ref r7), .val (.ref b9), .val (.int (f_rmK qa)), .unset, .unset, .unset, .unset, .unset] [(.int (f_rmK qb))])) (fun t kt => st25 t kt) ?_
    refine own_thrH (a := T25.setTop (mkF m 119 #[.val (.int ct), .val (.int qa), .val (.int qb), .val (.int qc), .val (.int qd), .val (.int (1 : Int32)), .val (.ref r1), .val (.ref r3), .val (.ref r5), .val (.ref r7), .val (.ref b9), .val (.int (f_rmK qa)), .val (.int (f_rmK qb)), .unset, .unset, .unset, .unset] [(.int qc)])) (fun t kt => ?_) ?_
    · show Steps p.tables e below (T25.setTop (mkF m 116 #[.val (.int ct), .val (.int qa), .val (.int qb), .val (.int qc), .val (.int qd), .val (.int (1 : Int32)), .val (.ref r1), .val (.ref r3), .val (.ref r5), .val (.ref r7), .val (.ref b9), .val (.int (f_rmK qa)), .unset, .unset, .unset, .unset, .unset] [(.int (f_rmK qb))])) _
      refine XS.istore X25.here hx rfl (hb hby at_116) rfl (l' := #[.val (.int ct), .val (.int qa), .val (.int qb), .val (.int qc), .val (.int qd), .val (.int (1 : Int32)), .val (.ref r1), .val (.ref r3), .val (.ref r5), .val (.ref r7), .val (.ref b9), .val (.int (f_rmK qa)), .val (.int (f_rmK qb)), .unset, .unset, .unset, .unset]) rfl ?_
      refine XS.iloadN X25.here hx rfl (hb hby at_118) rfl ?_
      exact kt
    obtain ⟨_, _, ⟨T26, L26, k26, n26⟩, -, X26, ⟨Lc26, hQ26, l26, y26, z26⟩, st26⟩ := Jvm.LawKit.callS X25 hx (y := (⟨"com/example/tiphys/tiphys/KnowledgeBaseOutOfOrderPinLaw", "key", "(I)I"⟩ : MethodName)) hown7 (mvT hZ7 (hw _ (List.mem_of_getElem? (i := 38) rfl))) (mvT hZ7 (hw _ (List.mem_of_getElem? (i := 39) rfl))) (mvT hZ7 (hw _ (List.mem_of_getElem? (i := 2) rfl))) (mvT hZ7 (hw _ (List.mem_of_getElem? (i := 40) rfl))) (by decide) (backOf (W := 0) (rmK l Z a0 hw [] qc T21.heap n0 Z23) hZ7 (hw _ (List.mem_of_getElem? (i := 40) rfl)) (hw _ (List.mem_of_getElem? (i := 2) rfl)) (by decide) (by decide)) (g := (mkF m 119 #[.val (.int ct), .val (.int qa), .val (.int qb), .val (.int qc), .val (.int qd), .val (.int (1 : Int32)), .val (.ref r1), .val (.ref r3), .val (.ref r5), .val (.ref r7), .val (.ref b9), .val (.int (f_rmK qa)), .val (.int (f_rmK qb)), .unset, .unset, .unset, .unset] [(.int qc)])) rfl (by rw [hml]; rfl) (argsL := [(.int qc)]) (rest := []) (lenOf pd__28I_29I rfl) rfl (by show 2 * 0 + _ ≤ _; exact Nat.le_of_eq rfl) (hb hby at_119) (fun _ _ => ⟨rfl, e25, (by decide : 10 + 0 ≤ _), (by decide : 33 + 0 ≤ _)⟩)
    dsimp only [Pt.U, Pt.locs, Pt.cells, Pt.slots] at X26 l26 y26 z26 st26 hQ26
    obtain ⟨rfl, N26q, e26⟩ := hQ26
    obtain ⟨lc26, X26, N26⟩ := own_pack X26 l26 y26 z26 N25 N26q (C := 10) (S' := 33) rfl rfl
    refine own_thrH (a := T26.setTop (mkF m 122 #[.val (.int ct), .val (.int qa), .val (.int qb), .val (.int qc), .val (.int qd), .val (.int (1 : Int32)), .val (.ref r1), .val (.ref r3), .val (.ref r5), .val (.ref r7), .val (.ref b9), .val (.int (f_rmK qa)), .val (.int (f_rmK qb)), .unset, .unset, .unset, .unset] [(.int (f_rmK qc))])) (fun t kt => st26 t kt) ?_
    refine own_thrH (a := T26.setTop (mkF m 126 #[.val (.int ct), .val (.int qa), .val (.int qb), .val (.int qc), .val (.int qd), .val (.int (1 : Int32)), .val (.ref r1), .val (.ref r3), .val (.ref r5), .val (.ref r7), .val (.ref b9), .val (.int (f_rmK qa)), .val (.int (f_rmK qb)), .val (.int (f_rmK qc)), .unset, .unset, .unset] [(.int qd)])) (fun t kt => ?_) ?_
    · show Steps p.tables e below (T26.setTop (mkF m 122 #[.val (.int ct), .val (.int qa), .val (.int qb), .val (.int qc), .val (.int qd), .val (.int (1 : Int32)), .val (.ref r1), .val (.ref r3), .val (.ref r5), .val (.ref r7), .val (.ref b9), .val (.int (f_rmK qa)), .val (.int (f_rmK qb)), .unset, .unset, .unset, .unset] [(.int (f_rmK qc))])) _
      refine XS.istore X26.here hx rfl (hb hby at_122) rfl (l' := #[.val (.int ct), .val (.int qa), .val (.int qb), .val (.int qc), .val (.int qd), .val (.int (1 : Int32)), .val (.ref r1), .val (.ref r3), .val (.ref r5), .val (.ref r7), .val (.ref b9), .val (.int (f_rmK qa)), .val (.int (f_rmK qb)), .val (.int (f_rmK qc)), .unset, .unset, .unset]) rfl ?_
      refine XS.iload X26.here hx rfl (hb hby at_124) rfl ?_
      exact kt
    obtain ⟨_, _, ⟨T27, L27, k27, n27⟩, -, X27, ⟨Lc27, hQ27, l27, y27, z27⟩, st27⟩ := Jvm.LawKit.callS X26 hx (y := (⟨"com/example/tiphys/tiphys/KnowledgeBaseOutOfOrderPinLaw", "key", "(I)I"⟩ : MethodName)) hown7 (mvT hZ7 (hw _ (List.mem_of_getElem? (i := 38) rfl))) (mvT hZ7 (hw _ (List.mem_of_getElem? (i := 39) rfl))) (mvT hZ7 (hw _ (List.mem_of_getElem? (i := 2) rfl))) (mvT hZ7 (hw _ (List.mem_of_getElem? (i := 40) rfl))) (by decide) (backOf (W := 0) (rmK l Z a0 hw [] qd T21.heap n0 Z23) hZ7 (hw _ (List.mem_of_getElem? (i := 40) rfl)) (hw _ (List.mem_of_getElem? (i := 2) rfl)) (by decide) (by decide)) (g := (mkF m 126 #[.val (.int ct), .val (.int qa), .val (.int qb), .val (.int qc), .val (.int qd), .val (.int (1 : Int32)), .val (.ref r1), .val (.ref r3), .val (.ref r5), .val (.ref r7), .val (.ref b9), .val (.int (f_rmK qa)), .val (.int (f_rmK qb)), .val (.int (f_rmK qc)), .unset, .unset, .unset] [(.int qd)])) rfl (by rw [hml]; rfl) (argsL := [(.int qd)]) (rest := []) (lenOf pd__28I_29I rfl) rfl (by show 2 * 0 + _ ≤ _; exact Nat.le_of_eq rfl) (hb hby at_126) (fun _ _ => ⟨rfl, e26, (by decide : 10 + 0 ≤ _), (by decide : 33 + 0 ≤ _)⟩)
    dsimp only [Pt.U, Pt.locs, Pt.cells, Pt.slots] at X27 l27 y27 z27 st27 hQ27
    obtain ⟨rfl, N27q, e27⟩ := hQ27
    obtain ⟨lc27, X27, N27⟩ := own_pack X27 l27 y27 z27 N26 N27q (C := 10) (S' := 33) rfl rfl
    refine own_thrH (a := T27.setTop (mkF m 129 #[.val (.int ct), .val (.int qa), .val (.int qb), .val (.int qc), .val (.int qd), .val (.int (1 : Int32)), .val (.ref r1), .val (.ref r3), .val (.ref r5), .val (.ref r7), .val (.ref b9), .val (.int (f_rmK qa)), .val (.int (f_rmK qb)), .val (.int (f_rmK qc)), .unset, .unset, .unset] [(.int (f_rmK qd))])) (fun t kt => st27 t kt) ?_
    refine own_thrH (a := T27.setTop (mkF m 190 #[.val (.int ct), .val (.int qa), .val (.int qb), .val (.int qc), .val (.int qd), .val (.int (1 : Int32)), .val (.ref r1), .val (.ref r3), .val (.ref r5), .val (.ref r7), .val (.ref b9), .val (.int (f_rmK qa)), .val (.int (f_rmK qb)), .val (.int (f_rmK qc)), .val (.int (f_rmK qd)), .val (.int (-1 : Int32)), .unset] [(.ref b9)])) (fun t kt => ?_) ?_
    · show Steps p.tables e below (T27.setTop (mkF m 129 #[.val (.int ct), .val (.int qa), .val (.int qb), .val (.int qc), .val (.int qd), .val (.int (1 : Int32)), .val (.ref r1), .val (.ref r3), .val (.ref r5), .val (.ref r7), .val (.ref b9), .val (.int (f_rmK qa)), .val (.int (f_rmK qb)), .val (.int (f_rmK qc)), .unset, .unset, .unset] [(.int (f_rmK qd))])) _
      refine XS.istore X27.here hx rfl (hb hby at_129) rfl (l' := #[.val (.int ct), .val (.int qa), .val (.int qb), .val (.int qc), .val (.int qd), .val (.int (1 : Int32)), .val (.ref r1), .val (.ref r3), .val (.ref r5), .val (.ref r7), .val (.ref b9), .val (.int (f_rmK qa)), .val (.int (f_rmK qb)), .val (.int (f_rmK qc)), .val (.int (f_rmK qd)), .unset, .unset]) rfl ?_
      refine XS.iconst X27.here hx rfl (hb hby at_131) ?_
      refine XS.istore X27.here hx rfl (hb hby at_132) rfl (l' := #[.val (.int ct), .val (.int qa), .val (.int qb), .val (.int qc), .val (.int qd), .val (.int (1 : Int32)), .val (.ref r1), .val (.ref r3), .val (.ref r5), .val (.ref r7), .val (.ref b9), .val (.int (f_rmK qa)), .val (.int (f_rmK qb)), .val (.int (f_rmK qc)), .val (.int (f_rmK qd)), .val (.int (-1 : Int32)), .unset]) rfl ?_
      refine XS.iload X27.here hx rfl (hb hby at_134) rfl ?_
      refine XS.iconst X27.here hx rfl (hb hby at_136) ?_
      refine XS.icmpYes X27.here hx rfl (pc0 := 137) (pc' := 153) rfl (hb hby at_137) rfl (tlt (by decide)).1 (by decide) (by decide) ?_
      refine XS.iload X27.here hx rfl (hb hby at_153) rfl ?_
      refine XS.iconst X27.here hx rfl (hb hby at_155) ?_
      refine XS.icmpYes X27.here hx rfl (pc0 := 156) (pc' := 172) rfl (hb hby at_156) rfl (tlt (by decide)).1 (by decide) (by decide) ?_
      refine XS.iload X27.here hx rfl (hb hby at_172) rfl ?_
      refine XS.iconst X27.here hx rfl (hb hby at_174) ?_
      refine XS.icmpYes X27.here hx rfl (pc0 := 175) (pc' := 188) rfl (hb hby at_175) rfl (tlt (by decide)).1 (by decide) (by decide) ?_
      refine XS.aload X27.here hx rfl (hb hby at_188) rfl rfl ?_
      exact kt
    obtain ⟨_, _, ⟨T28, L28, k28, n28⟩, -, X28, ⟨Lc28, hQ28, l28, y28, z28⟩, st28⟩ := Jvm.LawKit.callS X27 hx (y := (⟨"com/example/tiphys/tiphys/KnowledgeBase", "outOfOrder", "(Ljava/util/List;)I"⟩ : MethodName)) hown7 (mvT hZ7 (hw _ (List.mem_of_getElem? (i := 41) rfl))) (mvT hZ7 (hw _ (List.mem_of_getElem? (i := 42) rfl))) (mvT hZ7 (hw _ (List.mem_of_getElem? (i := 43) rfl))) (mvT hZ7 (hw _ (List.mem_of_getElem? (i := 44) rfl))) (by decide) (backOf (W := 0) (rmO1 l Z a0 hw [] b9 T21.heap n0 Z23 o21_e o21_s) hZ7 (hw _ (List.mem_of_getElem? (i := 44) rfl)) (hw _ (List.mem_of_getElem? (i := 43) rfl)) (by decide) (by decide)) (g := (mkF m 190 #[.val (.int ct), .val (.int qa), .val (.int qb), .val (.int qc), .val (.int qd), .val (.int (1 : Int32)), .val (.ref r1), .val (.ref r3), .val (.ref r5), .val (.ref r7), .val (.ref b9), .val (.int (f_rmK qa)), .val (.int (f_rmK qb)), .val (.int (f_rmK qc)), .val (.int (f_rmK qd)), .val (.int (-1 : Int32)), .unset] [(.ref b9)])) rfl (by rw [hml]; rfl) (argsL := [(.ref b9)]) (rest := []) (lenOf pd__28Ljava_2futil_2fList_3b_29I rfl) rfl (by show 2 * 0 + _ ≤ _; exact Nat.le_of_eq rfl) (hb hby at_190) (fun _ _ => ⟨rfl, e27, (by decide : 10 + 0 ≤ _), (by decide : 33 + 0 ≤ _)⟩)
    dsimp only [Pt.U, Pt.locs, Pt.cells, Pt.slots] at X28 l28 y28 z28 st28 hQ28
    obtain ⟨rfl, N28q, e28⟩ := hQ28
    obtain ⟨lc28, X28, N28⟩ := own_pack X28 l28 y28 z28 N27 N28q (C := 10) (S' := 33) rfl rfl
    refine own_thrH (a := T28.setTop (mkF m 193 #[.val (.int ct), .val (.int qa), .val (.int qb), .val (.int qc), .val (.int qd), .val (.int (1 : Int32)), .val (.ref r1), .val (.ref r3), .val (.ref r5), .val (.ref r7), .val (.ref b9), .val (.int (f_rmK qa)), .val (.int (f_rmK qb)), .val (.int (f_rmK qc)), .val (.int (f_rmK qd)), .val (.int (-1 : Int32)), .unset] [(.int (f_rmO1 b9))])) (fun t kt => st28 t kt) ?_
    refine own_thrH (a := T28.setTop (mkF m 207 #[.val (.int ct), .val (.int qa), .val (.int qb), .val (.int qc), .val (.int qd), .val (.int (1 : Int32)), .val (.ref r1), .val (.ref r3), .val (.ref r5), .val (.ref r7), .val (.ref b9), .val (.int (f_rmK qa)), .val (.int (f_rmK qb)), .val (.int (f_rmK qc)), .val (.int (f_rmK qd)), .val (.int (-1 : Int32)), .val (.int (f_rmO1 b9))] [(.int (1 : Int32))])) (fun t kt => ?_) ?_
    · show Steps p.tables e below (T28.setTop (mkF m 193 #[.val (.int ct), .val (.int qa), .val (.int qb), .val (.int qc), .val (.int qd), .val (.int (1 : Int32)), .val (.ref r1), .val (.ref r3), .val (.ref r5), .val (.ref r7), .val (.ref b9), .val (.int (f_rmK qa)), .val (.int (f_rmK qb)), .val (.int (f_rmK qc)), .val (.int (f_rmK qd)), .val (.int (-1 : Int32)), .unset] [(.int (f_rmO1 b9))])) _
      refine XS.istore X28.here hx rfl (hb hby at_193) rfl (l' := #[.val (.int ct), .val (.int qa), .val (.int qb), .val (.int qc), .val (.int qd), .val (.int (1 : Int32)), .val (.ref r1), .val (.ref r3), .val (.ref r5), .val (.ref r7), .val (.ref b9), .val (.int (f_rmK qa)), .val (.int (f_rmK qb)), .val (.int (f_rmK qc)), .val (.int (f_rmK qd)), .val (.int (-1 : Int32)), .val (.int (f_rmO1 b9))]) rfl ?_
      refine XS.iload X28.here hx rfl (hb hby at_195) rfl ?_
      refine XS.iload X28.here hx rfl (hb hby at_197) rfl ?_
      refine XS.icmpNo X28.here hx rfl (hb hby at_199) rfl (teq (by rw [f_rmO1])).2 ?_
      refine XS.iconst X28.here hx rfl (hb hby at_202) ?_
      refine XS.goto X28.here hx rfl (pc0 := 203) (pc' := 207) rfl (hb hby at_203) (by decide) (by decide) ?_
      exact kt
    exact own_endH X28 hS7 (by rw [e28]; exact Z23k) hZ7 hEL CH22 hh e28 hlk (v := some (.int (1 : Int32))) (fun h => by rw [Bd.returns] at h; cases h) (fun fs hr => retN X28 hx (t := .boolean) Bd.returns (by simp) (hb hby at_207) hr) ⟨rfl, N28⟩ (by decide : 10 ≤ _) (by decide : 33 ≤ _)
  · subst hk
    refine own_thrH (a := T12.setTop (mkF m 52 #[.val (.int ct), .val (.int qa), .val (.int qb), .val (.int qc), .val (.int qd), .val (.int (2 : Int32)), .val (.ref r1), .val (.ref r3), .val (.ref r5), .val (.ref r7), .val (.ref b9), .unset, .unset, .unset, .unset, .unset, .unset] [(.ref r1), (.ref b9)])) (fun t kt => ?_) ?_
    · show Steps p.tables e below (T12.setTop (mkF m 42 #[.val (.int ct), .val (.int qa), .val (.int qb), .val (.int qc), .val (.int qd), .val (.int (2 : Int32)), .val (.ref r1), .val (.ref r3), .val (.ref r5), .val (.ref r7), .val (.ref b9), .unset, .unset, .unset, .unset, .unset, .unset] [])) _
      refine XS.iload X12.here hx rfl (hb hby at_42) rfl ?_
      refine XS.iconst X12.here hx rfl (hb hby at_44) ?_
      refine XS.icmpNo X12.here hx rfl (hb hby at_45) rfl (flt (by decide)).1 ?_
      refine XS.aload X12.here hx rfl (hb hby at_48) rfl rfl ?_
      refine XS.aload X12.here hx rfl (hb hby at_50) rfl rfl ?_
      exact kt
    obtain ⟨cq29, kq29, q29a, q29b, q29c⟩ := isOf hZ7 rfl o12_0
    obtain ⟨_, _, ⟨T29, L29, k29, n29⟩, -, X29, ⟨Lc29, hQ29, l29, y29, z29⟩, st29⟩ := X12.interfaceBack hx (xi := (⟨"java/util/List", "add", "(Ljava/lang/Object;)Z"⟩ : MethodName)) (y := (⟨"java/util/ArrayList", "add", "(Ljava/lang/Object;)Z"⟩ : MethodName)) hown7 (mvT hZ7 (hw _ (List.mem_of_getElem? (i := 56) rfl))) (mvT hZ7 (hw _ (List.mem_of_getElem? (i := 57) rfl))) (mvT hZ7 (hw _ (List.mem_of_getElem? (i := 58) rfl))) (mvT hZ7 (hw _ (List.mem_of_getElem? (i := 59) rfl))) (mvT hZ7 (hw _ (List.mem_of_getElem? (i := 60) rfl))) (mvT hZ7 (hw _ (List.mem_of_getElem? (i := 61) rfl))) (mvT hZ7 (hw _ (List.mem_of_getElem? (i := 62) rfl))) (mvT hZ7 (hw _ (List.mem_of_getElem? (i := 52) rfl))) (by decide) (backOf (W := 0) (rmA1 l Z a0 hw [] b9 r1 de kd T12.heap n0 Z15 o12_0 o12_1 o12_2 o12_3 S_de V_de (c13.keep K12 (allS g_b9 all0)) g_b9 ((bS0.ext E9).keep K12 (allS (Nat.le_of_eq g9.symm) all0)).un.1) hZ7 (hw _ (List.mem_of_getElem? (i := 63) rfl)) (hw _ (List.mem_of_getElem? (i := 14) rfl)) (by decide) (by decide)) q29a q29b q29c (g := (mkF m 52 #[.val (.int ct), .val (.int qa), .val (.int qb), .val (.int qc), .val (.int qd), .val (.int (2 : Int32)), .val (.ref r1), .val (.ref r3), .val (.ref r5), .val (.ref r7), .val (.ref b9), .unset, .unset, .unset, .unset, .unset, .unset] [(.ref r1), (.ref b9)])) rfl (by rw [hml]; rfl) (Steps.refl _) (argsL := [(.ref r1)]) (rest := []) (lenOf pd__28Ljava_2flang_2fObject_3b_29Z rfl) rfl (by show 2 * 0 + _ ≤ _; exact Nat.le_of_eq rfl) (hb hby at_52) (fun _ _ => ⟨rfl, rfl, (by decide : 9 + 1 ≤ _), (by decide : 23 + 10 ≤ _)⟩)
    dsimp only [Pt.U, Pt.locs, Pt.cells, Pt.slots] at X29 l29 y29 z29 st29 hQ29
    obtain ⟨B29, ke29, rfl, N29q, K29, o29_e, o29_m, o29_d, o29_s, o29_a, o29_o, hB29⟩ := hQ29
    have ne_b9_B29 : b9 ≠ B29 := Nat.ne_of_lt (Nat.lt_of_lt_of_le o12_0.lt hB29)
    have g_B29 : n0 ≤ B29 := Nat.le_trans Z15 hB29
    have sz_B29 : h0.size ≤ B29 := Nat.le_trans Z15h hB29
    have gB_B29 := Nat.le_trans (Nat.le_of_eq g9.symm) (Nat.le_of_lt (Nat.lt_of_lt_of_le o12_0.lt hB29))
    have CH30 := CH14.trans (CHr.keep K29 (allS (Safe.exa hZ7.alike o12_0 (by decide) (by decide)) all0) CH14.1)
    have Z31 : n0 ≤ T29.heap.size := Nat.le_trans Z15 K29.1
    have Z31h : h0.size ≤ T29.heap.size := Nat.le_trans Z15h K29.1
    have Z31k := Nat.le_trans Z15k K29.1
    obtain ⟨lc29, X29, N29⟩ := own_pack X29 l29 y29 z29 N12 N29q (C := 10) (S' := 33) rfl rfl
    refine own_thrH (a := T29.setTop (mkF m 57 #[.val (.int ct), .val (.int qa), .val (.int qb), .val (.int qc), .val (.int qd), .val (.int (2 : Int32)), .val (.ref r1), .val (.ref r3), .val (.ref r5), .val (.ref r7), .val (.ref b9), .unset, .unset, .unset, .unset, .unset, .unset] [(.int (1 : Int32))])) (fun t kt => st29.trans kt) ?_
    have c33 := (((bS1.ext E9).keep K12 (allS (Nat.le_of_eq g9.symm) all0)).keep K29 (allS (Nat.le_of_eq g9.symm) all0))
    have er32 := c33.un.1
    refine own_thrH (a := T29.setTop (mkF m 68 #[.val (.int ct), .val (.int qa), .val (.int qb), .val (.int qc), .val (.int qd), .val (.int (2 : Int32)), .val (.ref r1), .val (.ref r3), .val (.ref r5), .val (.ref r7), .val (.ref b9), .unset, .unset, .unset, .unset, .unset, .unset] [(.ref r3), (.ref b9)])) (fun t kt => ?_) ?_
    · show Steps p.tables e below (T29.setTop (mkF m 57 #[.val (.int ct), .val (.int qa), .val (.int qb), .val (.int qc), .val (.int qd), .val (.int (2 : Int32)), .val (.ref r1), .val (.ref r3), .val (.ref r5), .val (.ref r7), .val (.ref b9), .unset, .unset, .unset, .unset, .unset, .unset] [(.int (1 : Int32))])) _
      refine XS.pop X29.here hx rfl (hb hby at_57) rfl rfl ?_
      refine XS.iload X29.here hx rfl (hb hby at_58) rfl ?_
      refine XS.iconst X29.here hx rfl (hb hby at_60) ?_
      refine XS.icmpNo X29.here hx rfl (hb hby at_61) rfl (flt (by decide)).1 ?_
      refine XS.aload X29.here hx rfl (hb hby at_64) rfl rfl ?_
      refine XS.aload X29.here hx rfl (hb hby at_66) rfl rfl ?_
      exact kt
    obtain ⟨cq34, kq34, q34a, q34b, q34c⟩ := isOf hZ7 rfl o29_e
    obtain ⟨_, _, ⟨T34, L34, k34, n34⟩, -, X34, ⟨Lc34, hQ34, l34, y34, z34⟩, st34⟩ := X29.interfaceBack hx (xi := (⟨"java/util/List", "add", "(Ljava/lang/Object;)Z"⟩ : MethodName)) (y := (⟨"java/util/ArrayList", "add", "(Ljava/lang/Object;)Z"⟩ : MethodName)) hown7 (mvT hZ7 (hw _ (List.mem_of_getElem? (i := 56) rfl))) (mvT hZ7 (hw _ (List.mem_of_getElem? (i := 57) rfl))) (mvT hZ7 (hw _ (List.mem_of_getElem? (i := 58) rfl))) (mvT hZ7 (hw _ (List.mem_of_getElem? (i := 59) rfl))) (mvT hZ7 (hw _ (List.mem_of_getElem? (i := 60) rfl))) (mvT hZ7 (hw _ (List.mem_of_getElem? (i := 61) rfl))) (mvT hZ7 (hw _ (List.mem_of_getElem? (i := 62) rfl))) (mvT hZ7 (hw _ (List.mem_of_getElem? (i := 52) rfl))) (by decide) (backOf (W := 0) (rmB11 l Z a0 hw [] b9 r3 B29 ke29 r1 T29.heap n0 Z31 o29_e o29_m o29_d o29_s er32 o29_a g_b9 g_B29 ne_b9_B29 o29_o) hZ7 (hw _ (List.mem_of_getElem? (i := 63) rfl)) (hw _ (List.mem_of_getElem? (i := 14) rfl)) (by decide) (by decide)) q34a q34b q34c (g := (mkF m 68 #[.val (.int ct), .val (.int qa), .val (.int qb), .val (.int qc), .val (.int qd), .val (.int (2 : Int32)), .val (.ref r1), .val (.ref r3), .val (.ref r5), .val (.ref r7), .val (.ref b9), .unset, .unset, .unset, .unset, .unset, .unset] [(.ref r3), (.ref b9)])) rfl (by rw [hml]; rfl) (Steps.refl _) (argsL := [(.ref r3)]) (rest := []) (lenOf pd__28Ljava_2flang_2fObject_3b_29Z rfl) rfl (by show 2 * 0 + _ ≤ _; exact Nat.le_of_eq rfl) (hb hby at_68) (fun _ _ => ⟨rfl, rfl, (by decide : 10 + 0 ≤ _), (by decide : 33 + 0 ≤ _)⟩)
    dsimp only [Pt.U, Pt.locs, Pt.cells, Pt.slots] at X34 l34 y34 z34 st34 hQ34
    obtain ⟨rfl, N34q, K34, o34_0, o34_1, o34_2, o34_3, o34_4⟩ := hQ34
    obtain ⟨clv36, Arv36, -⟩ := id o29_a
    have CH35 := CH30.trans (CHr.keep K34 (allS (Safe.exa hZ7.alike o29_e (by decide) (by decide)) (allS (Safe.arr hZ7.alike Arv36 (by decide)) all0)) CH30.1)
    have Z37 : n0 ≤ T34.heap.size := Nat.le_trans Z31 K34.1
    have Z37h : h0.size ≤ T34.heap.size := Nat.le_trans Z31h K34.1
    have Z37k := Nat.le_trans Z31k K34.1
    obtain ⟨lc34, X34, N34⟩ := own_pack X34 l34 y34 z34 N29 N34q (C := 10) (S' := 33) rfl rfl
    refine own_thrH (a := T34.setTop (mkF m 73 #[.val (.int ct), .val (.int qa), .val (.int qb), .val (.int qc), .val (.int qd), .val (.int (2 : Int32)), .val (.ref r1), .val (.ref r3), .val (.ref r5), .val (.ref r7), .val (.ref b9), .unset, .unset, .unset, .unset, .unset, .unset] [(.int (1 : Int32))])) (fun t kt => st34.trans kt) ?_
    refine own_thrH (a := T34.setTop (mkF m 107 #[.val (.int ct), .val (.int qa), .val (.int qb), .val (.int qc), .val (.int qd), .val (.int (2 : Int32)), .val (.ref r1), .val (.ref r3), .val (.ref r5), .val (.ref r7), .val (.ref b9), .unset, .unset, .unset, .unset, .unset, .unset] [(.int qa)])) (fun t kt => ?_) ?_
    · show Steps p.tables e below (T34.setTop (mkF m 73 #[.val (.int ct), .val (.int qa), .val (.int qb), .val (.int qc), .val (.int qd), .val (.int (2 : Int32)), .val (.ref r1), .val (.ref r3), .val (.ref r5), .val (.ref r7), .val (.ref b9), .unset, .unset, .unset, .unset, .unset, .unset] [(.int (1 : Int32))])) _
      refine XS.pop X34.here hx rfl (hb hby at_73) rfl rfl ?_
      refine XS.iload X34.here hx rfl (hb hby at_74) rfl ?_
      refine XS.iconst X34.here hx rfl (hb hby at_76) ?_
      refine XS.icmpYes X34.here hx rfl (pc0 := 77) (pc' := 90) rfl (hb hby at_77) rfl (tlt (by decide)).1 (by decide) (by decide) ?_
      refine XS.iload X34.here hx rfl (hb hby at_90) rfl ?_
      refine XS.iconst X34.here hx rfl (hb hby at_92) ?_
      refine XS.icmpYes X34.here hx rfl (pc0 := 93) (pc' := 106) rfl (hb hby at_93) rfl (tlt (by decide)).1 (by decide) (by decide) ?_
      refine XS.iloadN X34.here hx rfl (hb hby at_106) rfl ?_
      exact kt
    obtain ⟨_, _, ⟨T38, L38, k38, n38⟩, -, X38, ⟨Lc38, hQ38, l38, y38, z38⟩, st38⟩ := Jvm.LawKit.callS X34 hx (y := (⟨"com/example/tiphys/tiphys/KnowledgeBaseOutOfOrderPinLaw", "key", "(I)I"⟩ : MethodName)) hown7 (mvT hZ7 (hw _ (List.mem_of_getElem? (i := 38) rfl))) (mvT hZ7 (hw _ (List.mem_of_getElem? (i := 39) rfl))) (mvT hZ7 (hw _ (List.mem_of_getElem? (i := 2) rfl))) (mvT hZ7 (hw _ (List.mem_of_getElem? (i := 40) rfl))) (by decide) (backOf (W := 0) (rmK l Z a0 hw [] qa T34.heap n0 Z37) hZ7 (hw _ (List.mem_of_getElem? (i := 40) rfl)) (hw _ (List.mem_of_getElem? (i := 2) rfl)) (by decide) (by decide)) (g := (mkF m 107 #[.val (.int ct), .val (.int qa), .val (.int qb), .val (.int qc), .val (.int qd), .val (.int (2 : Int32)), .val (.ref r1), .val (.ref r3), .val (.ref r5), .val (.ref r7), .val (.ref b9), .unset, .unset, .unset, .unset, .unset, .unset] [(.int qa)])) rfl (by rw [hml]; rfl) (argsL := [(.int qa)]) (rest := []) (lenOf pd__28I_29I rfl) rfl (by show 2 * 0 + _ ≤ _; exact Nat.le_of_eq rfl) (hb hby at_107) (fun _ _ => ⟨rfl, rfl, (by decide : 10 + 0 ≤ _), (by decide : 33 + 0 ≤ _)⟩)
    dsimp only [Pt.U, Pt.locs, Pt.cells, Pt.slots] at X38 l38 y38 z38 st38 hQ38
    obtain ⟨rfl, N38q, e38⟩ := hQ38
    obtain ⟨lc38, X38, N38⟩ := own_pack X38 l38 y38 z38 N34 N38q (C := 10) (S' := 33) rfl rfl
    refine own_thrH (a := T38.setTop (mkF m 110 #[.val (.int ct), .val (.int qa), .val (.int qb), .val (.int qc), .val (.int qd), .val (.int (2 : Int32)), .val (.ref r1), .val (.ref r3), .val (.ref r5), .val (.ref r7), .val (.ref b9), .unset, .unset, .unset, .unset, .unset, .unset] [(.int (f_rmK qa))])) (fun t kt => st38 t kt) ?_
    refine own_thrH (a := T38.setTop (mkF m 113 #[.val (.int ct), .val (.int qa), .val (.int qb), .val (.int qc), .val (.int qd), .val (.int (2 : Int32)), .val (.ref r1), .val (.ref r3), .val (.ref r5), .val (.ref r7), .val (.ref b9), .val (.int (f_rmK qa)), .unset, .unset, .unset, .unset, .unset] [(.int qb)])) (fun t kt => ?_) ?_
    · show Steps p.tables e below (T38.setTop (mkF m 110 #[.val (.int ct), .val (.int qa), .val (.int qb), .val (.int qc), .val (.int qd), .val (.int (2 : Int32)), .val (.ref r1), .val (.ref r3), .val (.ref r5), .val (.ref r7), .val (.ref b9), .unset, .unset, .unset, .unset, .unset, .unset] [(.int (f_rmK qa))])) _
      refine XS.istore X38.here hx rfl (hb hby at_110) rfl (l' := #[.val (.int ct), .val (.int qa), .val (.int qb), .val (.int qc), .val (.int qd), .val (.int (2 : Int32)), .val (.ref r1), .val (.ref r3), .val (.ref r5), .val (.ref r7), .val (.ref b9), .val (.int (f_rmK qa)), .unset, .unset, .unset, .unset, .unset]) rfl ?_
      refine XS.iloadN X38.here hx rfl (hb hby at_112) rfl ?_
      exact kt
    obtain ⟨_, _, ⟨T39, L39, k39, n39⟩, -, X39, ⟨Lc39, hQ39, l39, y39, z39⟩, st39⟩ := Jvm.LawKit.callS X38 hx (y := (⟨"com/example/tiphys/tiphys/KnowledgeBaseOutOfOrderPinLaw", "key", "(I)I"⟩ : MethodName)) hown7 (mvT hZ7 (hw _ (List.mem_of_getElem? (i := 38) rfl))) (mvT hZ7 (hw _ (List.mem_of_getElem? (i := 39) rfl))) (mvT hZ7 (hw _ (List.mem_of_getElem? (i := 2) rfl))) (mvT hZ7 (hw _ (List.mem_of_getElem? (i := 40) rfl))) (by decide) (backOf (W := 0) (rmK l Z a0 hw [] qb T34.heap n0 Z37) hZ7 (hw _ (List.mem_of_getElem? (i := 40) rfl)) (hw _ (List.mem_of_getElem? (i := 2) rfl)) (by decide) (by decide)) (g := (mkF m 113 #[.val (.int ct), .val (.int qa), .val (.int qb), .val (.int qc), .val (.int qd), .val (.int (2 : Int32)), .val (.ref r1), .val (.ref r3), .val (.ref r5), .val (.ref r7), .val (.ref b9), .val (.int (f_rmK qa)), .unset, .unset, .unset, .unset, .unset] [(.int qb)])) rfl (by rw [hml]; rfl) (argsL := [(.int qb)]) (rest := []) (lenOf pd__28I_29I rfl) rfl (by show 2 * 0 + _ ≤ _; exact Nat.le_of_eq rfl) (hb hby at_113) (fun _ _ => ⟨rfl, e38, (by decide : 10 + 0 ≤ _), (by decide : 33 + 0 ≤ _)⟩)
    dsimp only [Pt.U, Pt.locs, Pt.cells, Pt.slots] at X39 l39 y39 z39 st39 hQ39
    obtain ⟨rfl, N39q, e39⟩ := hQ39
    obtain ⟨lc39, X39, N39⟩ := own_pack X39 l39 y39 z39 N38 N39q (C := 10) (S' := 33) rfl rfl
    refine own_thrH (a := T39.setTop (mkF m 116 #[.val (.int ct), .val (.int qa), .val (.int qb), .val (.int qc), .val (.int qd), .val (.int (2 : Int32)), .val (.ref r1), .val (.ref r3), .val (.ref r5), .val (.ref r7), .val (.ref b9), .val (.int (f_rmK qa)), .unset, .unset, .unset, .unset, .unset] [(.int (f_rmK qb))])) (fun t kt => st39 t kt) ?_
    refine own_thrH (a := T39.setTop (mkF m 119 #[.val (.int ct), .val (.int qa), .val (.int qb), .val (.int qc), .val (.int qd), .val (.int (2 : Int32)), .val (.ref r1), .val (.ref r3), .val (.ref r5), .val (.ref r7), .val (.ref b9), .val (.int (f_rmK qa)), .val (.int (f_rmK qb)), .unset, .unset, .unset, .unset] [(.int qc)])) (fun t kt => ?_) ?_
    · show Steps p.tables e below (T39.setTop (mkF m 116 #[.val (.int ct), .val (.int qa), .val (.int qb), .val (.int qc), .val (.int qd), .val (.int (2 : Int32)), .val (.ref r1), .val (.ref r3), .val (.ref r5), .val (.ref r7), .val (.ref b9), .val (.int (f_rmK qa)), .unset, .unset, .unset, .unset, .unset] [(.int (f_rmK qb))])) _
      refine XS.istore X39.here hx rfl (hb hby at_116) rfl (l' := #[.val (.int ct), .val (.int qa), .val (.int qb), .val (.int qc), .val (.int qd), .val (.int (2 : Int32)), .val (.ref r1), .val (.ref r3), .val (.ref r5), .val (.ref r7), .val (.ref b9), .val (.int (f_rmK qa)), .val (.int (f_rmK qb)), .unset, .unset, .unset, .unset]) rfl ?_
      refine XS.iloadN X39.here hx rfl (hb hby at_118) rfl ?_
      exact kt
    obtain ⟨_, _, ⟨T40, L40, k40, n40⟩, -, X40, ⟨Lc40, hQ40, l40, y40, z40⟩, st40⟩ := Jvm.LawKit.callS X39 hx (y := (⟨"com/example/tiphys/tiphys/KnowledgeBaseOutOfOrderPinLaw", "key", "(I)I"⟩ : MethodName)) hown7 (mvT hZ7 (hw _ (List.mem_of_getElem? (i := 38) rfl))) (mvT hZ7 (hw _ (List.mem_of_getElem? (i := 39) rfl))) (mvT hZ7 (hw _ (List.mem_of_getElem? (i := 2) rfl))) (mvT hZ7 (hw _ (List.mem_of_getElem? (i := 40) rfl))) (by decide) (backOf (W := 0) (rmK l Z a0 hw [] qc T34.heap n0 Z37) hZ7 (hw _ (List.mem_of_getElem? (i := 40) rfl)) (hw _ (List.mem_of_getElem? (i := 2) rfl)) (by decide) (by decide)) (g := (mkF m 119 #[.val (.int ct), .val (.int qa), .val (.int qb), .val (.int qc), .val (.int qd), .val (.int (2 : Int32)), .val (.ref r1), .val (.ref r3), .val (.ref r5), .val (.ref r7), .val (.ref b9), .val (.int (f_rmK qa)), .val (.int (f_rmK qb)), .unset, .unset, .unset, .unset] [(.int qc)])) rfl (by rw [hml]; rfl) (argsL := [(.int qc)]) (rest := []) (lenOf pd__28I_29I rfl) rfl (by show 2 * 0 + _ ≤ _; exact Nat.le_of_eq rfl) (hb hby at_119) (fun _ _ => ⟨rfl, e39, (by decide : 10 + 0 ≤ _), (by decide : 33 + 0 ≤ _)⟩)
    dsimp only [Pt.U, Pt.locs, Pt.cells, Pt.slots] at X40 l40 y40 z40 st40 hQ40
    obtain ⟨rfl, N40q, e40⟩ := hQ40
    obtain ⟨lc40, X40, N40⟩ := own_pack X40 l40 y40 z40 N39 N40q (C := 10) (S' := 33) rfl rfl
    refine own_thrH (a := T40.setTop (mkF m 122 #[.val (.int ct), .val (.int qa), .val (.int qb), .val (.int qc), .val (.int qd), .val (.int (2 : Int32)), .val (.ref r1), .val (.ref r3), .val (.ref r5), .val (.ref r7), .val (.ref b9), .val (.int (f_rmK qa)), .val (.int (f_rmK qb)), .unset, .unset, .unset, .unset] [(.int (f_rmK qc))])) (fun t kt => st40 t kt) ?_
    refine own_thrH (a := T40.setTop (mkF m 126 #[.val (.int ct), .val (.int qa), .val (.int qb), .val (.int qc), .val (.int qd), .val (.int (2 : Int32)), .val (.ref r1), .val (.ref r3), .val (.ref r5), .val (.ref r7), .val (.ref b9), .val (.int (f_rmK qa)), .val (.int (f_rmK qb)), .val (.int (f_rmK qc)), .unset, .unset, .unset] [(.int qd)])) (fun t kt => ?_) ?_
    · show Steps p.tables e below (T40.setTop (mkF m 122 #[.val (.int ct), .val (.int qa), .val (.int qb), .val (.int qc), .val (.int qd), .val (.int (2 : Int32)), .val (.ref r1), .val (.ref r3), .val (.ref r5), .val (.ref r7), .val (.ref b9), .val (.int (f_rmK qa)), .val (.int (f_rmK qb)), .unset, .unset, .unset, .unset] [(.int (f_rmK qc))])) _
      refine XS.istore X40.here hx rfl (hb hby at_122) rfl (l' := #[.val (.int ct), .val (.int qa), .val (.int qb), .val (.int qc), .val (.int qd), .val (.int (2 : Int32)), .val (.ref r1), .val (.ref r3), .val (.ref r5), .val (.ref r7), .val (.ref b9), .val (.int (f_rmK qa)), .val (.int (f_rmK qb)), .val (.int (f_rmK qc)), .unset, .unset, .unset]) rfl ?_
      refine XS.iload X40.here hx rfl (hb hby at_124) rfl ?_
      exact kt
    obtain ⟨_, _, ⟨T41, L41, k41, n41⟩, -, X41, ⟨Lc41, hQ41, l41, y41, z41⟩, st41⟩ := Jvm.LawKit.callS X40 hx (y := (⟨"com/example/tiphys/tiphys/KnowledgeBaseOutOfOrderPinLaw", "key", "(I)I"⟩ : MethodName)) hown7 (mvT hZ7 (hw _ (List.mem_of_getElem? (i := 38) rfl))) (mvT hZ7 (hw _ (List.mem_of_getElem? (i := 39) rfl))) (mvT hZ7 (hw _ (List.mem_of_getElem? (i := 2) rfl))) (mvT hZ7 (hw _ (List.mem_of_getElem? (i := 40) rfl))) (by decide) (backOf (W := 0) (rmK l Z a0 hw [] qd T34.heap n0 Z37) hZ7 (hw _ (List.mem_of_getElem? (i := 40) rfl)) (hw _ (List.mem_of_getElem? (i := 2) rfl)) (by decide) (by decide)) (g := (mkF m 126 #[.val (.int ct), .val (.int qa), .val (.int qb), .val (.int qc), .val (.int qd), .val (.int (2 : Int32)), .val (.ref r1), .val (.ref r3), .val (.ref r5), .val (.ref r7), .val (.ref b9), .val (.int (f_rmK qa)), .val (.int (f_rmK qb)), .val (.int (f_rmK qc)), .unset, .unset, .unset] [(.int qd)])) rfl (by rw [hml]; rfl) (argsL := [(.int qd)]) (rest := []) (lenOf pd__28I_29I rfl) rfl (by show 2 * 0 + _ ≤ _; exact Nat.le_of_eq rfl) (hb hby at_126) (fun _ _ => ⟨rfl, e40, (by decide : 10 + 0 ≤ _), (by decide : 33 + 0 ≤ _)⟩)
    dsimp only [Pt.U, Pt.locs, Pt.cells, Pt.slots] at X41 l41 y41 z41 st41 hQ41
    obtain ⟨rfl, N41q, e41⟩ := hQ41
    obtain ⟨lc41, X41, N41⟩ := own_pack X41 l41 y41 z41 N40 N41q (C := 10) (S' := 33) rfl rfl
    refine own_thrH (a := T41.setTop (mkF m 129 #[.val (.int ct), .val (.int qa), .val (.int qb), .val (.int qc), .val (.int qd), .val (.int (2 : Int32)), .val (.ref r1), .val (.ref r3), .val (.ref r5), .val (.ref r7), .val (.ref b9), .val (.int (f_rmK qa)), .val (.int (f_rmK qb)), .val (.int (f_rmK qc)), .unset, .unset, .unset] [(.int (f_rmK qd))])) (fun t kt => st41 t kt) ?_
    refine own_thrH (a := T41.setTop (mkF m 144 #[.val (.int ct), .val (.int qa), .val (.int qb), .val (.int qc), .val (.int qd), .val (.int (2 : Int32)), .val (.ref r1), .val (.ref r3), .val (.ref r5), .val (.ref r7), .val (.ref b9), .val (.int (f_rmK qa)), .val (.int (f_rmK qb)), .val (.int (f_rmK qc)), .val (.int (f_rmK qd)), .val (.int (-1 : Int32)), .unset] [(.int (f_rmK qb)), (.int (f_rmK qa))])) (fun t kt => ?_) ?_
    · show Steps p.tables e below (T41.setTop (mkF m 129 #[.val (.int ct), .val (.int qa), .val (.int qb), .val (.int qc), .val (.int qd), .val (.int (2 : Int32)), .val (.ref r1), .val (.ref r3), .val (.ref r5), .val (.ref r7), .val (.ref b9), .val (.int (f_rmK qa)), .val (.int (f_rmK qb)), .val (.int (f_rmK qc)), .unset, .unset, .unset] [(.int (f_rmK qd))])) _
      refine XS.istore X41.here hx rfl (hb hby at_129) rfl (l' := #[.val (.int ct), .val (.int qa), .val (.int qb), .val (.int qc), .val (.int qd), .val (.int (2 : Int32)), .val (.ref r1), .val (.ref r3), .val (.ref r5), .val (.ref r7), .val (.ref b9), .val (.int (f_rmK qa)), .val (.int (f_rmK qb)), .val (.int (f_rmK qc)), .val (.int (f_rmK qd)), .unset, .unset]) rfl ?_
      refine XS.iconst X41.here hx rfl (hb hby at_131) ?_
      refine XS.istore X41.here hx rfl (hb hby at_132) rfl (l' := #[.val (.int ct), .val (.int qa), .val (.int qb), .val (.int qc), .val (.int qd), .val (.int (2 : Int32)), .val (.ref r1), .val (.ref r3), .val (.ref r5), .val (.ref r7), .val (.ref b9), .val (.int (f_rmK qa)), .val (.int (f_rmK qb)), .val (.int (f_rmK qc)), .val (.int (f_rmK qd)), .val (.int (-1 : Int32)), .unset]) rfl ?_
      refine XS.iload X41.here hx rfl (hb hby at_134) rfl ?_
      refine XS.iconst X41.here hx rfl (hb hby at_136) ?_
      refine XS.icmpNo X41.here hx rfl (hb hby at_137) rfl (flt (by decide)).1 ?_
      refine XS.iload X41.here hx rfl (hb hby at_140) rfl ?_
      refine XS.iload X41.here hx rfl (hb hby at_142) rfl ?_
      exact kt
    by_cases hc42 : (f_rmK qa) < (f_rmK qb)
    · have c43 := ((((bS0.ext E9).keep K12 (allS (Nat.le_of_eq g9.symm) all0)).keep K29 (allS (Nat.le_of_eq g9.symm) all0)).keep K34 (allS (Nat.le_of_eq g9.symm) (allS gB_B29 all0)))
      have c44 := (c33.keep K34 (allS (Nat.le_of_eq g9.symm) (allS gB_B29 all0)))
      have c45 := (((c13.keep K12 (allS g_b9 all0)).keep K29 (allS g_b9 all0)).keep K34 (allS g_b9 (allS g_B29 all0)))
      refine own_thrH (a := T41.setTop (mkF m 190 #[.val (.int ct), .val (.int qa), .val (.int qb), .val (.int qc), .val (.int qd), .val (.int (2 : Int32)), .val (.ref r1), .val (.ref r3), .val (.ref r5), .val (.ref r7), .val (.ref b9), .val (.int (f_rmK qa)), .val (.int (f_rmK qb)), .val (.int (f_rmK qc)), .val (.int (f_rmK qd)), .val (.int (-1 : Int32)), .unset] [(.ref b9)])) (fun t kt => ?_) ?_
      · show Steps p.tables e below (T41.setTop (mkF m 144 #[.val (.int ct), .val (.int qa), .val (.int qb), .val (.int qc), .val (.int qd), .val (.int (2 : Int32)), .val (.ref r1), .val (.ref r3), .val (.ref r5), .val (.ref r7), .val (.ref b9), .val (.int (f_rmK qa)), .val (.int (f_rmK qb)), .val (.int (f_rmK qc)), .val (.int (f_rmK qd)), .val (.int (-1 : Int32)), .unset] [(.int (f_rmK qb)), (.int (f_rmK qa))])) _
        refine XS.icmpYes X41.here hx rfl (pc0 := 144) (pc' := 153) rfl (hb hby at_144) rfl (tlt hc42).1 (by decide) (by decide) ?_
        refine XS.iload X41.here hx rfl (hb hby at_153) rfl ?_
        refine XS.iconst X41.here hx rfl (hb hby at_155) ?_
        refine XS.icmpYes X41.here hx rfl (pc0 := 156) (pc' := 172) rfl (hb hby at_156) rfl (tlt (by decide)).1 (by decide) (by decide) ?_
        refine XS.iload X41.here hx rfl (hb hby at_172) rfl ?_
        refine XS.iconst X41.here hx rfl (hb hby at_174) ?_
        refine XS.icmpYes X41.here hx rfl (pc0 := 175) (pc' := 188) rfl (hb hby at_175) rfl (tlt (by decide)).1 (by decide) (by decide) ?_
        refine XS.aload X41.here hx rfl (hb hby at_188) rfl rfl ?_
        exact kt
      obtain ⟨_, _, ⟨T46, L46, k46, n46⟩, -, X46, ⟨Lc46, hQ46, l46, y46, z46⟩, st46⟩ := Jvm.LawKit.callS X41 hx (y := (⟨"com/example/tiphys/tiphys/KnowledgeBase", "outOfOrder", "(Ljava/util/List;)I"⟩ : MethodName)) hown7 (mvT hZ7 (hw _ (List.mem_of_getElem? (i := 41) rfl))) (mvT hZ7 (hw _ (List.mem_of_getElem? (i := 42) rfl))) (mvT hZ7 (hw _ (List.mem_of_getElem? (i := 43) rfl))) (mvT hZ7 (hw _ (List.mem_of_getElem? (i := 44) rfl))) (by decide) (backOf (W := 0) (rmO2 l Z a0 hw [] b9 B29 ke29 r1 r3 (f_rmK qa) (f_rmK qb) cs fm T34.heap n0 Z37 o34_0 o34_3 o34_2 o34_4 c43.un c44.un S_cs hcs S_fm hfm c45) hZ7 (hw _ (List.mem_of_getElem? (i := 44) rfl)) (hw _ (List.mem_of_getElem? (i := 43) rfl)) (by decide) (by decide)) (g := (mkF m 190 #[.val (.int ct), .val (.int qa), .val (.int qb), .val (.int qc), .val (.int qd), .val (.int (2 : Int32)), .val (.ref r1), .val (.ref r3), .val (.ref r5), .val (.ref r7), .val (.ref b9), .val (.int (f_rmK qa)), .val (.int (f_rmK qb)), .val (.int (f_rmK qc)), .val (.int (f_rmK qd)), .val (.int (-1 : Int32)), .unset] [(.ref b9)])) rfl (by rw [hml]; rfl) (argsL := [(.ref b9)]) (rest := []) (lenOf pd__28Ljava_2futil_2fList_3b_29I rfl) rfl (by show 2 * 0 + _ ≤ _; exact Nat.le_of_eq rfl) (hb hby at_190) (fun _ _ => ⟨rfl, e41, (by decide : 10 + 0 ≤ _), (by decide : 33 + 0 ≤ _)⟩)
      dsimp only [Pt.U, Pt.locs, Pt.cells, Pt.slots] at X46 l46 y46 z46 st46 hQ46
      obtain ⟨rfl, N46q, e46⟩ := hQ46
      obtain ⟨lc46, X46, N46⟩ := own_pack X46 l46 y46 z46 N41 N46q (C := 10) (S' := 33) rfl rfl
      refine own_thrH (a := T46.setTop (mkF m 193 #[.val (.int ct), .val (.int qa), .val (.int qb), .val (.int qc), .val (.int qd), .val (.int (2 : Int32)), .val (.ref r1), .val (.ref r3), .val (.ref r5), .val (.ref r7), .val (.ref b9), .val (.int (f_rmK qa)), .val (.int (f_rmK qb)), .val (.int (f_rmK qc)), .val (.int (f_rmK qd)), .val (.int (-1 : Int32)), .unset] [(.int (f_rmO2 b9 B29 ke29 r1 r3 (f_rmK qa) (f_rmK qb) cs fm))])) (fun t kt => st46 t kt) ?_
      refine own_thrH (a := T46.setTop (mkF m 207 #[.val (.int ct), .val (.int qa), .val (.int qb), .val (.int qc), .val (.int qd), .val (.int (2 : Int32)), .val (.ref r1), .val (.ref r3), .val (.ref r5), .val (.ref r7), .val (.ref b9), .val (.int (f_rmK qa)), .val (.int (f_rmK qb)), .val (.int (f_rmK qc)), .val (.int (f_rmK qd)), .val (.int (-1 : Int32)), .val (.int (f_rmO2 b9 B29 ke29 r1 r3 (f_rmK qa) (f_rmK qb) cs fm))] [(.int (1 : Int32))])) (fun t kt => ?_) ?_
      · show Steps p.tables e below (T46.setTop (mkF m 193 #[.val (.int ct), .val (.int qa), .val (.int qb), .val (.int qc), .val (.int qd), .val (.int (2 : Int32)), .val (.ref r1), .val (.ref r3), .val (.ref r5), .val (.ref r7), .val (.ref b9), .val (.int (f_rmK qa)), .val (.int (f_rmK qb)), .val (.int (f_rmK qc)), .val (.int (f_rmK qd)), .val (.int (-1 : Int32)), .unset] [(.int (f_rmO2 b9 B29 ke29 r1 r3 (f_rmK qa) (f_rmK qb) cs fm))])) _
        refine XS.istore X46.here hx rfl (hb hby at_193) rfl (l' := #[.val (.int ct), .val (.int qa), .val (.int qb), .val (.int qc), .val (.int qd), .val (.int (2 : Int32)), .val (.ref r1), .val (.ref r3), .val (.ref r5), .val (.ref r7), .val (.ref b9), .val (.int (f_rmK qa)), .val (.int (f_rmK qb)), .val (.int (f_rmK qc)), .val (.int (f_rmK qd)), .val (.int (-1 : Int32)), .val (.int (f_rmO2 b9 B29 ke29 r1 r3 (f_rmK qa) (f_rmK qb) cs fm))]) rfl ?_
        refine XS.iload X46.here hx rfl (hb hby at_195) rfl ?_
        refine XS.iload X46.here hx rfl (hb hby at_197) rfl ?_
        refine XS.icmpNo X46.here hx rfl (hb hby at_199) rfl (teq (by rw [f_rmO2, if_pos ((own_ic _ _).mpr hc42)])).2 ?_
        refine XS.iconst X46.here hx rfl (hb hby at_202) ?_
        refine XS.goto X46.here hx rfl (pc0 := 203) (pc' := 207) rfl (hb hby at_203) (by decide) (by decide) ?_
        exact kt
      exact own_endH X46 hS7 (by rw [e46]; exact Z37k) hZ7 hEL CH35 hh e46 hlk (v := some (.int (1 : Int32))) (fun h => by rw [Bd.returns] at h; cases h) (fun fs hr => retN X46 hx (t := .boolean) Bd.returns (by simp) (hb hby at_207) hr) ⟨rfl, N46⟩ (by decide : 10 ≤ _) (by decide : 33 ≤ _)
    · have c47 := ((((bS0.ext E9).keep K12 (allS (Nat.le_of_eq g9.symm) all0)).keep K29 (allS (Nat.le_of_eq g9.symm) all0)).keep K34 (allS (Nat.le_of_eq g9.symm) (allS gB_B29 all0)))
      have c48 := (c33.keep K34 (allS (Nat.le_of_eq g9.symm) (allS gB_B29 all0)))
      have c49 := (((c13.keep K12 (allS g_b9 all0)).keep K29 (allS g_b9 all0)).keep K34 (allS g_b9 (allS g_B29 all0)))
      refine own_thrH (a := T41.setTop (mkF m 190 #[.val (.int ct), .val (.int qa), .val (.int qb), .val (.int qc), .val (.int qd), .val (.int (2 : Int32)), .val (.ref r1), .val (.ref r3), .val (.ref r5), .val (.ref r7), .val (.ref b9), .val (.int (f_rmK qa)), .val (.int (f_rmK qb)), .val (.int (f_rmK qc)), .val (.int (f_rmK qd)), .val (.int (1 : Int32)), .unset] [(.ref b9)])) (fun t kt => ?_) ?_
      · show Steps p.tables e below (T41.setTop (mkF m 144 #[.val (.int ct), .val (.int qa), .val (.int qb), .val (.int qc), .val (.int qd), .val (.int (2 : Int32)), .val (.ref r1), .val (.ref r3), .val (.ref r5), .val (.ref r7), .val (.ref b9), .val (.int (f_rmK qa)), .val (.int (f_rmK qb)), .val (.int (f_rmK qc)), .val (.int (f_rmK qd)), .val (.int (-1 : Int32)), .unset] [(.int (f_rmK qb)), (.int (f_rmK qa))])) _
        refine XS.icmpNo X41.here hx rfl (hb hby at_144) rfl (flt hc42).1 ?_
        refine XS.iconst X41.here hx rfl (hb hby at_147) ?_
        refine XS.istore X41.here hx rfl (hb hby at_148) rfl (l' := #[.val (.int ct), .val (.int qa), .val (.int qb), .val (.int qc), .val (.int qd), .val (.int (2 : Int32)), .val (.ref r1), .val (.ref r3), .val (.ref r5), .val (.ref r7), .val (.ref b9), .val (.int (f_rmK qa)), .val (.int (f_rmK qb)), .val (.int (f_rmK qc)), .val (.int (f_rmK qd)), .val (.int (1 : Int32)), .unset]) rfl ?_
        refine XS.goto X41.here hx rfl (pc0 := 150) (pc' := 188) rfl (hb hby at_150) (by decide) (by decide) ?_
        refine XS.aload X41.here hx rfl (hb hby at_188) rfl rfl ?_
        exact kt
      obtain ⟨_, _, ⟨T50, L50, k50, n50⟩, -, X50, ⟨Lc50, hQ50, l50, y50, z50⟩, st50⟩ := Jvm.LawKit.callS X41 hx (y := (⟨"com/example/tiphys/tiphys/KnowledgeBase", "outOfOrder", "(Ljava/util/List;)I"⟩ : MethodName)) hown7 (mvT hZ7 (hw _ (List.mem_of_getElem? (i := 41) rfl))) (mvT hZ7 (hw _ (List.mem_of_getElem? (i := 42) rfl))) (mvT hZ7 (hw _ (List.mem_of_getElem? (i := 43) rfl))) (mvT hZ7 (hw _ (List.mem_of_getElem? (i := 44) rfl))) (by decide) (backOf (W := 0) (rmO2 l Z a0 hw [] b9 B29 ke29 r1 r3 (f_rmK qa) (f_rmK qb) cs fm T34.heap n0 Z37 o34_0 o34_3 o34_2 o34_4 c47.un c48.un S_cs hcs S_fm hfm c49) hZ7 (hw _ (List.mem_of_getElem? (i := 44) rfl)) (hw _ (List.mem_of_getElem? (i := 43) rfl)) (by decide) (by decide)) (g := (mkF m 190 #[.val (.int ct), .val (.int qa), .val (.int qb), .val (.int qc), .val (.int qd), .val (.int (2 : Int32)), .val (.ref r1), .val (.ref r3), .val (.ref r5), .val (.ref r7), .val (.ref b9), .val (.int (f_rmK qa)), .val (.int (f_rmK qb)), .val (.int (f_rmK qc)), .val (.int (f_rmK qd)), .val (.int (1 : Int32)), .unset] [(.ref b9)])) rfl (by rw [hml]; rfl) (argsL := [(.ref b9)]) (rest := []) (lenOf pd__28Ljava_2futil_2fList_3b_29I rfl) rfl (by show 2 * 0 + _ ≤ _; exact Nat.le_of_eq rfl) (hb hby at_190) (fun _ _ => ⟨rfl, e41, (by decide : 10 + 0 ≤ _), (by decide : 33 + 0 ≤ _)⟩)
      dsimp only [Pt.U, Pt.locs, Pt.cells, Pt.slots] at X50 l50 y50 z50 st50 hQ50
      obtain ⟨rfl, N50q, e50⟩ := hQ50
      obtain ⟨lc50, X50, N50⟩ := own_pack X50 l50 y50 z50 N41 N50q (C := 10) (S' := 33) rfl rfl
      refine own_thrH (a := T50.setTop (mkF m 193 #[.val (.int ct), .val (.int qa), .val (.int qb), .val (.int qc), .val (.int qd), .val (.int (2 : Int32)), .val (.ref r1), .val (.ref r3), .val (.ref r5), .val (.ref r7), .val (.ref b9), .val (.int (f_rmK qa)), .val (.int (f_rmK qb)), .val (.int (f_rmK qc)), .val (.int (f_rmK qd)), .val (.int (1 : Int32)), .unset] [(.int (f_rmO2 b9 B29 ke29 r1 r3 (f_rmK qa) (f_rmK qb) cs fm))])) (fun t kt => st50 t kt) ?_
      refine own_thrH (a := T50.setTop (mkF m 207 #[.val (.int ct), .val (.int qa), .val (.int qb), .val (.int qc), .val (.int qd), .val (.int (2 : Int32)), .val (.ref r1), .val (.ref r3), .val (.ref r5), .val (.ref r7), .val (.ref b9), .val (.int (f_rmK qa)), .val (.int (f_rmK qb)), .val (.int (f_rmK qc)), .val (.int (f_rmK qd)), .val (.int (1 : Int32)), .val (.int (f_rmO2 b9 B29 ke29 r1 r3 (f_rmK qa) (f_rmK qb) cs fm))] [(.int (1 : Int32))])) (fun t kt => ?_) ?_
      · show Steps p.tables e below (T50.setTop (mkF m 193 #[.val (.int ct), .val (.int qa), .val (.int qb), .val (.int qc), .val (.int qd), .val (.int (2 : Int32)), .val (.ref r1), .val (.ref r3), .val (.ref r5), .val (.ref r7), .val (.ref b9), .val (.int (f_rmK qa)), .val (.int (f_rmK qb)), .val (.int (f_rmK qc)), .val (.int (f_rmK qd)), .val (.int (1 : Int32)), .unset] [(.int (f_rmO2 b9 B29 ke29 r1 r3 (f_rmK qa) (f_rmK qb) cs fm))])) _
        refine XS.istore X50.here hx rfl (hb hby at_193) rfl (l' := #[.val (.int ct), .val (.int qa), .val (.int qb), .val (.int qc), .val (.int qd), .val (.int (2 : Int32)), .val (.ref r1), .val (.ref r3), .val (.ref r5), .val (.ref r7), .val (.ref b9), .val (.int (f_rmK qa)), .val (.int (f_rmK qb)), .val (.int (f_rmK qc)), .val (.int (f_rmK qd)), .val (.int (1 : Int32)), .val (.int (f_rmO2 b9 B29 ke29 r1 r3 (f_rmK qa) (f_rmK qb) cs fm))]) rfl ?_
        refine XS.iload X50.here hx rfl (hb hby at_195) rfl ?_
        refine XS.iload X50.here hx rfl (hb hby at_197) rfl ?_
        refine XS.icmpNo X50.here hx rfl (hb hby at_199) rfl (teq (by rw [f_rmO2, if_neg (fun q => hc42 ((own_ic _ _).mp q))])).2 ?_
        refine XS.iconst X50.here hx rfl (hb hby at_202) ?_
        refine XS.goto X50.here hx rfl (pc0 := 203) (pc' := 207) rfl (hb hby at_203) (by decide) (by decide) ?_
        exact kt
      exact own_endH X50 hS7 (by rw [e50]; exact Z37k) hZ7 hEL CH35 hh e50 hlk (v := some (.int (1 : Int32))) (fun h => by rw [Bd.returns] at h; cases h) (fun fs hr => retN X50 hx (t := .boolean) Bd.returns (by simp) (hb hby at_207) hr) ⟨rfl, N50⟩ (by decide : 10 ≤ _) (by decide : 33 ≤ _)
  · subst hk
    refine own_thrH (a := T12.setTop (mkF m 52 #[.val (.int ct), .val (.int qa), .val (.int qb), .val (.int qc), .val (.int qd), .val (.int (3 : Int32)), .val (.ref r1), .val (.ref r3), .val (.ref r5), .val (.ref r7), .val (.ref b9), .unset, .unset, .unset, .unset, .unset, .unset] [(.ref r1), (.ref b9)])) (fun t kt => ?_) ?_
    · show Steps p.tables e below (T12.setTop (mkF m 42 #[.val (.int ct), .val (.int qa), .val (.int qb), .val (.int qc), .val (.int qd), .val (.int (3 : Int32)), .val (.ref r1), .val (.ref r3), .val (.ref r5), .val (.ref r7), .val (.ref b9), .unset, .unset, .unset, .unset, .unset, .unset] [])) _
      refine XS.iload X12.here hx rfl (hb hby at_42) rfl ?_
      refine XS.iconst X12.here hx rfl (hb hby at_44) ?_
      refine XS.icmpNo X12.here hx rfl (hb hby at_45) rfl (flt (by decide)).1 ?_
      refine XS.aload X12.here hx rfl (hb hby at_48) rfl rfl ?_
      refine XS.aload X12.here hx rfl (hb hby at_50) rfl rfl ?_
      exact kt
    obtain ⟨cq51, kq51, q51a, q51b, q51c⟩ := isOf hZ7 rfl o12_0
    obtain ⟨_, _, ⟨T51, L51, k51, n51⟩, -, X51, ⟨Lc51, hQ51, l51, y51, z51⟩, st51⟩ := X12.interfaceBack hx (xi := (⟨"java/util/List", "add", "(Ljava/lang/Object;)Z"⟩ : MethodName)) (y := (⟨"java/util/ArrayList", "add", "(Ljava/lang/Object;)Z"⟩ : MethodName)) hown7 (mvT hZ7 (hw _ (List.mem_of_getElem? (i := 56) rfl))) (mvT hZ7 (hw _ (List.mem_of_getElem? (i := 57) rfl))) (mvT hZ7 (hw _ (List.mem_of_getElem? (i := 58) rfl))) (mvT hZ7 (hw _ (List.mem_of_getElem? (i := 59) rfl))) (mvT hZ7 (hw _ (List.mem_of_getElem? (i := 60) rfl))) (mvT hZ7 (hw _ (List.mem_of_getElem? (i := 61) rfl))) (mvT hZ7 (hw _ (List.mem_of_getElem? (i := 62) rfl))) (mvT hZ7 (hw _ (List.mem_of_getElem? (i := 52) rfl))) (by decide) (backOf (W := 0) (rmA1 l Z a0 hw [] b9 r1 de kd T12.heap n0 Z15 o12_0 o12_1 o12_2 o12_3 S_de V_de (c13.keep K12 (allS g_b9 all0)) g_b9 ((bS0.ext E9).keep K12 (allS (Nat.le_of_eq g9.symm) all0)).un.1) hZ7 (hw _ (List.mem_of_getElem? (i := 63) rfl)) (hw _ (List.mem_of_getElem? (i := 14) rfl)) (by decide) (by decide)) q51a q51b q51c (g := (mkF m 52 #[.val (.int ct), .val (.int qa), .val (.int qb), .val (.int qc), .val (.int qd), .val (.int (3 : Int32)), .val (.ref r1), .val (.ref r3), .val (.ref r5), .val (.ref r7), .val (.ref b9), .unset, .unset, .unset, .unset, .unset, .unset] [(.ref r1), (.ref b9)])) rfl (by rw [hml]; rfl) (Steps.refl _) (argsL := [(.ref r1)]) (rest := []) (lenOf pd__28Ljava_2flang_2fObject_3b_29Z rfl) rfl (by show 2 * 0 + _ ≤ _; exact Nat.le_of_eq rfl) (hb hby at_52) (fun _ _ => ⟨rfl, rfl, (by decide : 9 + 1 ≤ _), (by decide : 23 + 10 ≤ _)⟩)
    dsimp only [Pt.U, Pt.locs, Pt.cells, Pt.slots] at X51 l51 y51 z51 st51 hQ51
    obtain ⟨B51, ke51, rfl, N51q, K51, o51_e, o51_m, o51_d, o51_s, o51_a, o51_o, hB51⟩ := hQ51
    have ne_b9_B51 : b9 ≠ B51 := Nat.ne_of_lt (Nat.lt_of_lt_of_le o12_0.lt hB51)
    have g_B51 : n0 ≤ B51 := Nat.le_trans Z15 hB51
    have sz_B51 : h0.size ≤ B51 := Nat.le_trans Z15h hB51
    have gB_B51 := Nat.le_trans (Nat.le_of_eq g9.symm) (Nat.le_of_lt (Nat.lt_of_lt_of_le o12_0.lt hB51))
    have CH52 := CH14.trans (CHr.keep K51 (allS (Safe.exa hZ7.alike o12_0 (by decide) (by decide)) all0) CH14.1)
    have Z53 : n0 ≤ T51.heap.size := Nat.le_trans Z15 K51.1
    have Z53h : h0.size ≤ T51.heap.size := Nat.le_trans Z15h K51.1
    have Z53k := Nat.le_trans Z15k K51.1
    obtain ⟨lc51, X51, N51⟩ := own_pack X51 l51 y51 z51 N12 N51q (C := 10) (S' := 33) rfl rfl
    refine own_thrH (a := T51.setTop (mkF m 57 #[.val (.int ct), .val (.int qa), .val (.int qb), .val (.int qc), .val (.int qd), .val (.int (3 : Int32)), .val (.ref r1), .val (.ref r3), .val (.ref r5), .val (.ref r7), .val (.ref b9), .unset, .unset, .unset, .unset, .unset, .unset] [(.int (1 : Int32))])) (fun t kt => st51.trans kt) ?_
    have c55 := (((bS1.ext E9).keep K12 (allS (Nat.le_of_eq g9.symm) all0)).keep K51 (allS (Nat.le_of_eq g9.symm) all0))
    have er54 := c55.un.1
    refine own_thrH (a := T51.setTop (mkF m 68 #[.val (.int ct), .val (.int qa), .val (.int qb), .val (.int qc), .val (.int qd), .val (.int (3 : Int32)), .val (.ref r1), .val (.ref r3), .val (.ref r5), .val (.ref r7), .val (.ref b9), .unset, .unset, .unset, .unset, .unset, .unset] [(.ref r3), (.ref b9)])) (fun t kt => ?_) ?_
    · show Steps p.tables e below (T51.setTop (mkF m 57 #[.val (.int ct), .val (.int qa), .val (.int qb), .val (.int qc), .val (.int qd), .val (.int (3 : Int32)), .val (.ref r1), .val (.ref r3), .val (.ref r5), .val (.ref r7), .val (.ref b9), .unset, .unset, .unset, .unset, .unset, .unset] [(.int (1 : Int32))])) _
      refine XS.pop X51.here hx rfl (hb hby at_57) rfl rfl ?_
      refine XS.iload X51.here hx rfl (hb hby at_58) rfl ?_
      refine XS.iconst X51.here hx rfl (hb hby at_60) ?_
      refine XS.icmpNo X51.here hx rfl (hb hby at_61) rfl (flt (by decide)).1 ?_
      refine XS.aload X51.here hx rfl (hb hby at_64) rfl rfl ?_
      refine XS.aload X51.here hx rfl (hb hby at_66) rfl rfl ?_
      exact kt
    obtain ⟨cq56, kq56, q56a, q56b, q56c⟩ := isOf hZ7 rfl o51_e
    obtain ⟨_, _, ⟨T56, L56, k56, n56⟩, -, X56, ⟨Lc56, hQ56, l56, y56, z56⟩, st56⟩ := X51.interfaceBack hx (xi := (⟨"java/util/List", "add", "(Ljava/lang/Object;)Z"⟩ : MethodName)) (y := (⟨"java/util/ArrayList", "add", "(Ljava/lang/Object;)Z"⟩ : MethodName)) hown7 (mvT hZ7 (hw _ (List.mem_of_getElem? (i := 56) rfl))) (mvT hZ7 (hw _ (List.mem_of_getElem? (i := 57) rfl))) (mvT hZ7 (hw _ (List.mem_of_getElem? (i := 58) rfl))) (mvT hZ7 (hw _ (List.mem_of_getElem? (i := 59) rfl))) (mvT hZ7 (hw _ (List.mem_of_getElem? (i := 60) rfl))) (mvT hZ7 (hw _ (List.mem_of_getElem? (i := 61) rfl))) (mvT hZ7 (hw _ (List.mem_of_getElem? (i := 62) rfl))) (mvT hZ7 (hw _ (List.mem_of_getElem? (i := 52) rfl))) (by decide) (backOf (W := 0) (rmB11 l Z a0 hw [] b9 r3 B51 ke51 r1 T51.heap n0 Z53 o51_e o51_m o51_d o51_s er54 o51_a g_b9 g_B51 ne_b9_B51 o51_o) hZ7 (hw _ (List.mem_of_getElem? (i := 63) rfl)) (hw _ (List.mem_of_getElem? (i := 14) rfl)) (by decide) (by decide)) q56a q56b q56c (g := (mkF m 68 #[.val (.int ct), .val (.int qa), .val (.int qb), .val (.int qc), .val (.int qd), .val (.int (3 : Int32)), .val (.ref r1), .val (.ref r3), .val (.ref r5), .val (.ref r7), .val (.ref b9), .unset, .unset, .unset, .unset, .unset, .unset] [(.ref r3), (.ref b9)])) rfl (by rw [hml]; rfl) (Steps.refl _) (argsL := [(.ref r3)]) (rest := []) (lenOf pd__28Ljava_2flang_2fObject_3b_29Z rfl) rfl (by show 2 * 0 + _ ≤ _; exact Nat.le_of_eq rfl) (hb hby at_68) (fun _ _ => ⟨rfl, rfl, (by decide : 10 + 0 ≤ _), (by decide : 33 + 0 ≤ _)⟩)
    dsimp only [Pt.U, Pt.locs, Pt.cells, Pt.slots] at X56 l56 y56 z56 st56 hQ56
    obtain ⟨rfl, N56q, K56, o56_0, o56_1, o56_2, o56_3, o56_4⟩ := hQ56
    obtain ⟨clv58, Arv58, -⟩ := id o51_a
    have CH57 := CH52.trans (CHr.keep K56 (allS (Safe.exa hZ7.alike o51_e (by decide) (by decide)) (allS (Safe.arr hZ7.alike Arv58 (by decide)) all0)) CH52.1)
    have Z59 : n0 ≤ T56.heap.size := Nat.le_trans Z53 K56.1
    have Z59h : h0.size ≤ T56.heap.size := Nat.le_trans Z53h K56.1
    have Z59k := Nat.le_trans Z53k K56.1
    obtain ⟨lc56, X56, N56⟩ := own_pack X56 l56 y56 z56 N51 N56q (C := 10) (S' := 33) rfl rfl
    refine own_thrH (a := T56.setTop (mkF m 73 #[.val (.int ct), .val (.int qa), .val (.int qb), .val (.int qc), .val (.int qd), .val (.int (3 : Int32)), .val (.ref r1), .val (.ref r3), .val (.ref r5), .val (.ref r7), .val (.ref b9), .unset, .unset, .unset, .unset, .unset, .unset] [(.int (1 : Int32))])) (fun t kt => st56.trans kt) ?_
    have c61 := ((((bS2.ext E9).keep K12 (allS (Nat.le_of_eq g9.symm) all0)).keep K51 (allS (Nat.le_of_eq g9.symm) all0)).keep K56 (allS (Nat.le_of_eq g9.symm) (allS gB_B51 all0)))
    have er60 := c61.un.1
    refine own_thrH (a := T56.setTop (mkF m 84 #[.val (.int ct), .val (.int qa), .val (.int qb), .val (.int qc), .val (.int qd), .val (.int (3 : Int32)), .val (.ref r1), .val (.ref r3), .val (.ref r5), .val (.ref r7), .val (.ref b9), .unset, .unset, .unset, .unset, .unset, .unset] [(.ref r5), (.ref b9)])) (fun t kt => ?_) ?_
    · show Steps p.tables e below (T56.setTop (mkF m 73 #[.val (.int ct), .val (.int qa), .val (.int qb), .val (.int qc), .val (.int qd), .val (.int (3 : Int32)), .val (.ref r1), .val (.ref r3), .val (.ref r5), .val (.ref r7), .val (.ref b9), .unset, .unset, .unset, .unset, .unset, .unset] [(.int (1 : Int32))])) _
      refine XS.pop X56.here hx rfl (hb hby at_73) rfl rfl ?_
      refine XS.iload X56.here hx rfl (hb hby at_74) rfl ?_
      refine XS.iconst X56.here hx rfl (hb hby at_76) ?_
      refine XS.icmpNo X56.here hx rfl (hb hby at_77) rfl (flt (by decide)).1 ?_
      refine XS.aload X56.here hx rfl (hb hby at_80) rfl rfl ?_
      refine XS.aload X56.here hx rfl (hb hby at_82) rfl rfl ?_
      exact kt
    obtain ⟨cq62, kq62, q62a, q62b, q62c⟩ := isOf hZ7 rfl o56_0
    obtain ⟨_, _, ⟨T62, L62, k62, n62⟩, -, X62, ⟨Lc62, hQ62, l62, y62, z62⟩, st62⟩ := X56.interfaceBack hx (xi := (⟨"java/util/List", "add", "(Ljava/lang/Object;)Z"⟩ : MethodName)) (y := (⟨"java/util/ArrayList", "add", "(Ljava/lang/Object;)Z"⟩ : MethodName)) hown7 (mvT hZ7 (hw _ (List.mem_of_getElem? (i := 56) rfl))) (mvT hZ7 (hw _ (List.mem_of_getElem? (i := 57) rfl))) (mvT hZ7 (hw _ (List.mem_of_getElem? (i := 58) rfl))) (mvT hZ7 (hw _ (List.mem_of_getElem? (i := 59) rfl))) (mvT hZ7 (hw _ (List.mem_of_getElem? (i := 60) rfl))) (mvT hZ7 (hw _ (List.mem_of_getElem? (i := 61) rfl))) (mvT hZ7 (hw _ (List.mem_of_getElem? (i := 62) rfl))) (mvT hZ7 (hw _ (List.mem_of_getElem? (i := 52) rfl))) (by decide) (backOf (W := 0) (rmB12 l Z a0 hw [] b9 r5 B51 ke51 r1 r3 T56.heap n0 Z59 o56_0 o56_1 o56_2 o56_3 er60 o56_4 g_b9 g_B51 ne_b9_B51 o51_o) hZ7 (hw _ (List.mem_of_getElem? (i := 63) rfl)) (hw _ (List.mem_of_getElem? (i := 14) rfl)) (by decide) (by decide)) q62a q62b q62c (g := (mkF m 84 #[.val (.int ct), .val (.int qa), .val (.int qb), .val (.int qc), .val (.int qd), .val (.int (3 : Int32)), .val (.ref r1), .val (.ref r3), .val (.ref r5), .val (.ref r7), .val (.ref b9), .unset, .unset, .unset, .unset, .unset, .unset] [(.ref r5), (.ref b9)])) rfl (by rw [hml]; rfl) (Steps.refl _) (argsL := [(.ref r5)]) (rest := []) (lenOf pd__28Ljava_2flang_2fObject_3b_29Z rfl) rfl (by show 2 * 0 + _ ≤ _; exact Nat.le_of_eq rfl) (hb hby at_84) (fun _ _ => ⟨rfl, rfl, (by decide : 10 + 0 ≤ _), (by decide : 33 + 0 ≤ _)⟩)
    dsimp only [Pt.U, Pt.locs, Pt.cells, Pt.slots] at X62 l62 y62 z62 st62 hQ62
    obtain ⟨rfl, N62q, K62, o62_0, o62_1, o62_2, o62_3, o62_4⟩ := hQ62
    obtain ⟨clv64, Arv64, -⟩ := id o56_4
    have CH63 := CH57.trans (CHr.keep K62 (allS (Safe.exa hZ7.alike o56_0 (by decide) (by decide)) (allS (Safe.arr hZ7.alike Arv64 (by decide)) all0)) CH57.1)
    have Z65 : n0 ≤ T62.heap.size := Nat.le_trans Z59 K62.1
    have Z65h : h0.size ≤ T62.heap.size := Nat.le_trans Z59h K62.1
    have Z65k := Nat.le_trans Z59k K62.1
    obtain ⟨lc62, X62, N62⟩ := own_pack X62 l62 y62 z62 N56 N62q (C := 10) (S' := 33) rfl rfl
    refine own_thrH (a := T62.setTop (mkF m 89 #[.val (.int ct), .val (.int qa), .val (.int qb), .val (.int qc), .val (.int qd), .val (.int (3 : Int32)), .val (.ref r1), .val (.ref r3), .val (.ref r5), .val (.ref r7), .val (.ref b9), .unset, .unset, .unset, .unset, .unset, .unset] [(.int (1 : Int32))])) (fun t kt => st62.trans kt) ?_
    refine own_thrH (a := T62.setTop (mkF m 107 #[.val (.int ct), .val (.int qa), .val (.int qb), .val (.int qc), .val (.int qd), .val (.int (3 : Int32)), .val (.ref r1), .val (.ref r3), .val (.ref r5), .val (.ref r7), .val (.ref b9), .unset, .unset, .unset, .unset, .unset, .unset] [(.int qa)])) (fun t kt => ?_) ?_
    · show Steps p.tables e below (T62.setTop (mkF m 89 #[.val (.int ct), .val (.int qa), .val (.int qb), .val (.int qc), .val (.int qd), .val (.int (3 : Int32)), .val (.ref r1), .val (.ref r3), .val (.ref r5), .val (.ref r7), .val (.ref b9), .unset, .unset, .unset, .unset, .unset, .unset] [(.int (1 : Int32))])) _
      refine XS.pop X62.here hx rfl (hb hby at_89) rfl rfl ?_
      refine XS.iload X62.here hx rfl (hb hby at_90) rfl ?_
      refine XS.iconst X62.here hx rfl (hb hby at_92) ?_
      refine XS.icmpYes X62.here hx rfl (pc0 := 93) (pc' := 106) rfl (hb hby at_93) rfl (tlt (by decide)).1 (by decide) (by decide) ?_
      refine XS.iloadN X62.here hx rfl (hb hby at_106) rfl ?_
      exact kt
    obtain ⟨_, _, ⟨T66, L66, k66, n66⟩, -, X66, ⟨Lc66, hQ66, l66, y66, z66⟩, st66⟩ := Jvm.LawKit.callS X62 hx (y := (⟨"com/example/tiphys/tiphys/KnowledgeBaseOutOfOrderPinLaw", "key", "(I)I"⟩ : MethodName)) hown7 (mvT hZ7 (hw _ (List.mem_of_getElem? (i := 38) rfl))) (mvT hZ7 (hw _ (List.mem_of_getElem? (i := 39) rfl))) (mvT hZ7 (hw _ (List.mem_of_getElem? (i := 2) rfl))) (mvT hZ7 (hw _ (List.mem_of_getElem? (i := 40) rfl))) (by decide) (backOf (W := 0) (rmK l Z a0 hw [] qa T62.heap n0 Z65) hZ7 (hw _ (List.mem_of_getElem? (i := 40) rfl)) (hw _ (List.mem_of_getElem? (i := 2) rfl)) (by decide) (by decide)) (g := (mkF m 107 #[.val (.int ct), .val (.int qa), .val (.int qb), .val (.int qc), .val (.int qd), .val (.int (3 : Int32)), .val (.ref r1), .val (.ref r3), .val (.ref r5), .val (.ref r7), .val (.ref b9), .unset, .unset, .unset, .unset, .unset, .unset] [(.int qa)])) rfl (by rw [hml]; rfl) (argsL := [(.int qa)]) (rest := []) (lenOf pd__28I_29I rfl) rfl (by show 2 * 0 + _ ≤ _; exact Nat.le_of_eq rfl) (hb hby at_107) (fun _ _ => ⟨rfl, rfl, (by decide : 10 + 0 ≤ _), (by decide : 33 + 0 ≤ _)⟩)
    dsimp only [Pt.U, Pt.locs, Pt.cells, Pt.slots] at X66 l66 y66 z66 st66 hQ66
    obtain ⟨rfl, N66q, e66⟩ := hQ66
    obtain ⟨lc66, X66, N66⟩ := own_pack X66 l66 y66 z66 N62 N66q (C := 10) (S' := 33) rfl rfl
    refine own_thrH (a := T66.setTop (mkF m 110 #[.val (.int ct), .val (.int qa), .val (.int qb), .val (.int qc), .val (.int qd), .val (.int (3 : Int32)), .val (.ref r1), .val (.ref r3), .val (.ref r5), .val (.ref r7), .val (.ref b9), .unset, .unset, .unset, .unset, .unset, .unset] [(.int (f_rmK qa))])) (fun t kt => st66 t kt) ?_
    refine own_thrH (a := T66.setTop (mkF m 113 #[.val (.int ct), .val (.int qa), .val (.int qb), .val (.int qc), .val (.int qd), .val (.int (3 : Int32)), .val (.ref r1), .val (.ref r3), .val (.ref r5), .val (.ref r7), .val (.ref b9), .val (.int (f_rmK qa)), .unset, .unset, .unset, .unset, .unset] [(.int qb)])) (fun t kt => ?_) ?_
    · show Steps p.tables e below (T66.setTop (mkF m 110 #[.val (.int ct), .val (.int qa), .val (.int qb), .val (.int qc), .val (.int qd), .val (.int (3 : Int32)), .val (.ref r1), .val (.ref r3), .val (.ref r5), .val (.ref r7), .val (.ref b9), .unset, .unset, .unset, .unset, .unset, .unset] [(.int (f_rmK qa))])) _
      refine XS.istore X66.here hx rfl (hb hby at_110) rfl (l' := #[.val (.int ct), .val (.int qa), .val (.int qb), .val (.int qc), .val (.int qd), .val (.int (3 : Int32)), .val (.ref r1), .val (.ref r3), .val (.ref r5), .val (.ref r7), .val (.ref b9), .val (.int (f_rmK qa)), .unset, .unset, .unset, .unset, .unset]) rfl ?_
      refine XS.iloadN X66.here hx rfl (hb hby at_112) rfl ?_
      exact kt
    obtain ⟨_, _, ⟨T67, L67, k67, n67⟩, -, X67, ⟨Lc67, hQ67, l67, y67, z67⟩, st67⟩ := Jvm.LawKit.callS X66 hx (y := (⟨"com/example/tiphys/tiphys/KnowledgeBaseOutOfOrderPinLaw", "key", "(I)I"⟩ : MethodName)) hown7 (mvT hZ7 (hw _ (List.mem_of_getElem? (i := 38) rfl))) (mvT hZ7 (hw _ (List.mem_of_getElem? (i := 39) rfl))) (mvT hZ7 (hw _ (List.mem_of_getElem? (i := 2) rfl))) (mvT hZ7 (hw _ (List.mem_of_getElem? (i := 40) rfl))) (by decide) (backOf (W := 0) (rmK l Z a0 hw [] qb T62.heap n0 Z65) hZ7 (hw _ (List.mem_of_getElem? (i := 40) rfl)) (hw _ (List.mem_of_getElem? (i := 2) rfl)) (by decide) (by decide)) (g := (mkF m 113 #[.val (.int ct), .val (.int qa), .val (.int qb), .val (.int qc), .val (.int qd), .val (.int (3 : Int32)), .val (.ref r1), .val (.ref r3), .val (.ref r5), .val (.ref r7), .val (.ref b9), .val (.int (f_rmK qa)), .unset, .unset, .unset, .unset, .unset] [(.int qb)])) rfl (by rw [hml]; rfl) (argsL := [(.int qb)]) (rest := []) (lenOf pd__28I_29I rfl) rfl (by show 2 * 0 + _ ≤ _; exact Nat.le_of_eq rfl) (hb hby at_113) (fun _ _ => ⟨rfl, e66, (by decide : 10 + 0 ≤ _), (by decide : 33 + 0 ≤ _)⟩)
    dsimp only [Pt.U, Pt.locs, Pt.cells, Pt.slots] at X67 l67 y67 z67 st67 hQ67
    obtain ⟨rfl, N67q, e67⟩ := hQ67
    obtain ⟨lc67, X67, N67⟩ := own_pack X67 l67 y67 z67 N66 N67q (C := 10) (S' := 33) rfl rfl
    refine own_thrH (a := T67.setTop (mkF m 116 #[.val (.int ct), .val (.int qa), .val (.int qb), .val (.int qc), .val (.int qd), .val (.int (3 : Int32)), .val (.ref r1), .val (.ref r3), .val (.ref r5), .val (.ref r7), .val (.ref b9), .val (.int (f_rmK qa)), .unset, .unset, .unset, .unset, .unset] [(.int (f_rmK qb))])) (fun t kt => st67 t kt) ?_
    refine own_thrH (a := T67.setTop (mkF m 119 #[.val (.int ct), .val (.int qa), .val (.int qb), .val (.int qc), .val (.int qd), .val (.int (3 : Int32)), .val (.ref r1), .val (.ref r3), .val (.ref r5), .val (.ref r7), .val (.ref b9), .val (.int (f_rmK qa)), .val (.int (f_rmK qb)), .unset, .unset, .unset, .unset] [(.int qc)])) (fun t kt => ?_) ?_
    · show Steps p.tables e below (T67.setTop (mkF m 116 #[.val (.int ct), .val (.int qa), .val (.int qb), .val (.int qc), .val (.int qd), .val (.int (3 : Int32)), .val (.ref r1), .val (.ref r3), .val (.ref r5), .val (.ref r7), .val (.ref b9), .val (.int (f_rmK qa)), .unset, .unset, .unset, .unset, .unset] [(.int (f_rmK qb))])) _
      refine XS.istore X67.here hx rfl (hb hby at_116) rfl (l' := #[.val (.int ct), .val (.int qa), .val (.int qb), .val (.int qc), .val (.int qd), .val (.int (3 : Int32)), .val (.ref r1), .val (.ref r3), .val (.ref r5), .val (.ref r7), .val (.ref b9), .val (.int (f_rmK qa)), .val (.int (f_rmK qb)), .unset, .unset, .unset, .unset]) rfl ?_
      refine XS.iloadN X67.here hx rfl (hb hby at_118) rfl ?_
      exact kt
    obtain ⟨_, _, ⟨T68, L68, k68, n68⟩, -, X68, ⟨Lc68, hQ68, l68, y68, z68⟩, st68⟩ := Jvm.LawKit.callS X67 hx (y := (⟨"com/example/tiphys/tiphys/KnowledgeBaseOutOfOrderPinLaw", "key", "(I)I"⟩ : MethodName)) hown7 (mvT hZ7 (hw _ (List.mem_of_getElem? (i := 38) rfl))) (mvT hZ7 (hw _ (List.mem_of_getElem? (i := 39) rfl))) (mvT hZ7 (hw _ (List.mem_of_getElem? (i := 2) rfl))) (mvT hZ7 (hw _ (List.mem_of_getElem? (i := 40) rfl))) (by decide) (backOf (W := 0) (rmK l Z a0 hw [] qc T62.heap n0 Z65) hZ7 (hw _ (List.mem_of_getElem? (i := 40) rfl)) (hw _ (List.mem_of_getElem? (i := 2) rfl)) (by decide) (by decide)) (g := (mkF m 119 #[.val (.int ct), .val (.int qa), .val (.int qb), .val (.int qc), .val (.int qd), .val (.int (3 : Int32)), .val (.ref r1), .val (.ref r3), .val (.ref r5), .val (.ref r7), .val (.ref b9), .val (.int (f_rmK qa)), .val (.int (f_rmK qb)), .unset, .unset, .unset, .unset] [(.int qc)])) rfl (by rw [hml]; rfl) (argsL := [(.int qc)]) (rest := []) (lenOf pd__28I_29I rfl) rfl (by show 2 * 0 + _ ≤ _; exact Nat.le_of_eq rfl) (hb hby at_119) (fun _ _ => ⟨rfl, e67, (by decide : 10 + 0 ≤ _), (by decide : 33 + 0 ≤ _)⟩)
    dsimp only [Pt.U, Pt.locs, Pt.cells, Pt.slots] at X68 l68 y68 z68 st68 hQ68
    obtain ⟨rfl, N68q, e68⟩ := hQ68
    obtain ⟨lc68, X68, N68⟩ := own_pack X68 l68 y68 z68 N67 N68q (C := 10) (S' := 33) rfl rfl
    refine own_thrH (a := T68.setTop (mkF m 122 #[.val (.int ct), .val (.int qa), .val (.int qb), .val (.int qc), .val (.int qd), .val (.int (3 : Int32)), .val (.ref r1), .val (.ref r3), .val (.ref r5), .val (.ref r7), .val (.ref b9), .val (.int (f_rmK qa)), .val (.int (f_rmK qb)), .unset, .unset, .unset, .unset] [(.int (f_rmK qc))])) (fun t kt => st68 t kt) ?_
    refine own_thrH (a := T68.setTop (mkF m 126 #[.val (.int ct), .val (.int qa), .val (.int qb), .val (.int qc), .val (.int qd), .val (.int (3 : Int32)), .val (.ref r1), .val (.ref r3), .val (.ref r5), .val (.ref r7), .val (.ref b9), .val (.int (f_rmK qa)), .val (.int (f_rmK qb)), .val (.int (f_rmK qc)), .unset, .unset, .unset] [(.int qd)])) (fun t kt => ?_) ?_
    · show Steps p.tables e below (T68.setTop (mkF m 122 #[.val (.int ct), .val (.int qa), .val (.int qb), .val (.int qc), .val (.int qd), .val (.int (3 : Int32)), .val (.ref r1), .val (.ref r3), .val (.ref r5), .val (.ref r7), .val (.ref b9), .val (.int (f_rmK qa)), .val (.int (f_rmK qb)), .unset, .unset, .unset, .unset] [(.int (f_rmK qc))])) _
      refine XS.istore X68.here hx rfl (hb hby at_122) rfl (l' := #[.val (.int ct), .val (.int qa), .val (.int qb), .val (.int qc), .val (.int qd), .val (.int (3 : Int32)), .val (.ref r1), .val (.ref r3), .val (.ref r5), .val (.ref r7), .val (.ref b9), .val (.int (f_rmK qa)), .val (.int (f_rmK qb)), .val (.int (f_rmK qc)), .unset, .unset, .unset]) rfl ?_
      refine XS.iload X68.here hx rfl (hb hby at_124) rfl ?_
      exact kt
    obtain ⟨_, _, ⟨T69, L69, k69, n69⟩, -, X69, ⟨Lc69, hQ69, l69, y69, z69⟩, st69⟩ := Jvm.LawKit.callS X68 hx (y := (⟨"com/example/tiphys/tiphys/KnowledgeBaseOutOfOrderPinLaw", "key", "(I)I"⟩ : MethodName)) hown7 (mvT hZ7 (hw _ (List.mem_of_getElem? (i := 38) rfl))) (mvT hZ7 (hw _ (List.mem_of_getElem? (i := 39) rfl))) (mvT hZ7 (hw _ (List.mem_of_getElem? (i := 2) rfl))) (mvT hZ7 (hw _ (List.mem_of_getElem? (i := 40) rfl))) (by decide) (backOf (W := 0) (rmK l Z a0 hw [] qd T62.heap n0 Z65) hZ7 (hw _ (List.mem_of_getElem? (i := 40) rfl)) (hw _ (List.mem_of_getElem? (i := 2) rfl)) (by decide) (by decide)) (g := (mkF m 126 #[.val (.int ct), .val (.int qa), .val (.int qb), .val (.int qc), .val (.int qd), .val (.int (3 : Int32)), .val (.ref r1), .val (.ref r3), .val (.ref r5), .val (.ref r7), .val (.ref b9), .val (.int (f_rmK qa)), .val (.int (f_rmK qb)), .val (.int (f_rmK qc)), .unset, .unset, .unset] [(.int qd)])) rfl (by rw [hml]; rfl) (argsL := [(.int qd)]) (rest := []) (lenOf pd__28I_29I rfl) rfl (by show 2 * 0 + _ ≤ _; exact Nat.le_of_eq rfl) (hb hby at_126) (fun _ _ => ⟨rfl, e68, (by decide : 10 + 0 ≤ _), (by decide : 33 + 0 ≤ _)⟩)
    dsimp only [Pt.U, Pt.locs, Pt.cells, Pt.slots] at X69 l69 y69 z69 st69 hQ69
    obtain ⟨rfl, N69q, e69⟩ := hQ69
    obtain ⟨lc69, X69, N69⟩ := own_pack X69 l69 y69 z69 N68 N69q (C := 10) (S' := 33) rfl rfl
    refine own_thrH (a := T69.setTop (mkF m 129 #[.val (.int ct), .val (.int qa), .val (.int qb), .val (.int qc), .val (.int qd), .val (.int (3 : Int32)), .val (.ref r1), .val (.ref r3), .val (.ref r5), .val (.ref r7), .val (.ref b9), .val (.int (f_rmK qa)), .val (.int (f_rmK qb)), .val (.int (f_rmK qc)), .unset, .unset, .unset] [(.int (f_rmK qd))])) (fun t kt => st69 t kt) ?_
    refine own_thrH (a := T69.setTop (mkF m 144 #[.val (.int ct), .val (.int qa), .val (.int qb), .val (.int qc), .val (.int qd), .val (.int (3 : Int32)), .val (.ref r1), .val (.ref r3), .val (.ref r5), .val (.ref r7), .val (.ref b9), .val (.int (f_rmK qa)), .val (.int (f_rmK qb)), .val (.int (f_rmK qc)), .val (.int (f_rmK qd)), .val (.int (-1 : Int32)), .unset] [(.int (f_rmK qb)), (.int (f_rmK qa))])) (fun t kt => ?_) ?_
    · show Steps p.tables e below (T69.setTop (mkF m 129 #[.val (.int ct), .val (.int qa), .val (.int qb), .val (.int qc), .val (.int qd), .val (.int (3 : Int32)), .val (.ref r1), .val (.ref r3), .val (.ref r5), .val (.ref r7), .val (.ref b9), .val (.int (f_rmK qa)), .val (.int (f_rmK qb)), .val (.int (f_rmK qc)), .unset, .unset, .unset] [(.int (f_rmK qd))])) _
      refine XS.istore X69.here hx rfl (hb hby at_129) rfl (l' := #[.val (.int ct), .val (.int qa), .val (.int qb), .val (.int qc), .val (.int qd), .val (.int (3 : Int32)), .val (.ref r1), .val (.ref r3), .val (.ref r5), .val (.ref r7), .val (.ref b9), .val (.int (f_rmK qa)), .val (.int (f_rmK qb)), .val (.int (f_rmK qc)), .val (.int (f_rmK qd)), .unset, .unset]) rfl ?_
      refine XS.iconst X69.here hx rfl (hb hby at_131) ?_
      refine XS.istore X69.here hx rfl (hb hby at_132) rfl (l' := #[.val (.int ct), .val (.int qa), .val (.int qb), .val (.int qc), .val (.int qd), .val (.int (3 : Int32)), .val (.ref r1), .val (.ref r3), .val (.ref r5), .val (.ref r7), .val (.ref b9), .val (.int (f_rmK qa)), .val (.int (f_rmK qb)), .val (.int (f_rmK qc)), .val (.int (f_rmK qd)), .val (.int (-1 : Int32)), .unset]) rfl ?_
      refine XS.iload X69.here hx rfl (hb hby at_134) rfl ?_
      refine XS.iconst X69.here hx rfl (hb hby at_136) ?_
      refine XS.icmpNo X69.here hx rfl (hb hby at_137) rfl (flt (by decide)).1 ?_
      refine XS.iload X69.here hx rfl (hb hby at_140) rfl ?_
      refine XS.iload X69.here hx rfl (hb hby at_142) rfl ?_
      exact kt
    by_cases hc70 : (f_rmK qa) < (f_rmK qb)
    · refine own_thrH (a := T69.setTop (mkF m 163 #[.val (.int ct), .val (.int qa), .val (.int qb), .val (.int qc), .val (.int qd), .val (.int (3 : Int32)), .val (.ref r1), .val (.ref r3), .val (.ref r5), .val (.ref r7), .val (.ref b9), .val (.int (f_rmK qa)), .val (.int (f_rmK qb)), .val (.int (f_rmK qc)), .val (.int (f_rmK qd)), .val (.int (-1 : Int32)), .unset] [(.int (f_rmK qc)), (.int (f_rmK qb))])) (fun t kt => ?_) ?_
      · show Steps p.tables e below (T69.setTop (mkF m 144 #[.val (.int ct), .val (.int qa), .val (.int qb), .val (.int qc), .val (.int qd), .val (.int (3 : Int32)), .val (.ref r1), .val (.ref r3), .val (.ref r5), .val (.ref r7), .val (.ref b9), .val (.int (f_rmK qa)), .val (.int (f_rmK qb)), .val (.int (f_rmK qc)), .val (.int (f_rmK qd)), .val (.int (-1 : Int32)), .unset] [(.int (f_rmK qb)), (.int (f_rmK qa))])) _
        refine XS.icmpYes X69.here hx rfl (pc0 := 144) (pc' := 153) rfl (hb hby at_144) rfl (tlt hc70).1 (by decide) (by decide) ?_
        refine XS.iload X69.here hx rfl (hb hby at_153) rfl ?_
        refine XS.iconst X69.here hx rfl (hb hby at_155) ?_
        refine XS.icmpNo X69.here hx rfl (hb hby at_156) rfl (flt (by decide)).1 ?_
        refine XS.iload X69.here hx rfl (hb hby at_159) rfl ?_
        refine XS.iload X69.here hx rfl (hb hby at_161) rfl ?_
        exact kt
      by_cases hc71 : (f_rmK qb) < (f_rmK qc)
      · have c72 := (((((bS0.ext E9).keep K12 (allS (Nat.le_of_eq g9.symm) all0)).keep K51 (allS (Nat.le_of_eq g9.symm) all0)).keep K56 (allS (Nat.le_of_eq g9.symm) (allS gB_B51 all0))).keep K62 (allS (Nat.le_of_eq g9.symm) (allS gB_B51 all0)))
        have c73 := ((c55.keep K56 (allS (Nat.le_of_eq g9.symm) (allS gB_B51 all0))).keep K62 (allS (Nat.le_of_eq g9.symm) (allS gB_B51 all0)))
        have c74 := (c61.keep K62 (allS (Nat.le_of_eq g9.symm) (allS gB_B51 all0)))
        have c75 := ((((c13.keep K12 (allS g_b9 all0)).keep K51 (allS g_b9 all0)).keep K56 (allS g_b9 (allS g_B51 all0))).keep K62 (allS g_b9 (allS g_B51 all0)))
        refine own_thrH (a := T69.setTop (mkF m 190 #[.val (.int ct), .val (.int qa), .val (.int qb), .val (.int qc), .val (.int qd), .val (.int (3 : Int32)), .val (.ref r1), .val (.ref r3), .val (.ref r5), .val (.ref r7), .val (.ref b9), .val (.int (f_rmK qa)), .val (.int (f_rmK qb)), .val (.int (f_rmK qc)), .val (.int (f_rmK qd)), .val (.int (-1 : Int32)), .unset] [(.ref b9)])) (fun t kt => ?_) ?_
        · show Steps p.tables e below (T69.setTop (mkF m 163 #[.val (.int ct), .val (.int qa), .val (.int qb), .val (.int qc), .val (.int qd), .val (.int (3 : Int32)), .val (.ref r1), .val (.ref r3), .val (.ref r5), .val (.ref r7), .val (.ref b9), .val (.int (f_rmK qa)), .val (.int (f_rmK qb)), .val (.int (f_rmK qc)), .val (.int (f_rmK qd)), .val (.int (-1 : Int32)), .unset] [(.int (f_rmK qc)), (.int (f_rmK qb))])) _
          refine XS.icmpYes X69.here hx rfl (pc0 := 163) (pc' := 172) rfl (hb hby at_163) rfl (tlt hc71).1 (by decide) (by decide) ?_
          refine XS.iload X69.here hx rfl (hb hby at_172) rfl ?_
          refine XS.iconst X69.here hx rfl (hb hby at_174) ?_
          refine XS.icmpYes X69.here hx rfl (pc0 := 175) (pc' := 188) rfl (hb hby at_175) rfl (tlt (by decide)).1 (by decide) (by decide) ?_
          refine XS.aload X69.here hx rfl (hb hby at_188) rfl rfl ?_
          exact kt
        obtain ⟨_, _, ⟨T76, L76, k76, n76⟩, -, X76, ⟨Lc76, hQ76, l76, y76, z76⟩, st76⟩ := Jvm.LawKit.callS X69 hx (y := (⟨"com/example/tiphys/tiphys/KnowledgeBase", "outOfOrder", "(Ljava/util/List;)I"⟩ : MethodName)) hown7 (mvT hZ7 (hw _ (List.mem_of_getElem? (i := 41) rfl))) (mvT hZ7 (hw _ (List.mem_of_getElem? (i := 42) rfl))) (mvT hZ7 (hw _ (List.mem_of_getElem? (i := 43) rfl))) (mvT hZ7 (hw _ (List.mem_of_getElem? (i := 44) rfl))) (by decide) (backOf (W := 0) (rmO3 l Z a0 hw [] b9 B51 ke51 r1 r3 r5 (f_rmK qa) (f_rmK qb) (f_rmK qc) cs fm T62.heap n0 Z65 o62_0 o62_3 o62_2 o62_4 c72.un c73.un c74.un S_cs hcs S_fm hfm c75) hZ7 (hw _ (List.mem_of_getElem? (i := 44) rfl)) (hw _ (List.mem_of_getElem? (i := 43) rfl)) (by decide) (by decide)) (g := (mkF m 190 #[.val (.int ct), .val (.int qa), .val (.int qb), .val (.int qc), .val (.int qd), .val (.int (3 : Int32)), .val (.ref r1), .val (.ref r3), .val (.ref r5), .val (.ref r7), .val (.ref b9), .val (.int (f_rmK qa)), .val (.int (f_rmK qb)), .val (.int (f_rmK qc)), .val (.int (f_rmK qd)), .val (.int (-1 : Int32)), .unset] [(.ref b9)])) rfl (by rw [hml]; rfl) (argsL := [(.ref b9)]) (rest := []) (lenOf pd__28Ljava_2futil_2fList_3b_29I rfl) rfl (by show 2 * 0 + _ ≤ _; exact Nat.le_of_eq rfl) (hb hby at_190) (fun _ _ => ⟨rfl, e69, (by decide : 10 + 0 ≤ _), (by decide : 33 + 0 ≤ _)⟩)
        dsimp only [Pt.U, Pt.locs, Pt.cells, Pt.slots] at X76 l76 y76 z76 st76 hQ76
        obtain ⟨rfl, N76q, e76⟩ := hQ76
        obtain ⟨lc76, X76, N76⟩ := own_pack X76 l76 y76 z76 N69 N76q (C := 10) (S' := 33) rfl rfl
        refine own_thrH (a := T76.setTop (mkF m 193 #[.val (.int ct), .val (.int qa), .val (.int qb), .val (.int qc), .val (.int qd), .val (.int (3 : Int32)), .val (.ref r1), .val (.ref r3), .val (.ref r5), .val (.ref r7), .val (.ref b9), .val (.int (f_rmK qa)), .val (.int (f_rmK qb)), .val (.int (f_rmK qc)), .val (.int (f_rmK qd)), .val (.int (-1 : Int32)), .unset] [(.int (f_rmO3 b9 B51 ke51 r1 r3 r5 (f_rmK qa) (f_rmK qb) (f_rmK qc) cs fm))])) (fun t kt => st76 t kt) ?_
        refine own_thrH (a := T76.setTop (mkF m 207 #[.val (.int ct), .val (.int qa), .val (.int qb), .val (.int qc), .val (.int qd), .val (.int (3 : Int32)), .val (.ref r1), .val (.ref r3), .val (.ref r5), .val (.ref r7), .val (.ref b9), .val (.int (f_rmK qa)), .val (.int (f_rmK qb)), .val (.int (f_rmK qc)), .val (.int (f_rmK qd)), .val (.int (-1 : Int32)), .val (.int (f_rmO3 b9 B51 ke51 r1 r3 r5 (f_rmK qa) (f_rmK qb) (f_rmK qc) cs fm))] [(.int (1 : Int32))])) (fun t kt => ?_) ?_
        · show Steps p.tables e below (T76.setTop (mkF m 193 #[.val (.int ct), .val (.int qa), .val (.int qb), .val (.int qc), .val (.int qd), .val (.int (3 : Int32)), .val (.ref r1), .val (.ref r3), .val (.ref r5), .val (.ref r7), .val (.ref b9), .val (.int (f_rmK qa)), .val (.int (f_rmK qb)), .val (.int (f_rmK qc)), .val (.int (f_rmK qd)), .val (.int (-1 : Int32)), .unset] [(.int (f_rmO3 b9 B51 ke51 r1 r3 r5 (f_rmK qa) (f_rmK qb) (f_rmK qc) cs fm))])) _
          refine XS.istore X76.here hx rfl (hb hby at_193) rfl (l' := #[.val (.int ct), .val (.int qa), .val (.int qb), .val (.int qc), .val (.int qd), .val (.int (3 : Int32)), .val (.ref r1), .val (.ref r3), .val (.ref r5), .val (.ref r7), .val (.ref b9), .val (.int (f_rmK qa)), .val (.int (f_rmK qb)), .val (.int (f_rmK qc)), .val (.int (f_rmK qd)), .val (.int (-1 : Int32)), .val (.int (f_rmO3 b9 B51 ke51 r1 r3 r5 (f_rmK qa) (f_rmK qb) (f_rmK qc) cs fm))]) rfl ?_
          refine XS.iload X76.here hx rfl (hb hby at_195) rfl ?_
          refine XS.iload X76.here hx rfl (hb hby at_197) rfl ?_
          refine XS.icmpNo X76.here hx rfl (hb hby at_199) rfl (teq (by rw [f_rmO3, if_pos ((own_ic _ _).mpr hc70), if_pos ((own_ic _ _).mpr hc71)])).2 ?_
          refine XS.iconst X76.here hx rfl (hb hby at_202) ?_
          refine XS.goto X76.here hx rfl (pc0 := 203) (pc' := 207) rfl (hb hby at_203) (by decide) (by decide) ?_
          exact kt
        exact own_endH X76 hS7 (by rw [e76]; exact Z65k) hZ7 hEL CH63 hh e76 hlk (v := some (.int (1 : Int32))) (fun h => by rw [Bd.returns] at h; cases h) (fun fs hr => retN X76 hx (t := .boolean) Bd.returns (by simp) (hb hby at_207) hr) ⟨rfl, N76⟩ (by decide : 10 ≤ _) (by decide : 33 ≤ _)
      · have c77 := (((((bS0.ext E9).keep K12 (allS (Nat.le_of_eq g9.symm) all0)).keep K51 (allS (Nat.le_of_eq g9.symm) all0)).keep K56 (allS (Nat.le_of_eq g9.symm) (allS gB_B51 all0))).keep K62 (allS (Nat.le_of_eq g9.symm) (allS gB_B51 all0)))
        have c78 := ((c55.keep K56 (allS (Nat.le_of_eq g9.symm) (allS gB_B51 all0))).keep K62 (allS (Nat.le_of_eq g9.symm) (allS gB_B51 all0)))
        have c79 := (c61.keep K62 (allS (Nat.le_of_eq g9.symm) (allS gB_B51 all0)))
        have c80 := ((((c13.keep K12 (allS g_b9 all0)).keep K51 (allS g_b9 all0)).keep K56 (allS g_b9 (allS g_B51 all0))).keep K62 (allS g_b9 (allS g_B51 all0)))
        refine own_thrH (a := T69.setTop (mkF m 190 #[.val (.int ct), .val (.int qa), .val (.int qb), .val (.int qc), .val (.int qd), .val (.int (3 : Int32)), .val (.ref r1), .val (.ref r3), .val (.ref r5), .val (.ref r7), .val (.ref b9), .val (.int (f_rmK qa)), .val (.int (f_rmK qb)), .val (.int (f_rmK qc)), .val (.int (f_rmK qd)), .val (.int (2 : Int32)), .unset] [(.ref b9)])) (fun t kt => ?_) ?_
        · show Steps p.tables e below (T69.setTop (mkF m 163 #[.val (.int ct), .val (.int qa), .val (.int qb), .val (.int qc), .val (.int qd), .val (.int (3 : Int32)), .val (.ref r1), .val (.ref r3), .val (.ref r5), .val (.ref r7), .val (.ref b9), .val (.int (f_rmK qa)), .val (.int (f_rmK qb)), .val (.int (f_rmK qc)), .val (.int (f_rmK qd)), .val (.int (-1 : Int32)), .unset] [(.int (f_rmK qc)), (.int (f_rmK qb))])) _
          refine XS.icmpNo X69.here hx rfl (hb hby at_163) rfl (flt hc71).1 ?_
          refine XS.iconst X69.here hx rfl (hb hby at_166) ?_
          refine XS.istore X69.here hx rfl (hb hby at_167) rfl (l' := #[.val (.int ct), .val (.int qa), .val (.int qb), .val (.int qc), .val (.int qd), .val (.int (3 : Int32)), .val (.ref r1), .val (.ref r3), .val (.ref r5), .val (.ref r7), .val (.ref b9), .val (.int (f_rmK qa)), .val (.int (f_rmK qb)), .val (.int (f_rmK qc)), .val (.int (f_rmK qd)), .val (.int (2 : Int32)), .unset]) rfl ?_
          refine XS.goto X69.here hx rfl (pc0 := 169) (pc' := 188) rfl (hb hby at_169) (by decide) (by decide) ?_
          refine XS.aload X69.here hx rfl (hb hby at_188) rfl rfl ?_
          exact kt
        obtain ⟨_, _, ⟨T81, L81, k81, n81⟩, -, X81, ⟨Lc81, hQ81, l81, y81, z81⟩, st81⟩ := Jvm.LawKit.callS X69 hx (y := (⟨"com/example/tiphys/tiphys/KnowledgeBase", "outOfOrder", "(Ljava/util/List;)I"⟩ : MethodName)) hown7 (mvT hZ7 (hw _ (List.mem_of_getElem? (i := 41) rfl))) (mvT hZ7 (hw _ (List.mem_of_getElem? (i := 42) rfl))) (mvT hZ7 (hw _ (List.mem_of_getElem? (i := 43) rfl))) (mvT hZ7 (hw _ (List.mem_of_getElem? (i := 44) rfl))) (by decide) (backOf (W := 0) (rmO3 l Z a0 hw [] b9 B51 ke51 r1 r3 r5 (f_rmK qa) (f_rmK qb) (f_rmK qc) cs fm T62.heap n0 Z65 o62_0 o62_3 o62_2 o62_4 c77.un c78.un c79.un S_cs hcs S_fm hfm c80) hZ7 (hw _ (List.mem_of_getElem? (i := 44) rfl)) (hw _ (List.mem_of_getElem? (i := 43) rfl)) (by decide) (by decide)) (g := (mkF m 190 #[.val (.int ct), .val (.int qa), .val (.int qb), .val (.int qc), .val (.int qd), .val (.int (3 : Int32)), .val (.ref r1), .val (.ref r3), .val (.ref r5), .val (.ref r7), .val (.ref b9), .val (.int (f_rmK qa)), .val (.int (f_rmK qb)), .val (.int (f_rmK qc)), .val (.int (f_rmK qd)), .val (.int (2 : Int32)), .unset] [(.ref b9)])) rfl (by rw [hml]; rfl) (argsL := [(.ref b9)]) (rest := []) (lenOf pd__28Ljava_2futil_2fList_3b_29I rfl) rfl (by show 2 * 0 + _ ≤ _; exact Nat.le_of_eq rfl) (hb hby at_190) (fun _ _ => ⟨rfl, e69, (by decide : 10 + 0 ≤ _), (by decide : 33 + 0 ≤ _)⟩)
        dsimp only [Pt.U, Pt.locs, Pt.cells, Pt.slots] at X81 l81 y81 z81 st81 hQ81
        obtain ⟨rfl, N81q, e81⟩ := hQ81
        obtain ⟨lc81, X81, N81⟩ := own_pack X81 l81 y81 z81 N69 N81q (C := 10) (S' := 33) rfl rfl
        refine own_thrH (a := T81.setTop (mkF m 193 #[.val (.int ct), .val (.int qa), .val (.int qb), .val (.int qc), .val (.int qd), .val (.int (3 : Int32)), .val (.ref r1), .val (.ref r3), .val (.ref r5), .val (.ref r7), .val (.ref b9), .val (.int (f_rmK qa)), .val (.int (f_rmK qb)), .val (.int (f_rmK qc)), .val (.int (f_rmK qd)), .val (.int (2 : Int32)), .unset] [(.int (f_rmO3 b9 B51 ke51 r1 r3 r5 (f_rmK qa) (f_rmK qb) (f_rmK qc) cs fm))])) (fun t kt => st81 t kt) ?_
        refine own_thrH (a := T81.setTop (mkF m 207 #[.val (.int ct), .val (.int qa), .val (.int qb), .val (.int qc), .val (.int qd), .val (.int (3 : Int32)), .val (.ref r1), .val (.ref r3), .val (.ref r5), .val (.ref r7), .val (.ref b9), .val (.int (f_rmK qa)), .val (.int (f_rmK qb)), .val (.int (f_rmK qc)), .val (.int (f_rmK qd)), .val (.int (2 : Int32)), .val (.int (f_rmO3 b9 B51 ke51 r1 r3 r5 (f_rmK qa) (f_rmK qb) (f_rmK qc) cs fm))] [(.int (1 : Int32))])) (fun t kt => ?_) ?_
        · show Steps p.tables e below (T81.setTop (mkF m 193 #[.val (.int ct), .val (.int qa), .val (.int qb), .val (.int qc), .val (.int qd), .val (.int (3 : Int32)), .val (.ref r1), .val (.ref r3), .val (.ref r5), .val (.ref r7), .val (.ref b9), .val (.int (f_rmK qa)), .val (.int (f_rmK qb)), .val (.int (f_rmK qc)), .val (.int (f_rmK qd)), .val (.int (2 : Int32)), .unset] [(.int (f_rmO3 b9 B51 ke51 r1 r3 r5 (f_rmK qa) (f_rmK qb) (f_rmK qc) cs fm))])) _
          refine XS.istore X81.here hx rfl (hb hby at_193) rfl (l' := #[.val (.int ct), .val (.int qa), .val (.int qb), .val (.int qc), .val (.int qd), .val (.int (3 : Int32)), .val (.ref r1), .val (.ref r3), .val (.ref r5), .val (.ref r7), .val (.ref b9), .val (.int (f_rmK qa)), .val (.int (f_rmK qb)), .val (.int (f_rmK qc)), .val (.int (f_rmK qd)), .val (.int (2 : Int32)), .val (.int (f_rmO3 b9 B51 ke51 r1 r3 r5 (f_rmK qa) (f_rmK qb) (f_rmK qc) cs fm))]) rfl ?_
          refine XS.iload X81.here hx rfl (hb hby at_195) rfl ?_
          refine XS.iload X81.here hx rfl (hb hby at_197) rfl ?_
          refine XS.icmpNo X81.here hx rfl (hb hby at_199) rfl (teq (by rw [f_rmO3, if_pos ((own_ic _ _).mpr hc70), if_neg (fun q => hc71 ((own_ic _ _).mp q))])).2 ?_
          refine XS.iconst X81.here hx rfl (hb hby at_202) ?_
          refine XS.goto X81.here hx rfl (pc0 := 203) (pc' := 207) rfl (hb hby at_203) (by decide) (by decide) ?_
          exact kt
        exact own_endH X81 hS7 (by rw [e81]; exact Z65k) hZ7 hEL CH63 hh e81 hlk (v := some (.int (1 : Int32))) (fun h => by rw [Bd.returns] at h; cases h) (fun fs hr => retN X81 hx (t := .boolean) Bd.returns (by simp) (hb hby at_207) hr) ⟨rfl, N81⟩ (by decide : 10 ≤ _) (by decide : 33 ≤ _)
    · have c82 := (((((bS0.ext E9).keep K12 (allS (Nat.le_of_eq g9.symm) all0)).keep K51 (allS (Nat.le_of_eq g9.symm) all0)).keep K56 (allS (Nat.le_of_eq g9.symm) (allS gB_B51 all0))).keep K62 (allS (Nat.le_of_eq g9.symm) (allS gB_B51 all0)))
      have c83 := ((c55.keep K56 (allS (Nat.le_of_eq g9.symm) (allS gB_B51 all0))).keep K62 (allS (Nat.le_of_eq g9.symm) (allS gB_B51 all0)))
      have c84 := (c61.keep K62 (allS (Nat.le_of_eq g9.symm) (allS gB_B51 all0)))
      have c85 := ((((c13.keep K12 (allS g_b9 all0)).keep K51 (allS g_b9 all0)).keep K56 (allS g_b9 (allS g_B51 all0))).keep K62 (allS g_b9 (allS g_B51 all0)))
      refine own_thrH (a := T69.setTop (mkF m 190 #[.val (.int ct), .val (.int qa), .val (.int qb), .val (.int qc), .val (.int qd), .val (.int (3 : Int32)), .val (.ref r1), .val (.ref r3), .val (.ref r5), .val (.ref r7), .val (.ref b9), .val (.int (f_rmK qa)), .val (.int (f_rmK qb)), .val (.int (f_rmK qc)), .val (.int (f_rmK qd)), .val (.int (1 : Int32)), .unset] [(.ref b9)])) (fun t kt => ?_) ?_
      · show Steps p.tables e below (T69.setTop (mkF m 144 #[.val (.int ct), .val (.int qa), .val (.int qb), .val (.int qc), .val (.int qd), .val (.int (3 : Int32)), .val (.ref r1), .val (.ref r3), .val (.ref r5), .val (.ref r7), .val (.ref b9), .val (.int (f_rmK qa)), .val (.int (f_rmK qb)), .val (.int (f_rmK qc)), .val (.int (f_rmK qd)), .val (.int (-1 : Int32)), .unset] [(.int (f_rmK qb)), (.int (f_rmK qa))])) _
        refine XS.icmpNo X69.here hx rfl (hb hby at_144) rfl (flt hc70).1 ?_
        refine XS.iconst X69.here hx rfl (hb hby at_147) ?_
        refine XS.istore X69.here hx rfl (hb hby at_148) rfl (l' := #[.val (.int ct), .val (.int qa), .val (.int qb), .val (.int qc), .val (.int qd), .val (.int (3 : Int32)), .val (.ref r1), .val (.ref r3), .val (.ref r5), .val (.ref r7), .val (.ref b9), .val (.int (f_rmK qa)), .val (.int (f_rmK qb)), .val (.int (f_rmK qc)), .val (.int (f_rmK qd)), .val (.int (1 : Int32)), .unset]) rfl ?_
        refine XS.goto X69.here hx rfl (pc0 := 150) (pc' := 188) rfl (hb hby at_150) (by decide) (by decide) ?_
        refine XS.aload X69.here hx rfl (hb hby at_188) rfl rfl ?_
        exact kt
      obtain ⟨_, _, ⟨T86, L86, k86, n86⟩, -, X86, ⟨Lc86, hQ86, l86, y86, z86⟩, st86⟩ := Jvm.LawKit.callS X69 hx (y := (⟨"com/example/tiphys/tiphys/KnowledgeBase", "outOfOrder", "(Ljava/util/List;)I"⟩ : MethodName)) hown7 (mvT hZ7 (hw _ (List.mem_of_getElem? (i := 41) rfl))) (mvT hZ7 (hw _ (List.mem_of_getElem? (i := 42) rfl))) (mvT hZ7 (hw _ (List.mem_of_getElem? (i := 43) rfl))) (mvT hZ7 (hw _ (List.mem_of_getElem? (i := 44) rfl))) (by decide) (backOf (W := 0) (rmO3 l Z a0 hw [] b9 B51 ke51 r1 r3 r5 (f_rmK qa) (f_rmK qb) (f_rmK qc) cs fm T62.heap n0 Z65 o62_0 o62_3 o62_2 o62_4 c82.un c83.un c84.un S_cs hcs S_fm hfm c85) hZ7 (hw _ (List.mem_of_getElem? (i := 44) rfl)) (hw _ (List.mem_of_getElem? (i := 43) rfl)) (by decide) (by decide)) (g := (mkF m 190 #[.val (.int ct), .val (.int qa), .val (.int qb), .val (.int qc), .val (.int qd), .val (.int (3 : Int32)), .val (.ref r1), .val (.ref r3), .val (.ref r5), .val (.ref r7), .val (.ref b9), .val (.int (f_rmK qa)), .val (.int (f_rmK qb)), .val (.int (f_rmK qc)), .val (.int (f_rmK qd)), .val (.int (1 : Int32)), .unset] [(.ref b9)])) rfl (by rw [hml]; rfl) (argsL := [(.ref b9)]) (rest := []) (lenOf pd__28Ljava_2futil_2fList_3b_29I rfl) rfl (by show 2 * 0 + _ ≤ _; exact Nat.le_of_eq rfl) (hb hby at_190) (fun _ _ => ⟨rfl, e69, (by decide : 10 + 0 ≤ _), (by decide : 33 + 0 ≤ _)⟩)
      dsimp only [Pt.U, Pt.locs, Pt.cells, Pt.slots] at X86 l86 y86 z86 st86 hQ86
      obtain ⟨rfl, N86q, e86⟩ := hQ86
      obtain ⟨lc86, X86, N86⟩ := own_pack X86 l86 y86 z86 N69 N86q (C := 10) (S' := 33) rfl rfl
      refine own_thrH (a := T86.setTop (mkF m 193 #[.val (.int ct), .val (.int qa), .val (.int qb), .val (.int qc), .val (.int qd), .val (.int (3 : Int32)), .val (.ref r1), .val (.ref r3), .val (.ref r5), .val (.ref r7), .val (.ref b9), .val (.int (f_rmK qa)), .val (.int (f_rmK qb)), .val (.int (f_rmK qc)), .val (.int (f_rmK qd)), .val (.int (1 : Int32)), .unset] [(.int (f_rmO3 b9 B51 ke51 r1 r3 r5 (f_rmK qa) (f_rmK qb) (f_rmK qc) cs fm))])) (fun t kt => st86 t kt) ?_
      refine own_thrH (a := T86.setTop (mkF m 207 #[.val (.int ct), .val (.int qa), .val (.int qb), .val (.int qc), .val (.int qd), .val (.int (3 : Int32)), .val (.ref r1), .val (.ref r3), .val (.ref r5), .val (.ref r7), .val (.ref b9), .val (.int (f_rmK qa)), .val (.int (f_rmK qb)), .val (.int (f_rmK qc)), .val (.int (f_rmK qd)), .val (.int (1 : Int32)), .val (.int (f_rmO3 b9 B51 ke51 r1 r3 r5 (f_rmK qa) (f_rmK qb) (f_rmK qc) cs fm))] [(.int (1 : Int32))])) (fun t kt => ?_) ?_
      · show Steps p.tables e below (T86.setTop (mkF m 193 #[.val (.int ct), .val (.int qa), .val (.int qb), .val (.int qc), .val (.int qd), .val (.int (3 : Int32)), .val (.ref r1), .val (.ref r3), .val (.ref r5), .val (.ref r7), .val (.ref b9), .val (.int (f_rmK qa)), .val (.int (f_rmK qb)), .val (.int (f_rmK qc)), .val (.int (f_rmK qd)), .val (.int (1 : Int32)), .unset] [(.int (f_rmO3 b9 B51 ke51 r1 r3 r5 (f_rmK qa) (f_rmK qb) (f_rmK qc) cs fm))])) _
        refine XS.istore X86.here hx rfl (hb hby at_193) rfl (l' := #[.val (.int ct), .val (.int qa), .val (.int qb), .val (.int qc), .val (.int qd), .val (.int (3 : Int32)), .val (.ref r1), .val (.ref r3), .val (.ref r5), .val (.ref r7), .val (.ref b9), .val (.int (f_rmK qa)), .val (.int (f_rmK qb)), .val (.int (f_rmK qc)), .val (.int (f_rmK qd)), .val (.int (1 : Int32)), .val (.int (f_rmO3 b9 B51 ke51 r1 r3 r5 (f_rmK qa) (f_rmK qb) (f_rmK qc) cs fm))]) rfl ?_
        refine XS.iload X86.here hx rfl (hb hby at_195) rfl ?_
        refine XS.iload X86.here hx rfl (hb hby at_197) rfl ?_
        refine XS.icmpNo X86.here hx rfl (hb hby at_199) rfl (teq (by rw [f_rmO3, if_neg (fun q => hc70 ((own_ic _ _).mp q))])).2 ?_
        refine XS.iconst X86.here hx rfl (hb hby at_202) ?_
        refine XS.goto X86.here hx rfl (pc0 := 203) (pc' := 207) rfl (hb hby at_203) (by decide) (by decide) ?_
        exact kt
      exact own_endH X86 hS7 (by rw [e86]; exact Z65k) hZ7 hEL CH63 hh e86 hlk (v := some (.int (1 : Int32))) (fun h => by rw [Bd.returns] at h; cases h) (fun fs hr => retN X86 hx (t := .boolean) Bd.returns (by simp) (hb hby at_207) hr) ⟨rfl, N86⟩ (by decide : 10 ≤ _) (by decide : 33 ≤ _)
  · subst hk
    refine own_thrH (a := T12.setTop (mkF m 52 #[.val (.int ct), .val (.int qa), .val (.int qb), .val (.int qc), .val (.int qd), .val (.int (4 : Int32)), .val (.ref r1), .val (.ref r3), .val (.ref r5), .val (.ref r7), .val (.ref b9), .unset, .unset, .unset, .unset, .unset, .unset] [(.ref r1), (.ref b9)])) (fun t kt => ?_) ?_
    · show Steps p.tables e below (T12.setTop (mkF m 42 #[.val (.int ct), .val (.int qa), .val (.int qb), .val (.int qc), .val (.int qd), .val (.int (4 : Int32)), .val (.ref r1), .val (.ref r3), .val (.ref r5), .val (.ref r7), .val (.ref b9), .unset, .unset, .unset, .unset, .unset, .unset] [])) _
      refine XS.iload X12.here hx rfl (hb hby at_42) rfl ?_
      refine XS.iconst X12.here hx rfl (hb hby at_44) ?_
      refine XS.icmpNo X12.here hx rfl (hb hby at_45) rfl (flt (by decide)).1 ?_
      refine XS.aload X12.here hx rfl (hb hby at_48) rfl rfl ?_
      refine XS.aload X12.here hx rfl (hb hby at_50) rfl rfl ?_
      exact kt
    obtain ⟨cq87, kq87, q87a, q87b, q87c⟩ := isOf hZ7 rfl o12_0
    obtain ⟨_, _, ⟨T87, L87, k87, n87⟩, -, X87, ⟨Lc87, hQ87, l87, y87, z87⟩, st87⟩ := X12.interfaceBack hx (xi := (⟨"java/util/List", "add", "(Ljava/lang/Object;)Z"⟩ : MethodName)) (y := (⟨"java/util/ArrayList", "add", "(Ljava/lang/Object;)Z"⟩ : MethodName)) hown7 (mvT hZ7 (hw _ (List.mem_of_getElem? (i := 56) rfl))) (mvT hZ7 (hw _ (List.mem_of_getElem? (i := 57) rfl))) (mvT hZ7 (hw _ (List.mem_of_getElem? (i := 58) rfl))) (mvT hZ7 (hw _ (List.mem_of_getElem? (i := 59) rfl))) (mvT hZ7 (hw _ (List.mem_of_getElem? (i := 60) rfl))) (mvT hZ7 (hw _ (List.mem_of_getElem? (i := 61) rfl))) (mvT hZ7 (hw _ (List.mem_of_getElem? (i := 62) rfl))) (mvT hZ7 (hw _ (List.mem_of_getElem? (i := 52) rfl))) (by decide) (backOf (W := 0) (rmA1 l Z a0 hw [] b9 r1 de kd T12.heap n0 Z15 o12_0 o12_1 o12_2 o12_3 S_de V_de (c13.keep K12 (allS g_b9 all0)) g_b9 ((bS0.ext E9).keep K12 (allS (Nat.le_of_eq g9.symm) all0)).un.1) hZ7 (hw _ (List.mem_of_getElem? (i := 63) rfl)) (hw _ (List.mem_of_getElem? (i := 14) rfl)) (by decide) (by decide)) q87a q87b q87c (g := (mkF m 52 #[.val (.int ct), .val (.int qa), .val (.int qb), .val (.int qc), .val (.int qd), .val (.int (4 : Int32)), .val (.ref r1), .val (.ref r3), .val (.ref r5), .val (.ref r7), .val (.ref b9), .unset, .unset, .unset, .unset, .unset, .unset] [(.ref r1), (.ref b9)])) rfl (by rw [hml]; rfl) (Steps.refl _) (argsL := [(.ref r1)]) (rest := []) (lenOf pd__28Ljava_2flang_2fObject_3b_29Z rfl) rfl (by show 2 * 0 + _ ≤ _; exact Nat.le_of_eq rfl) (hb hby at_52) (fun _ _ => ⟨rfl, rfl, (by decide : 9 + 1 ≤ _), (by decide : 23 + 10 ≤ _)⟩)
    dsimp only [Pt.U, Pt.locs, Pt.cells, Pt.slots] at X87 l87 y87 z87 st87 hQ87
    obtain ⟨B87, ke87, rfl, N87q, K87, o87_e, o87_m, o87_d, o87_s, o87_a, o87_o, hB87⟩ := hQ87
    have ne_b9_B87 : b9 ≠ B87 := Nat.ne_of_lt (Nat.lt_of_lt_of_le o12_0.lt hB87)
    have g_B87 : n0 ≤ B87 := Nat.le_trans Z15 hB87
    have sz_B87 : h0.size ≤ B87 := Nat.le_trans Z15h hB87
    have gB_B87 := Nat.le_trans (Nat.le_of_eq g9.symm) (Nat.le_of_lt (Nat.lt_of_lt_of_le o12_0.lt hB87))
    have CH88 := CH14.trans (CHr.keep K87 (allS (Safe.exa hZ7.alike o12_0 (by decide) (by decide)) all0) CH14.1)
    have Z89 : n0 ≤ T87.heap.size := Nat.le_trans Z15 K87.1
    have Z89h : h0.size ≤ T87.heap.size := Nat.le_trans Z15h K87.1
    have Z89k := Nat.le_trans Z15k K87.1
    obtain ⟨lc87, X87, N87⟩ := own_pack X87 l87 y87 z87 N12 N87q (C := 10) (S' := 33) rfl rfl
    refine own_thrH (a := T87.setTop (mkF m 57 #[.val (.int ct), .val (.int qa), .val (.int qb), .val (.int qc), .val (.int qd), .val (.int (4 : Int32)), .val (.ref r1), .val (.ref r3), .val (.ref r5), .val (.ref r7), .val (.ref b9), .unset, .unset, .unset, .unset, .unset, .unset] [(.int (1 : Int32))])) (fun t kt => st87.trans kt) ?_
    have c91 := (((bS1.ext E9).keep K12 (allS (Nat.le_of_eq g9.symm) all0)).keep K87 (allS (Nat.le_of_eq g9.symm) all0))
    have er90 := c91.un.1
    refine own_thrH (a := T87.setTop (mkF m 68 #[.val (.int ct), .val (.int qa), .val (.int qb), .val (.int qc), .val (.int qd), .val (.int (4 : Int32)), .val (.ref r1), .val (.ref r3), .val (.ref r5), .val (.ref r7), .val (.ref b9), .unset, .unset, .unset, .unset, .unset, .unset] [(.ref r3), (.ref b9)])) (fun t kt => ?_) ?_
    · show Steps p.tables e below (T87.setTop (mkF m 57 #[.val (.int ct), .val (.int qa), .val (.int qb), .val (.int qc), .val (.int qd), .val (.int (4 : Int32)), .val (.ref r1), .val (.ref r3), .val (.ref r5), .val (.ref r7), .val (.ref b9), .unset, .unset, .unset, .unset, .unset, .unset] [(.int (1 : Int32))])) _
      refine XS.pop X87.here hx rfl (hb hby at_57) rfl rfl ?_
      refine XS.iload X87.here hx rfl (hb hby at_58) rfl ?_
      refine XS.iconst X87.here hx rfl (hb hby at_60) ?_
      refine XS.icmpNo X87.here hx rfl (hb hby at_61) rfl (flt (by decide)).1 ?_
      refine XS.aload X87.here hx rfl (hb hby at_64) rfl rfl ?_
      refine XS.aload X87.here hx rfl (hb hby at_66) rfl rfl ?_
      exact kt
    obtain ⟨cq92, kq92, q92a, q92b, q92c⟩ := isOf hZ7 rfl o87_e
    obtain ⟨_, _, ⟨T92, L92, k92, n92⟩, -, X92, ⟨Lc92, hQ92, l92, y92, z92⟩, st92⟩ := X87.interfaceBack hx (xi := (⟨"java/util/List", "add", "(Ljava/lang/Object;)Z"⟩ : MethodName)) (y := (⟨"java/util/ArrayList", "add", "(Ljava/lang/Object;)Z"⟩ : MethodName)) hown7 (mvT hZ7 (hw _ (List.mem_of_getElem? (i := 56) rfl))) (mvT hZ7 (hw _ (List.mem_of_getElem? (i := 57) rfl))) (mvT hZ7 (hw _ (List.mem_of_getElem? (i := 58) rfl))) (mvT hZ7 (hw _ (List.mem_of_getElem? (i := 59) rfl))) (mvT hZ7 (hw _ (List.mem_of_getElem? (i := 60) rfl))) (mvT hZ7 (hw _ (List.mem_of_getElem? (i := 61) rfl))) (mvT hZ7 (hw _ (List.mem_of_getElem? (i := 62) rfl))) (mvT hZ7 (hw _ (List.mem_of_getElem? (i := 52) rfl))) (by decide) (backOf (W := 0) (rmB11 l Z a0 hw [] b9 r3 B87 ke87 r1 T87.heap n0 Z89 o87_e o87_m o87_d o87_s er90 o87_a g_b9 g_B87 ne_b9_B87 o87_o) hZ7 (hw _ (List.mem_of_getElem? (i := 63) rfl)) (hw _ (List.mem_of_getElem? (i := 14) rfl)) (by decide) (by decide)) q92a q92b q92c (g := (mkF m 68 #[.val (.int ct), .val (.int qa), .val (.int qb), .val (.int qc), .val (.int qd), .val (.int (4 : Int32)), .val (.ref r1), .val (.ref r3), .val (.ref r5), .val (.ref r7), .val (.ref b9), .unset, .unset, .unset, .unset, .unset, .unset] [(.ref r3), (.ref b9)])) rfl (by rw [hml]; rfl) (Steps.refl _) (argsL := [(.ref r3)]) (rest := []) (lenOf pd__28Ljava_2flang_2fObject_3b_29Z rfl) rfl (by show 2 * 0 + _ ≤ _; exact Nat.le_of_eq rfl) (hb hby at_68) (fun _ _ => ⟨rfl, rfl, (by decide : 10 + 0 ≤ _), (by decide : 33 + 0 ≤ _)⟩)
    dsimp only [Pt.U, Pt.locs, Pt.cells, Pt.slots] at X92 l92 y92 z92 st92 hQ92
    obtain ⟨rfl, N92q, K92, o92_0, o92_1, o92_2, o92_3, o92_4⟩ := hQ92
    obtain ⟨clv94, Arv94, -⟩ := id o87_a
    have CH93 := CH88.trans (CHr.keep K92 (allS (Safe.exa hZ7.alike o87_e (by decide) (by decide)) (allS (Safe.arr hZ7.alike Arv94 (by decide)) all0)) CH88.1)
    have Z95 : n0 ≤ T92.heap.size := Nat.le_trans Z89 K92.1
    have Z95h : h0.size ≤ T92.heap.size := Nat.le_trans Z89h K92.1
    have Z95k := Nat.le_trans Z89k K92.1
    obtain ⟨lc92, X92, N92⟩ := own_pack X92 l92 y92 z92 N87 N92q (C := 10) (S' := 33) rfl rfl
    refine own_thrH (a := T92.setTop (mkF m 73 #[.val (.int ct), .val (.int qa), .val (.int qb), .val (.int qc), .val (.int qd), .val (.int (4 : Int32)), .val (.ref r1), .val (.ref r3), .val (.ref r5), .val (.ref r7), .val (.ref b9), .unset, .unset, .unset, .unset, .unset, .unset] [(.int (1 : Int32))])) (fun t kt => st92.trans kt) ?_
    have c97 := ((((bS2.ext E9).keep K12 (allS (Nat.le_of_eq g9.symm) all0)).keep K87 (allS (Nat.le_of_eq g9.symm) all0)).keep K92 (allS (Nat.le_of_eq g9.symm) (allS gB_B87 all0)))
    have er96 := c97.un.1
    refine own_thrH (a := T92.setTop (mkF m 84 #[.val (.int ct), .val (.int qa), .val (.int qb), .val (.int qc), .val (.int qd), .val (.int (4 : Int32)), .val (.ref r1), .val (.ref r3), .val (.ref r5), .val (.ref r7), .val (.ref b9), .unset, .unset, .unset, .unset, .unset, .unset] [(.ref r5), (.ref b9)])) (fun t kt => ?_) ?_
    · show Steps p.tables e below (T92.setTop (mkF m 73 #[.val (.int ct), .val (.int qa), .val (.int qb), .val (.int qc), .val (.int qd), .val (.int (4 : Int32)), .val (.ref r1), .val (.ref r3), .val (.ref r5), .val (.ref r7), .val (.ref b9), .unset, .unset, .unset, .unset, .unset, .unset] [(.int (1 : Int32))])) _
      refine XS.pop X92.here hx rfl (hb hby at_73) rfl rfl ?_
      refine XS.iload X92.here hx rfl (hb hby at_74) rfl ?_
      refine XS.iconst X92.here hx rfl (hb hby at_76) ?_
      refine XS.icmpNo X92.here hx rfl (hb hby at_77) rfl (flt (by decide)).1 ?_
      refine XS.aload X92.here hx rfl (hb hby at_80) rfl rfl ?_
      refine XS.aload X92.here hx rfl (hb hby at_82) rfl rfl ?_
      exact kt
    obtain ⟨cq98, kq98, q98a, q98b, q98c⟩ := isOf hZ7 rfl o92_0
    obtain ⟨_, _, ⟨T98, L98, k98, n98⟩, -, X98, ⟨Lc98, hQ98, l98, y98, z98⟩, st98⟩ := X92.interfaceBack hx (xi := (⟨"java/util/List", "add", "(Ljava/lang/Object;)Z"⟩ : MethodName)) (y := (⟨"java/util/ArrayList", "add", "(Ljava/lang/Object;)Z"⟩ : MethodName)) hown7 (mvT hZ7 (hw _ (List.mem_of_getElem? (i := 56) rfl))) (mvT hZ7 (hw _ (List.mem_of_getElem? (i := 57) rfl))) (mvT hZ7 (hw _ (List.mem_of_getElem? (i := 58) rfl))) (mvT hZ7 (hw _ (List.mem_of_getElem? (i := 59) rfl))) (mvT hZ7 (hw _ (List.mem_of_getElem? (i := 60) rfl))) (mvT hZ7 (hw _ (List.mem_of_getElem? (i := 61) rfl))) (mvT hZ7 (hw _ (List.mem_of_getElem? (i := 62) rfl))) (mvT hZ7 (hw _ (List.mem_of_getElem? (i := 52) rfl))) (by decide) (backOf (W := 0) (rmB12 l Z a0 hw [] b9 r5 B87 ke87 r1 r3 T92.heap n0 Z95 o92_0 o92_1 o92_2 o92_3 er96 o92_4 g_b9 g_B87 ne_b9_B87 o87_o) hZ7 (hw _ (List.mem_of_getElem? (i := 63) rfl)) (hw _ (List.mem_of_getElem? (i := 14) rfl)) (by decide) (by decide)) q98a q98b q98c (g := (mkF m 84 #[.val (.int ct), .val (.int qa), .val (.int qb), .val (.int qc), .val (.int qd), .val (.int (4 : Int32)), .val (.ref r1), .val (.ref r3), .val (.ref r5), .val (.ref r7), .val (.ref b9), .unset, .unset, .unset, .unset, .unset, .unset] [(.ref r5), (.ref b9)])) rfl (by rw [hml]; rfl) (Steps.refl _) (argsL := [(.ref r5)]) (rest := []) (lenOf pd__28Ljava_2flang_2fObject_3b_29Z rfl) rfl (by show 2 * 0 + _ ≤ _; exact Nat.le_of_eq rfl) (hb hby at_84) (fun _ _ => ⟨rfl, rfl, (by decide : 10 + 0 ≤ _), (by decide : 33 + 0 ≤ _)⟩)
    dsimp only [Pt.U, Pt.locs, Pt.cells, Pt.slots] at X98 l98 y98 z98 st98 hQ98
    obtain ⟨rfl, N98q, K98, o98_0, o98_1, o98_2, o98_3, o98_4⟩ := hQ98
    obtain ⟨clv100, Arv100, -⟩ := id o92_4
    have CH99 := CH93.trans (CHr.keep K98 (allS (Safe.exa hZ7.alike o92_0 (by decide) (by decide)) (allS (Safe.arr hZ7.alike Arv100 (by decide)) all0)) CH93.1)
    have Z101 : n0 ≤ T98.heap.size := Nat.le_trans Z95 K98.1
    have Z101h : h0.size ≤ T98.heap.size := Nat.le_trans Z95h K98.1
    have Z101k := Nat.le_trans Z95k K98.1
    obtain ⟨lc98, X98, N98⟩ := own_pack X98 l98 y98 z98 N92 N98q (C := 10) (S' := 33) rfl rfl
    refine own_thrH (a := T98.setTop (mkF m 89 #[.val (.int ct), .val (.int qa), .val (.int qb), .val (.int qc), .val (.int qd), .val (.int (4 : Int32)), .val (.ref r1), .val (.ref r3), .val (.ref r5), .val (.ref r7), .val (.ref b9), .unset, .unset, .unset, .unset, .unset, .unset] [(.int (1 : Int32))])) (fun t kt => st98.trans kt) ?_
    have c103 := (((((bS3.ext E9).keep K12 (allS (Nat.le_of_eq g9.symm) all0)).keep K87 (allS (Nat.le_of_eq g9.symm) all0)).keep K92 (allS (Nat.le_of_eq g9.symm) (allS gB_B87 all0))).keep K98 (allS (Nat.le_of_eq g9.symm) (allS gB_B87 all0)))
    have er102 := c103.un.1
    refine own_thrH (a := T98.setTop (mkF m 100 #[.val (.int ct), .val (.int qa), .val (.int qb), .val (.int qc), .val (.int qd), .val (.int (4 : Int32)), .val (.ref r1), .val (.ref r3), .val (.ref r5), .val (.ref r7), .val (.ref b9), .unset, .unset, .unset, .unset, .unset, .unset] [(.ref r7), (.ref b9)])) (fun t kt => ?_) ?_
    · show Steps p.tables e below (T98.setTop (mkF m 89 #[.val (.int ct), .val (.int qa), .val (.int qb), .val (.int qc), .val (.int qd), .val (.int (4 : Int32)), .val (.ref r1), .val (.ref r3), .val (.ref r5), .val (.ref r7), .val (.ref b9), .unset, .unset, .unset, .unset, .unset, .unset] [(.int (1 : Int32))])) _
      refine XS.pop X98.here hx rfl (hb hby at_89) rfl rfl ?_
      refine XS.iload X98.here hx rfl (hb hby at_90) rfl ?_
      refine XS.iconst X98.here hx rfl (hb hby at_92) ?_
      refine XS.icmpNo X98.here hx rfl (hb hby at_93) rfl (flt (by decide)).1 ?_
      refine XS.aload X98.here hx rfl (hb hby at_96) rfl rfl ?_
      refine XS.aload X98.here hx rfl (hb hby at_98) rfl rfl ?_
      exact kt
    obtain ⟨cq104, kq104, q104a, q104b, q104c⟩ := isOf hZ7 rfl o98_0
    obtain ⟨_, _, ⟨T104, L104, k104, n104⟩, -, X104, ⟨Lc104, hQ104, l104, y104, z104⟩, st104⟩ := X98.interfaceBack hx (xi := (⟨"java/util/List", "add", "(Ljava/lang/Object;)Z"⟩ : MethodName)) (y := (⟨"java/util/ArrayList", "add", "(Ljava/lang/Object;)Z"⟩ : MethodName)) hown7 (mvT hZ7 (hw _ (List.mem_of_getElem? (i := 56) rfl))) (mvT hZ7 (hw _ (List.mem_of_getElem? (i := 57) rfl))) (mvT hZ7 (hw _ (List.mem_of_getElem? (i := 58) rfl))) (mvT hZ7 (hw _ (List.mem_of_getElem? (i := 59) rfl))) (mvT hZ7 (hw _ (List.mem_of_getElem? (i := 60) rfl))) (mvT hZ7 (hw _ (List.mem_of_getElem? (i := 61) rfl))) (mvT hZ7 (hw _ (List.mem_of_getElem? (i := 62) rfl))) (mvT hZ7 (hw _ (List.mem_of_getElem? (i := 52) rfl))) (by decide) (backOf (W := 0) (rmB13 l Z a0 hw [] b9 r7 B87 ke87 r1 r3 r5 T98.heap n0 Z101 o98_0 o98_1 o98_2 o98_3 er102 o98_4 g_b9 g_B87 ne_b9_B87 o87_o) hZ7 (hw _ (List.mem_of_getElem? (i := 63) rfl)) (hw _ (List.mem_of_getElem? (i := 14) rfl)) (by decide) (by decide)) q104a q104b q104c (g := (mkF m 100 #[.val (.int ct), .val (.int qa), .val (.int qb), .val (.int qc), .val (.int qd), .val (.int (4 : Int32)), .val (.ref r1), .val (.ref r3), .val (.ref r5), .val (.ref r7), .val (.ref b9), .unset, .unset, .unset, .unset, .unset, .unset] [(.ref r7), (.ref b9)])) rfl (by rw [hml]; rfl) (Steps.refl _) (argsL := [(.ref r7)]) (rest := []) (lenOf pd__28Ljava_2flang_2fObject_3b_29Z rfl) rfl (by show 2 * 0 + _ ≤ _; exact Nat.le_of_eq rfl) (hb hby at_100) (fun _ _ => ⟨rfl, rfl, (by decide : 10 + 0 ≤ _), (by decide : 33 + 0 ≤ _)⟩)
    dsimp only [Pt.U, Pt.locs, Pt.cells, Pt.slots] at X104 l104 y104 z104 st104 hQ104
    obtain ⟨rfl, N104q, K104, o104_0, o104_1, o104_2, o104_3, o104_4⟩ := hQ104
    obtain ⟨clv106, Arv106, -⟩ := id o98_4
    have CH105 := CH99.trans (CHr.keep K104 (allS (Safe.exa hZ7.alike o98_0 (by decide) (by decide)) (allS (Safe.arr hZ7.alike Arv106 (by decide)) all0)) CH99.1)
    have Z107 : n0 ≤ T104.heap.size := Nat.le_trans Z101 K104.1
    have Z107h : h0.size ≤ T104.heap.size := Nat.le_trans Z101h K104.1
    have Z107k := Nat.le_trans Z101k K104.1
    obtain ⟨lc104, X104, N104⟩ := own_pack X104 l104 y104 z104 N98 N104q (C := 10) (S' := 33) rfl rfl
    refine own_thrH (a := T104.setTop (mkF m 105 #[.val (.int ct), .val (.int qa), .val (.int qb), .val (.int qc), .val (.int qd), .val (.int (4 : Int32)), .val (.ref r1), .val (.ref r3), .val (.ref r5), .val (.ref r7), .val (.ref b9), .unset, .unset, .unset, .unset, .unset, .unset] [(.int (1 : Int32))])) (fun t kt => st104.trans kt) ?_
    refine own_thrH (a := T104.setTop (mkF m 107 #[.val (.int ct), .val (.int qa), .val (.int qb), .val (.int qc), .val (.int qd), .val (.int (4 : Int32)), .val (.ref r1), .val (.ref r3), .val (.ref r5), .val (.ref r7), .val (.ref b9), .unset, .unset, .unset, .unset, .unset, .unset] [(.int qa)])) (fun t kt => ?_) ?_
    · show Steps p.tables e below (T104.setTop (mkF m 105 #[.val (.int ct), .val (.int qa), .val (.int qb), .val (.int qc), .val (.int qd), .val (.int (4 : Int32)), .val (.ref r1), .val (.ref r3), .val (.ref r5), .val (.ref r7), .val (.ref b9), .unset, .unset, .unset, .unset, .unset, .unset] [(.int (1 : Int32))])) _
      refine XS.pop X104.here hx rfl (hb hby at_105) rfl rfl ?_
      refine XS.iloadN X104.here hx rfl (hb hby at_106) rfl ?_
      exact kt
    obtain ⟨_, _, ⟨T108, L108, k108, n108⟩, -, X108, ⟨Lc108, hQ108, l108, y108, z108⟩, st108⟩ := Jvm.LawKit.callS X104 hx (y := (⟨"com/example/tiphys/tiphys/KnowledgeBaseOutOfOrderPinLaw", "key", "(I)I"⟩ : MethodName)) hown7 (mvT hZ7 (hw _ (List.mem_of_getElem? (i := 38) rfl))) (mvT hZ7 (hw _ (List.mem_of_getElem? (i := 39) rfl))) (mvT hZ7 (hw _ (List.mem_of_getElem? (i := 2) rfl))) (mvT hZ7 (hw _ (List.mem_of_getElem? (i := 40) rfl))) (by decide) (backOf (W := 0) (rmK l Z a0 hw [] qa T104.heap n0 Z107) hZ7 (hw _ (List.mem_of_getElem? (i := 40) rfl)) (hw _ (List.mem_of_getElem? (i := 2) rfl)) (by decide) (by decide)) (g := (mkF m 107 #[.val (.int ct), .val (.int qa), .val (.int qb), .val (.int qc), .val (.int qd), .val (.int (4 : Int32)), .val (.ref r1), .val (.ref r3), .val (.ref r5), .val (.ref r7), .val (.ref b9), .unset, .unset, .unset, .unset, .unset, .unset] [(.int qa)])) rfl (by rw [hml]; rfl) (argsL := [(.int qa)]) (rest := []) (lenOf pd__28I_29I rfl) rfl (by show 2 * 0 + _ ≤ _; exact Nat.le_of_eq rfl) (hb hby at_107) (fun _ _ => ⟨rfl, rfl, (by decide : 10 + 0 ≤ _), (by decide : 33 + 0 ≤ _)⟩)
    dsimp only [Pt.U, Pt.locs, Pt.cells, Pt.slots] at X108 l108 y108 z108 st108 hQ108
    obtain ⟨rfl, N108q, e108⟩ := hQ108
    obtain ⟨lc108, X108, N108⟩ := own_pack X108 l108 y108 z108 N104 N108q (C := 10) (S' := 33) rfl rfl
    refine own_thrH (a := T108.setTop (mkF m 110 #[.val (.int ct), .val (.int qa), .val (.int qb), .val (.int qc), .val (.int qd), .val (.int (4 : Int32)), .val (.ref r1), .val (.ref r3), .val (.ref r5), .val (.ref r7), .val (.ref b9), .unset, .unset, .unset, .unset, .unset, .unset] [(.int (f_rmK qa))])) (fun t kt => st108 t kt) ?_
    refine own_thrH (a := T108.setTop (mkF m 113 #[.val (.int ct), .val (.int qa), .val (.int qb), .val (.int qc), .val (.int qd), .val (.int (4 : Int32)), .val (.ref r1), .val (.ref r3), .val (.ref r5), .val (.ref r7), .val (.ref b9), .val (.int (f_rmK qa)), .unset, .unset, .unset, .unset, .unset] [(.int qb)])) (fun t kt => ?_) ?_
    · show Steps p.tables e below (T108.setTop (mkF m 110 #[.val (.int ct), .val (.int qa), .val (.int qb), .val (.int qc), .val (.int qd), .val (.int (4 : Int32)), .val (.ref r1), .val (.ref r3), .val (.ref r5), .val (.ref r7), .val (.ref b9), .unset, .unset, .unset, .unset, .unset, .unset] [(.int (f_rmK qa))])) _
      refine XS.istore X108.here hx rfl (hb hby at_110) rfl (l' := #[.val (.int ct), .val (.int qa), .val (.int qb), .val (.int qc), .val (.int qd), .val (.int (4 : Int32)), .val (.ref r1), .val (.ref r3), .val (.ref r5), .val (.ref r7), .val (.ref b9), .val (.int (f_rmK qa)), .unset, .unset, .unset, .unset, .unset]) rfl ?_
      refine XS.iloadN X108.here hx rfl (hb hby at_112) rfl ?_
      exact kt
    obtain ⟨_, _, ⟨T109, L109, k109, n109⟩, -, X109, ⟨Lc109, hQ109, l109, y109, z109⟩, st109⟩ := Jvm.LawKit.callS X108 hx (y := (⟨"com/example/tiphys/tiphys/KnowledgeBaseOutOfOrderPinLaw", "key", "(I)I"⟩ : MethodName)) hown7 (mvT hZ7 (hw _ (List.mem_of_getElem? (i := 38) rfl))) (mvT hZ7 (hw _ (List.mem_of_getElem? (i := 39) rfl))) (mvT hZ7 (hw _ (List.mem_of_getElem? (i := 2) rfl))) (mvT hZ7 (hw _ (List.mem_of_getElem? (i := 40) rfl))) (by decide) (backOf (W := 0) (rmK l Z a0 hw [] qb T104.heap n0 Z107) hZ7 (hw _ (List.mem_of_getElem? (i := 40) rfl)) (hw _ (List.mem_of_getElem? (i := 2) rfl)) (by decide) (by decide)) (g := (mkF m 113 #[.val (.int ct), .val (.int qa), .val (.int qb), .val (.int qc), .val (.int qd), .val (.int (4 : Int32)), .val (.ref r1), .val (.ref r3), .val (.ref r5), .val (.ref r7), .val (.ref b9), .val (.int (f_rmK qa)), .unset, .unset, .unset, .unset, .unset] [(.int qb)])) rfl (by rw [hml]; rfl) (argsL := [(.int qb)]) (rest := []) (lenOf pd__28I_29I rfl) rfl (by show 2 * 0 + _ ≤ _; exact Nat.le_of_eq rfl) (hb hby at_113) (fun _ _ => ⟨rfl, e108, (by decide : 10 + 0 ≤ _), (by decide : 33 + 0 ≤ _)⟩)
    dsimp only [Pt.U, Pt.locs, Pt.cells, Pt.slots] at X109 l109 y109 z109 st109 hQ109
    obtain ⟨rfl, N109q, e109⟩ := hQ109
    obtain ⟨lc109, X109, N109⟩ := own_pack X109 l109 y109 z109 N108 N109q (C := 10) (S' := 33) rfl rfl
    refine own_thrH (a := T109.setTop (mkF m 116 #[.val (.int ct), .val (.int qa), .val (.int qb), .val (.int qc), .val (.int qd), .val (.int (4 : Int32)), .val (.ref r1), .val (.ref r3), .val (.ref r5), .val (.ref r7), .val (.ref b9), .val (.int (f_rmK qa)), .unset, .unset, .unset, .unset, .unset] [(.int (f_rmK qb))])) (fun t kt => st109 t kt) ?_
    refine own_thrH (a := T109.setTop (mkF m 119 #[.val (.int ct), .val (.int qa), .val (.int qb), .val (.int qc), .val (.int qd), .val (.int (4 : Int32)), .val (.ref r1), .val (.ref r3), .val (.ref r5), .val (.ref r7), .val (.ref b9), .val (.int (f_rmK qa)), .val (.int (f_rmK qb)), .unset, .unset, .unset, .unset] [(.int qc)])) (fun t kt => ?_) ?_
    · show Steps p.tables e below (T109.setTop (mkF m 116 #[.val (.int ct), .val (.int qa), .val (.int qb), .val (.int qc), .val (.int qd), .val (.int (4 : Int32)), .val (.ref r1), .val (.ref r3), .val (.ref r5), .val (.ref r7), .val (.ref b9), .val (.int (f_rmK qa)), .unset, .unset, .unset, .unset, .unset] [(.int (f_rmK qb))])) _
      refine XS.istore X109.here hx rfl (hb hby at_116) rfl (l' := #[.val (.int ct), .val (.int qa), .val (.int qb), .val (.int qc), .val (.int qd), .val (.int (4 : Int32)), .val (.ref r1), .val (.ref r3), .val (.ref r5), .val (.ref r7), .val (.ref b9), .val (.int (f_rmK qa)), .val (.int (f_rmK qb)), .unset, .unset, .unset, .unset]) rfl ?_
      refine XS.iloadN X109.here hx rfl (hb hby at_118) rfl ?_
      exact kt
    obtain ⟨_, _, ⟨T110, L110, k110, n110⟩, -, X110, ⟨Lc110, hQ110, l110, y110, z110⟩, st110⟩ := Jvm.LawKit.callS X109 hx (y := (⟨"com/example/tiphys/tiphys/KnowledgeBaseOutOfOrderPinLaw", "key", "(I)I"⟩ : MethodName)) hown7 (mvT hZ7 (hw _ (List.mem_of_getElem? (i := 38) rfl))) (mvT hZ7 (hw _ (List.mem_of_getElem? (i := 39) rfl))) (mvT hZ7 (hw _ (List.mem_of_getElem? (i := 2) rfl))) (mvT hZ7 (hw _ (List.mem_of_getElem? (i := 40) rfl))) (by decide) (backOf (W := 0) (rmK l Z a0 hw [] qc T104.heap n0 Z107) hZ7 (hw _ (List.mem_of_getElem? (i := 40) rfl)) (hw _ (List.mem_of_getElem? (i := 2) rfl)) (by decide) (by decide)) (g := (mkF m 119 #[.val (.int ct), .val (.int qa), .val (.int qb), .val (.int qc), .val (.int qd), .val (.int (4 : Int32)), .val (.ref r1), .val (.ref r3), .val (.ref r5), .val (.ref r7), .val (.ref b9), .val (.int (f_rmK qa)), .val (.int (f_rmK qb)), .unset, .unset, .unset, .unset] [(.int qc)])) rfl (by rw [hml]; rfl) (argsL := [(.int qc)]) (rest := []) (lenOf pd__28I_29I rfl) rfl (by show 2 * 0 + _ ≤ _; exact Nat.le_of_eq rfl) (hb hby at_119) (fun _ _ => ⟨rfl, e109, (by decide : 10 + 0 ≤ _), (by decide : 33 + 0 ≤ _)⟩)
    dsimp only [Pt.U, Pt.locs, Pt.cells, Pt.slots] at X110 l110 y110 z110 st110 hQ110
    obtain ⟨rfl, N110q, e110⟩ := hQ110
    obtain ⟨lc110, X110, N110⟩ := own_pack X110 l110 y110 z110 N109 N110q (C := 10) (S' := 33) rfl rfl
    refine own_thrH (a := T110.setTop (mkF m 122 #[.val (.int ct), .val (.int qa), .val (.int qb), .val (.int qc), .val (.int qd), .val (.int (4 : Int32)), .val (.ref r1), .val (.ref r3), .val (.ref r5), .val (.ref r7), .val (.ref b9), .val (.int (f_rmK qa)), .val (.int (f_rmK qb)), .unset, .unset, .unset, .unset] [(.int (f_rmK qc))])) (fun t kt => st110 t kt) ?_
    refine own_thrH (a := T110.setTop (mkF m 126 #[.val (.int ct), .val (.int qa), .val (.int qb), .val (.int qc), .val (.int qd), .val (.int (4 : Int32)), .val (.ref r1), .val (.ref r3), .val (.ref r5), .val (.ref r7), .val (.ref b9), .val (.int (f_rmK qa)), .val (.int (f_rmK qb)), .val (.int (f_rmK qc)), .unset, .unset, .unset] [(.int qd)])) (fun t kt => ?_) ?_
    · show Steps p.tables e below (T110.setTop (mkF m 122 #[.val (.int ct), .val (.int qa), .val (.int qb), .val (.int qc), .val (.int qd), .val (.int (4 : Int32)), .val (.ref r1), .val (.ref r3), .val (.ref r5), .val (.ref r7), .val (.ref b9), .val (.int (f_rmK qa)), .val (.int (f_rmK qb)), .unset, .unset, .unset, .unset] [(.int (f_rmK qc))])) _
      refine XS.istore X110.here hx rfl (hb hby at_122) rfl (l' := #[.val (.int ct), .val (.int qa), .val (.int qb), .val (.int qc), .val (.int qd), .val (.int (4 : Int32)), .val (.ref r1), .val (.ref r3), .val (.ref r5), .val (.ref r7), .val (.ref b9), .val (.int (f_rmK qa)), .val (.int (f_rmK qb)), .val (.int (f_rmK qc)), .unset, .unset, .unset]) rfl ?_
      refine XS.iload X110.here hx rfl (hb hby at_124) rfl ?_
      exact kt
    obtain ⟨_, _, ⟨T111, L111, k111, n111⟩, -, X111, ⟨Lc111, hQ111, l111, y111, z111⟩, st111⟩ := Jvm.LawKit.callS X110 hx (y := (⟨"com/example/tiphys/tiphys/KnowledgeBaseOutOfOrderPinLaw", "key", "(I)I"⟩ : MethodName)) hown7 (mvT hZ7 (hw _ (List.mem_of_getElem? (i := 38) rfl))) (mvT hZ7 (hw _ (List.mem_of_getElem? (i := 39) rfl))) (mvT hZ7 (hw _ (List.mem_of_getElem? (i := 2) rfl))) (mvT hZ7 (hw _ (List.mem_of_getElem? (i := 40) rfl))) (by decide) (backOf (W := 0) (rmK l Z a0 hw [] qd T104.heap n0 Z107) hZ7 (hw _ (List.mem_of_getElem? (i := 40) rfl)) (hw _ (List.mem_of_getElem? (i := 2) rfl)) (by decide) (by decide)) (g := (mkF m 126 #[.val (.int ct), .val (.int qa), .val (.int qb), .val (.int qc), .val (.int qd), .val (.int (4 : Int32)), .val (.ref r1), .val (.ref r3), .val (.ref r5), .val (.ref r7), .val (.ref b9), .val (.int (f_rmK qa)), .val (.int (f_rmK qb)), .val (.int (f_rmK qc)), .unset, .unset, .unset] [(.int qd)])) rfl (by rw [hml]; rfl) (argsL := [(.int qd)]) (rest := []) (lenOf pd__28I_29I rfl) rfl (by show 2 * 0 + _ ≤ _; exact Nat.le_of_eq rfl) (hb hby at_126) (fun _ _ => ⟨rfl, e110, (by decide : 10 + 0 ≤ _), (by decide : 33 + 0 ≤ _)⟩)
    dsimp only [Pt.U, Pt.locs, Pt.cells, Pt.slots] at X111 l111 y111 z111 st111 hQ111
    obtain ⟨rfl, N111q, e111⟩ := hQ111
    obtain ⟨lc111, X111, N111⟩ := own_pack X111 l111 y111 z111 N110 N111q (C := 10) (S' := 33) rfl rfl
    refine own_thrH (a := T111.setTop (mkF m 129 #[.val (.int ct), .val (.int qa), .val (.int qb), .val (.int qc), .val (.int qd), .val (.int (4 : Int32)), .val (.ref r1), .val (.ref r3), .val (.ref r5), .val (.ref r7), .val (.ref b9), .val (.int (f_rmK qa)), .val (.int (f_rmK qb)), .val (.int (f_rmK qc)), .unset, .unset, .unset] [(.int (f_rmK qd))])) (fun t kt => st111 t kt) ?_
    refine own_thrH (a := T111.setTop (mkF m 144 #[.val (.int ct), .val (.int qa), .val (.int qb), .val (.int qc), .val (.int qd), .val (.int (4 : Int32)), .val (.ref r1), .val (.ref r3), .val (.ref r5), .val (.ref r7), .val (.ref b9), .val (.int (f_rmK qa)), .val (.int (f_rmK qb)), .val (.int (f_rmK qc)), .val (.int (f_rmK qd)), .val (.int (-1 : Int32)), .unset] [(.int (f_rmK qb)), (.int (f_rmK qa))])) (fun t kt => ?_) ?_
    · show Steps p.tables e below (T111.setTop (mkF m 129 #[.val (.int ct), .val (.int qa), .val (.int qb), .val (.int qc), .val (.int qd), .val (.int (4 : Int32)), .val (.ref r1), .val (.ref r3), .val (.ref r5), .val (.ref r7), .val (.ref b9), .val (.int (f_rmK qa)), .val (.int (f_rmK qb)), .val (.int (f_rmK qc)), .unset, .unset, .unset] [(.int (f_rmK qd))])) _
      refine XS.istore X111.here hx rfl (hb hby at_129) rfl (l' := #[.val (.int ct), .val (.int qa), .val (.int qb), .val (.int qc), .val (.int qd), .val (.int (4 : Int32)), .val (.ref r1), .val (.ref r3), .val (.ref r5), .val (.ref r7), .val (.ref b9), .val (.int (f_rmK qa)), .val (.int (f_rmK qb)), .val (.int (f_rmK qc)), .val (.int (f_rmK qd)), .unset, .unset]) rfl ?_
      refine XS.iconst X111.here hx rfl (hb hby at_131) ?_
      refine XS.istore X111.here hx rfl (hb hby at_132) rfl (l' := #[.val (.int ct), .val (.int qa), .val (.int qb), .val (.int qc), .val (.int qd), .val (.int (4 : Int32)), .val (.ref r1), .val (.ref r3), .val (.ref r5), .val (.ref r7), .val (.ref b9), .val (.int (f_rmK qa)), .val (.int (f_rmK qb)), .val (.int (f_rmK qc)), .val (.int (f_rmK qd)), .val (.int (-1 : Int32)), .unset]) rfl ?_
      refine XS.iload X111.here hx rfl (hb hby at_134) rfl ?_
      refine XS.iconst X111.here hx rfl (hb hby at_136) ?_
      refine XS.icmpNo X111.here hx rfl (hb hby at_137) rfl (flt (by decide)).1 ?_
      refine XS.iload X111.here hx rfl (hb hby at_140) rfl ?_
      refine XS.iload X111.here hx rfl (hb hby at_142) rfl ?_
      exact kt
    by_cases hc112 : (f_rmK qa) < (f_rmK qb)
    · refine own_thrH (a := T111.setTop (mkF m 163 #[.val (.int ct), .val (.int qa), .val (.int qb), .val (.int qc), .val (.int qd), .val (.int (4 : Int32)), .val (.ref r1), .val (.ref r3), .val (.ref r5), .val (.ref r7), .val (.ref b9), .val (.int (f_rmK qa)), .val (.int (f_rmK qb)), .val (.int (f_rmK qc)), .val (.int (f_rmK qd)), .val (.int (-1 : Int32)), .unset] [(.int (f_rmK qc)), (.int (f_rmK qb))])) (fun t kt => ?_) ?_
      · show Steps p.tables e below (T111.setTop (mkF m 144 #[.val (.int ct), .val (.int qa), .val (.int qb), .val (.int qc), .val (.int qd), .val (.int (4 : Int32)), .val (.ref r1), .val (.ref r3), .val (.ref r5), .val (.ref r7), .val (.ref b9), .val (.int (f_rmK qa)), .val (.int (f_rmK qb)), .val (.int (f_rmK qc)), .val (.int (f_rmK qd)), .val (.int (-1 : Int32)), .unset] [(.int (f_rmK qb)), (.int (f_rmK qa))])) _
        refine XS.icmpYes X111.here hx rfl (pc0 := 144) (pc' := 153) rfl (hb hby at_144) rfl (tlt hc112).1 (by decide) (by decide) ?_
        refine XS.iload X111.here hx rfl (hb hby at_153) rfl ?_
        refine XS.iconst X111.here hx rfl (hb hby at_155) ?_
        refine XS.icmpNo X111.here hx rfl (hb hby at_156) rfl (flt (by decide)).1 ?_
        refine XS.iload X111.here hx rfl (hb hby at_159) rfl ?_
        refine XS.iload X111.here hx rfl (hb hby at_161) rfl ?_
        exact kt
      by_cases hc113 : (f_rmK qb) < (f_rmK qc)
      · refine own_thrH (a := T111.setTop (mkF m 182 #[.val (.int ct), .val (.int qa), .val (.int qb), .val (.int qc), .val (.int qd), .val (.int (4 : Int32)), .val (.ref r1), .val (.ref r3), .val (.ref r5), .val (.ref r7), .val (.ref b9), .val (.int (f_rmK qa)), .val (.int (f_rmK qb)), .val (.int (f_rmK qc)), .val (.int (f_rmK qd)), .val (.int (-1 : Int32)), .unset] [(.int (f_rmK qd)), (.int (f_rmK qc))])) (fun t kt => ?_) ?_
        · show Steps p.tables e below (T111.setTop (mkF m 163 #[.val (.int ct), .val (.int qa), .val (.int qb), .val (.int qc), .val (.int qd), .val (.int (4 : Int32)), .val (.ref r1), .val (.ref r3), .val (.ref r5), .val (.ref r7), .val (.ref b9), .val (.int (f_rmK qa)), .val (.int (f_rmK qb)), .val (.int (f_rmK qc)), .val (.int (f_rmK qd)), .val (.int (-1 : Int32)), .unset] [(.int (f_rmK qc)), (.int (f_rmK qb))])) _
          refine XS.icmpYes X111.here hx rfl (pc0 := 163) (pc' := 172) rfl (hb hby at_163) rfl (tlt hc113).1 (by decide) (by decide) ?_
          refine XS.iload X111.here hx rfl (hb hby at_172) rfl ?_
          refine XS.iconst X111.here hx rfl (hb hby at_174) ?_
          refine XS.icmpNo X111.here hx rfl (hb hby at_175) rfl (flt (by decide)).1 ?_
          refine XS.iload X111.here hx rfl (hb hby at_178) rfl ?_
          refine XS.iload X111.here hx rfl (hb hby at_180) rfl ?_
          exact kt
        by_cases hc114 : (f_rmK qc) < (f_rmK qd)
        · have c115 := ((((((bS0.ext E9).keep K12 (allS (Nat.le_of_eq g9.symm) all0)).keep K87 (allS (Nat.le_of_eq g9.symm) all0)).keep K92 (allS (Nat.le_of_eq g9.symm) (allS gB_B87 all0))).keep K98 (allS (Nat.le_of_eq g9.symm) (allS gB_B87 all0))).keep K104 (allS (Nat.le_of_eq g9.symm) (allS gB_B87 all0)))
          have c116 := (((c91.keep K92 (allS (Nat.le_of_eq g9.symm) (allS gB_B87 all0))).keep K98 (allS (Nat.le_of_eq g9.symm) (allS gB_B87 all0))).keep K104 (allS (Nat.le_of_eq g9.symm) (allS gB_B87 all0)))
          have c117 := ((c97.keep K98 (allS (Nat.le_of_eq g9.symm) (allS gB_B87 all0))).keep K104 (allS (Nat.le_of_eq g9.symm) (allS gB_B87 all0)))
          have c118 := (c103.keep K104 (allS (Nat.le_of_eq g9.symm) (allS gB_B87 all0)))
          have c119 := (((((c13.keep K12 (allS g_b9 all0)).keep K87 (allS g_b9 all0)).keep K92 (allS g_b9 (allS g_B87 all0))).keep K98 (allS g_b9 (allS g_B87 all0))).keep K104 (allS g_b9 (allS g_B87 all0)))
          refine own_thrH (a := T111.setTop (mkF m 190 #[.val (.int ct), .val (.int qa), .val (.int qb), .val (.int qc), .val (.int qd), .val (.int (4 : Int32)), .val (.ref r1), .val (.ref r3), .val (.ref r5), .val (.ref r7), .val (.ref b9), .val (.int (f_rmK qa)), .val (.int (f_rmK qb)), .val (.int (f_rmK qc)), .val (.int (f_rmK qd)), .val (.int (-1 : Int32)), .unset] [(.ref b9)])) (fun t kt => ?_) ?_
          · show Steps p.tables e below (T111.setTop (mkF m 182 #[.val (.int ct), .val (.int qa), .val (.int qb), .val (.int qc), .val (.int qd), .val (.int (4 : Int32)), .val (.ref r1), .val (.ref r3), .val (.ref r5), .val (.ref r7), .val (.ref b9), .val (.int (f_rmK qa)), .val (.int (f_rmK qb)), .val (.int (f_rmK qc)), .val (.int (f_rmK qd)), .val (.int (-1 : Int32)), .unset] [(.int (f_rmK qd)), (.int (f_rmK qc))])) _
            refine XS.icmpYes X111.here hx rfl (pc0 := 182) (pc' := 188) rfl (hb hby at_182) rfl (tlt hc114).1 (by decide) (by decide) ?_
            refine XS.aload X111.here hx rfl (hb hby at_188) rfl rfl ?_
            exact kt
          obtain ⟨_, _, ⟨T120, L120, k120, n120⟩, -, X120, ⟨Lc120, hQ120, l120, y120, z120⟩, st120⟩ := Jvm.LawKit.callS X111 hx (y := (⟨"com/example/tiphys/tiphys/KnowledgeBase", "outOfOrder", "(Ljava/util/List;)I"⟩ : MethodName)) hown7 (mvT hZ7 (hw _ (List.mem_of_getElem? (i := 41) rfl))) (mvT hZ7 (hw _ (List.mem_of_getElem? (i := 42) rfl))) (mvT hZ7 (hw _ (List.mem_of_getElem? (i := 43) rfl))) (mvT hZ7 (hw _ (List.mem_of_getElem? (i := 44) rfl))) (by decide) (backOf (W := 0) (rmO4 l Z a0 hw [] b9 B87 ke87 r1 r3 r5 r7 (f_rmK qa) (f_rmK qb) (f_rmK qc) (f_rmK qd) cs fm T104.heap n0 Z107 o104_0 o104_3 o104_2 o104_4 c115.un c116.un c117.un c118.un S_cs hcs S_fm hfm c119) hZ7 (hw _ (List.mem_of_getElem? (i := 44) rfl)) (hw _ (List.mem_of_getElem? (i := 43) rfl)) (by decide) (by decide)) (g := (mkF m 190 #[.val (.int ct), .val (.int qa), .val (.int qb), .val (.int qc), .val (.int qd), .val (.int (4 : Int32)), .val (.ref r1), .val (.ref r3), .val (.ref r5), .val (.ref r7), .val (.ref b9), .val (.int (f_rmK qa)), .val (.int (f_rmK qb)), .val (.int (f_rmK qc)), .val (.int (f_rmK qd)), .val (.int (-1 : Int32)), .unset] [(.ref b9)])) rfl (by rw [hml]; rfl) (argsL := [(.ref b9)]) (rest := []) (lenOf pd__28Ljava_2futil_2fList_3b_29I rfl) rfl (by show 2 * 0 + _ ≤ _; exact Nat.le_of_eq rfl) (hb hby at_190) (fun _ _ => ⟨rfl, e111, (by decide : 10 + 0 ≤ _), (by decide : 33 + 0 ≤ _)⟩)
          dsimp only [Pt.U, Pt.locs, Pt.cells, Pt.slots] at X120 l120 y120 z120 st120 hQ120
          obtain ⟨rfl, N120q, e120⟩ := hQ120
          obtain ⟨lc120, X120, N120⟩ := own_pack X120 l120 y120 z120 N111 N120q (C := 10) (S' := 33) rfl rfl
          refine own_thrH (a := T120.setTop (mkF m 193 #[.val (.int ct), .val (.int qa), .val (.int qb), .val (.int qc), .val (.int qd), .val (.int (4 : Int32)), .val (.ref r1), .val (.ref r3), .val (.ref r5), .val (.ref r7), .val (.ref b9), .val (.int (f_rmK qa)), .val (.int (f_rmK qb)), .val (.int (f_rmK qc)), .val (.int (f_rmK qd)), .val (.int (-1 : Int32)), .unset] [(.int (f_rmO4 b9 B87 ke87 r1 r3 r5 r7 (f_rmK qa) (f_rmK qb) (f_rmK qc) (f_rmK qd) cs fm))])) (fun t kt => st120 t kt) ?_
          refine own_thrH (a := T120.setTop (mkF m 207 #[.val (.int ct), .val (.int qa), .val (.int qb), .val (.int qc), .val (.int qd), .val (.int (4 : Int32)), .val (.ref r1), .val (.ref r3), .val (.ref r5), .val (.ref r7), .val (.ref b9), .val (.int (f_rmK qa)), .val (.int (f_rmK qb)), .val (.int (f_rmK qc)), .val (.int (f_rmK qd)), .val (.int (-1 : Int32)), .val (.int (f_rmO4 b9 B87 ke87 r1 r3 r5 r7 (f_rmK qa) (f_rmK qb) (f_rmK qc) (f_rmK qd) cs fm))] [(.int (1 : Int32))])) (fun t kt => ?_) ?_
          · show Steps p.tables e below (T120.setTop (mkF m 193 #[.val (.int ct), .val (.int qa), .val (.int qb), .val (.int qc), .val (.int qd), .val (.int (4 : Int32)), .val (.ref r1), .val (.ref r3), .val (.ref r5), .val (.ref r7), .val (.ref b9), .val (.int (f_rmK qa)), .val (.int (f_rmK qb)), .val (.int (f_rmK qc)), .val (.int (f_rmK qd)), .val (.int (-1 : Int32)), .unset] [(.int (f_rmO4 b9 B87 ke87 r1 r3 r5 r7 (f_rmK qa) (f_rmK qb) (f_rmK qc) (f_rmK qd) cs fm))])) _
            refine XS.istore X120.here hx rfl (hb hby at_193) rfl (l' := #[.val (.int ct), .val (.int qa), .val (.int qb), .val (.int qc), .val (.int qd), .val (.int (4 : Int32)), .val (.ref r1), .val (.ref r3), .val (.ref r5), .val (.ref r7), .val (.ref b9), .val (.int (f_rmK qa)), .val (.int (f_rmK qb)), .val (.int (f_rmK qc)), .val (.int (f_rmK qd)), .val (.int (-1 : Int32)), .val (.int (f_rmO4 b9 B87 ke87 r1 r3 r5 r7 (f_rmK qa) (f_rmK qb) (f_rmK qc) (f_rmK qd) cs fm))]) rfl ?_
            refine XS.iload X120.here hx rfl (hb hby at_195) rfl ?_
            refine XS.iload X120.here hx rfl (hb hby at_197) rfl ?_
            refine XS.icmpNo X120.here hx rfl (hb hby at_199) rfl (teq (by rw [f_rmO4, if_pos ((own_ic _ _).mpr hc112), if_pos ((own_ic _ _).mpr hc113), if_pos ((own_ic _ _).mpr hc114)])).2 ?_
            refine XS.iconst X120.here hx rfl (hb hby at_202) ?_
            refine XS.goto X120.here hx rfl (pc0 := 203) (pc' := 207) rfl (hb hby at_203) (by decide) (by decide) ?_
            exact kt
          exact own_endH X120 hS7 (by rw [e120]; exact Z107k) hZ7 hEL CH105 hh e120 hlk (v := some (.int (1 : Int32))) (fun h => by rw [Bd.returns] at h; cases h) (fun fs hr => retN X120 hx (t := .boolean) Bd.returns (by simp) (hb hby at_207) hr) ⟨rfl, N120⟩ (by decide : 10 ≤ _) (by decide : 33 ≤ _)
        · have c121 := ((((((bS0.ext E9).keep K12 (allS (Nat.le_of_eq g9.symm) all0)).keep K87 (allS (Nat.le_of_eq g9.symm) all0)).keep K92 (allS (Nat.le_of_eq g9.symm) (allS gB_B87 all0))).keep K98 (allS (Nat.le_of_eq g9.symm) (allS gB_B87 all0))).keep K104 (allS (Nat.le_of_eq g9.symm) (allS gB_B87 all0)))
          have c122 := (((c91.keep K92 (allS (Nat.le_of_eq g9.symm) (allS gB_B87 all0))).keep K98 (allS (Nat.le_of_eq g9.symm) (allS gB_B87 all0))).keep K104 (allS (Nat.le_of_eq g9.symm) (allS gB_B87 all0)))
          have c123 := ((c97.keep K98 (allS (Nat.le_of_eq g9.symm) (allS gB_B87 all0))).keep K104 (allS (Nat.le_of_eq g9.symm) (allS gB_B87 all0)))
          have c124 := (c103.keep K104 (allS (Nat.le_of_eq g9.symm) (allS gB_B87 all0)))
          have c125 := (((((c13.keep K12 (allS g_b9 all0)).keep K87 (allS g_b9 all0)).keep K92 (allS g_b9 (allS g_B87 all0))).keep K98 (allS g_b9 (allS g_B87 all0))).keep K104 (allS g_b9 (allS g_B87 all0)))
          refine own_thrH (a := T111.setTop (mkF m 190 #[.val (.int ct), .val (.int qa), .val (.int qb), .val (.int qc), .val (.int qd), .val (.int (4 : Int32)), .val (.ref r1), .val (.ref r3), .val (.ref r5), .val (.ref r7), .val (.ref b9), .val (.int (f_rmK qa)), .val (.int (f_rmK qb)), .val (.int (f_rmK qc)), .val (.int (f_rmK qd)), .val (.int (3 : Int32)), .unset] [(.ref b9)])) (fun t kt => ?_) ?_
          · show Steps p.tables e below (T111.setTop (mkF m 182 #[.val (.int ct), .val (.int qa), .val (.int qb), .val (.int qc), .val (.int qd), .val (.int (4 : Int32)), .val (.ref r1), .val (.ref r3), .val (.ref r5), .val (.ref r7), .val (.ref b9), .val (.int (f_rmK qa)), .val (.int (f_rmK qb)), .val (.int (f_rmK qc)), .val (.int (f_rmK qd)), .val (.int (-1 : Int32)), .unset] [(.int (f_rmK qd)), (.int (f_rmK qc))])) _
            refine XS.icmpNo X111.here hx rfl (hb hby at_182) rfl (flt hc114).1 ?_
            refine XS.iconst X111.here hx rfl (hb hby at_185) ?_
            refine XS.istore X111.here hx rfl (hb hby at_186) rfl (l' := #[.val (.int ct), .val (.int qa), .val (.int qb), .val (.int qc), .val (.int qd), .val (.int (4 : Int32)), .val (.ref r1), .val (.ref r3), .val (.ref r5), .val (.ref r7), .val (.ref b9), .val (.int (f_rmK qa)), .val (.int (f_rmK qb)), .val (.int (f_rmK qc)), .val (.int (f_rmK qd)), .val (.int (3 : Int32)), .unset]) rfl ?_
            refine XS.aload X111.here hx rfl (hb hby at_188) rfl rfl ?_
            exact kt
          obtain ⟨_, _, ⟨T126, L126, k126, n126⟩, -, X126, ⟨Lc126, hQ126, l126, y126, z126⟩, st126⟩ := Jvm.LawKit.callS X111 hx (y := (⟨"com/example/tiphys/tiphys/KnowledgeBase", "outOfOrder", "(Ljava/util/List;)I"⟩ : MethodName)) hown7 (mvT hZ7 (hw _ (List.mem_of_getElem? (i := 41) rfl))) (mvT hZ7 (hw _ (List.mem_of_getElem? (i := 42) rfl))) (mvT hZ7 (hw _ (List.mem_of_getElem? (i := 43) rfl))) (mvT hZ7 (hw _ (List.mem_of_getElem? (i := 44) rfl))) (by decide) (backOf (W := 0) (rmO4 l Z a0 hw [] b9 B87 ke87 r1 r3 r5 r7 (f_rmK qa) (f_rmK qb) (f_rmK qc) (f_rmK qd) cs fm T104.heap n0 Z107 o104_0 o104_3 o104_2 o104_4 c121.un c122.un c123.un c124.un S_cs hcs S_fm hfm c125) hZ7 (hw _ (List.mem_of_getElem? (i := 44) rfl)) (hw _ (List.mem_of_getElem? (i := 43) rfl)) (by decide) (by decide)) (g := (mkF m 190 #[.val (.int ct), .val (.int qa), .val (.int qb), .val (.int qc), .val (.int qd), .val (.int (4 : Int32)), .val (.ref r1), .val (.ref r3), .val (.ref r5), .val (.ref r7), .val (.ref b9), .val (.int (f_rmK qa)), .val (.int (f_rmK qb)), .val (.int (f_rmK qc)), .val (.int (f_rmK qd)), .val (.int (3 : Int32)), .unset] [(.ref b9)])) rfl (by rw [hml]; rfl) (argsL := [(.ref b9)]) (rest := []) (lenOf pd__28Ljava_2futil_2fList_3b_29I rfl) rfl (by show 2 * 0 + _ ≤ _; exact Nat.le_of_eq rfl) (hb hby at_190) (fun _ _ => ⟨rfl, e111, (by decide : 10 + 0 ≤ _), (by decide : 33 + 0 ≤ _)⟩)
          dsimp only [Pt.U, Pt.locs, Pt.cells, Pt.slots] at X126 l126 y126 z126 st126 hQ126
          obtain ⟨rfl, N126q, e126⟩ := hQ126
          obtain ⟨lc126, X126, N126⟩ := own_pack X126 l126 y126 z126 N111 N126q (C := 10) (S' := 33) rfl rfl
          refine own_thrH (a := T126.setTop (mkF m 193 #[.val (.int ct), .val (.int qa), .val (.int qb), .val (.int qc), .val (.int qd), .val (.int (4 : Int32)), .val (.ref r1), .val (.ref r3), .val (.ref r5), .val (.ref r7), .val (.ref b9), .val (.int (f_rmK qa)), .val (.int (f_rmK qb)), .val (.int (f_rmK qc)), .val (.int (f_rmK qd)), .val (.int (3 : Int32)), .unset] [(.int (f_rmO4 b9 B87 ke87 r1 r3 r5 r7 (f_rmK qa) (f_rmK qb) (f_rmK qc) (f_rmK qd) cs fm))])) (fun t kt => st126 t kt) ?_
          refine own_thrH (a := T126.setTop (mkF m 207 #[.val (.int ct), .val (.int qa), .val (.int qb), .val (.int qc), .val (.int qd), .val (.int (4 : Int32)), .val (.ref r1), .val (.ref r3), .val (.ref r5), .val (.ref r7), .val (.ref b9), .val (.int (f_rmK qa)), .val (.int (f_rmK qb)), .val (.int (f_rmK qc)), .val (.int (f_rmK qd)), .val (.int (3 : Int32)), .val (.int (f_rmO4 b9 B87 ke87 r1 r3 r5 r7 (f_rmK qa) (f_rmK qb) (f_rmK qc) (f_rmK qd) cs fm))] [(.int (1 : Int32))])) (fun t kt => ?_) ?_
          · show Steps p.tables e below (T126.setTop (mkF m 193 #[.val (.int ct), .val (.int qa), .val (.int qb), .val (.int qc), .val (.int qd), .val (.int (4 : Int32)), .val (.ref r1), .val (.ref r3), .val (.ref r5), .val (.ref r7), .val (.ref b9), .val (.int (f_rmK qa)), .val (.int (f_rmK qb)), .val (.int (f_rmK qc)), .val (.int (f_rmK qd)), .val (.int (3 : Int32)), .unset] [(.int (f_rmO4 b9 B87 ke87 r1 r3 r5 r7 (f_rmK qa) (f_rmK qb) (f_rmK qc) (f_rmK qd) cs fm))])) _
            refine XS.istore X126.here hx rfl (hb hby at_193) rfl (l' := #[.val (.int ct), .val (.int qa), .val (.int qb), .val (.int qc), .val (.int qd), .val (.int (4 : Int32)), .val (.ref r1), .val (.ref r3), .val (.ref r5), .val (.ref r7), .val (.ref b9), .val (.int (f_rmK qa)), .val (.int (f_rmK qb)), .val (.int (f_rmK qc)), .val (.int (f_rmK qd)), .val (.int (3 : Int32)), .val (.int (f_rmO4 b9 B87 ke87 r1 r3 r5 r7 (f_rmK qa) (f_rmK qb) (f_rmK qc) (f_rmK qd) cs fm))]) rfl ?_
            refine XS.iload X126.here hx rfl (hb hby at_195) rfl ?_
            refine XS.iload X126.here hx rfl (hb hby at_197) rfl ?_
            refine XS.icmpNo X126.here hx rfl (hb hby at_199) rfl (teq (by rw [f_rmO4, if_pos ((own_ic _ _).mpr hc112), if_pos ((own_ic _ _).mpr hc113), if_neg (fun q => hc114 ((own_ic _ _).mp q))])).2 ?_
            refine XS.iconst X126.here hx rfl (hb hby at_202) ?_
            refine XS.goto X126.here hx rfl (pc0 := 203) (pc' := 207) rfl (hb hby at_203) (by decide) (by decide) ?_
            exact kt
          exact own_endH X126 hS7 (by rw [e126]; exact Z107k) hZ7 hEL CH105 hh e126 hlk (v := some (.int (1 : Int32))) (fun h => by rw [Bd.returns] at h; cases h) (fun fs hr => retN X126 hx (t := .boolean) Bd.returns (by simp) (hb hby at_207) hr) ⟨rfl, N126⟩ (by decide : 10 ≤ _) (by decide : 33 ≤ _)
      · have c127 := ((((((bS0.ext E9).keep K12 (allS (Nat.le_of_eq g9.symm) all0)).keep K87 (allS (Nat.le_of_eq g9.symm) all0)).keep K92 (allS (Nat.le_of_eq g9.symm) (allS gB_B87 all0))).keep K98 (allS (Nat.le_of_eq g9.symm) (allS gB_B87 all0))).keep K104 (allS (Nat.le_of_eq g9.symm) (allS gB_B87 all0)))
        have c128 := (((c91.keep K92 (allS (Nat.le_of_eq g9.symm) (allS gB_B87 all0))).keep K98 (allS (Nat.le_of_eq g9.symm) (allS gB_B87 all0))).keep K104 (allS (Nat.le_of_eq g9.symm) (allS gB_B87 all0)))
        have c129 := ((c97.keep K98 (allS (Nat.le_of_eq g9.symm) (allS gB_B87 all0))).keep K104 (allS (Nat.le_of_eq g9.symm) (allS gB_B87 all0)))
        have c130 := (c103.keep K104 (allS (Nat.le_of_eq g9.symm) (allS gB_B87 all0)))
        have c131 := (((((c13.keep K12 (allS g_b9 all0)).keep K87 (allS g_b9 all0)).keep K92 (allS g_b9 (allS g_B87 all0))).keep K98 (allS g_b9 (allS g_B87 all0))).keep K104 (allS g_b9 (allS g_B87 all0)))
        refine own_thrH (a := T111.setTop (mkF m 190 #[.val (.int ct), .val (.int qa), .val (.int qb), .val (.int qc), .val (.int qd), .val (.int (4 : Int32)), .val (.ref r1), .val (.ref r3), .val (.ref r5), .val (.ref r7), .val (.ref b9), .val (.int (f_rmK qa)), .val (.int (f_rmK qb)), .val (.int (f_rmK qc)), .val (.int (f_rmK qd)), .val (.int (2 : Int32)), .unset] [(.ref b9)])) (fun t kt => ?_) ?_
        · show Steps p.tables e below (T111.setTop (mkF m 163 #[.val (.int ct), .val (.int qa), .val (.int qb), .val (.int qc), .val (.int qd), .val (.int (4 : Int32)), .val (.ref r1), .val (.ref r3), .val (.ref r5), .val (.ref r7), .val (.ref b9), .val (.int (f_rmK qa)), .val (.int (f_rmK qb)), .val (.int (f_rmK qc)), .val (.int (f_rmK qd)), .val (.int (-1 : Int32)), .unset] [(.int (f_rmK qc)), (.int (f_rmK qb))])) _
          refine XS.icmpNo X111.here hx rfl (hb hby at_163) rfl (flt hc113).1 ?_
          refine XS.iconst X111.here hx rfl (hb hby at_166) ?_
          refine XS.istore X111.here hx rfl (hb hby at_167) rfl (l' := #[.val (.int ct), .val (.int qa), .val (.int qb), .val (.int qc), .val (.int qd), .val (.int (4 : Int32)), .val (.ref r1), .val (.ref r3), .val (.ref r5), .val (.ref r7), .val (.ref b9), .val (.int (f_rmK qa)), .val (.int (f_rmK qb)), .val (.int (f_rmK qc)), .val (.int (f_rmK qd)), .val (.int (2 : Int32)), .unset]) rfl ?_
          refine XS.goto X111.here hx rfl (pc0 := 169) (pc' := 188) rfl (hb hby at_169) (by decide) (by decide) ?_
          refine XS.aload X111.here hx rfl (hb hby at_188) rfl rfl ?_
          exact kt
        obtain ⟨_, _, ⟨T132, L132, k132, n132⟩, -, X132, ⟨Lc132, hQ132, l132, y132, z132⟩, st132⟩ := Jvm.LawKit.callS X111 hx (y := (⟨"com/example/tiphys/tiphys/KnowledgeBase", "outOfOrder", "(Ljava/util/List;)I"⟩ : MethodName)) hown7 (mvT hZ7 (hw _ (List.mem_of_getElem? (i := 41) rfl))) (mvT hZ7 (hw _ (List.mem_of_getElem? (i := 42) rfl))) (mvT hZ7 (hw _ (List.mem_of_getElem? (i := 43) rfl))) (mvT hZ7 (hw _ (List.mem_of_getElem? (i := 44) rfl))) (by decide) (backOf (W := 0) (rmO4 l Z a0 hw [] b9 B87 ke87 r1 r3 r5 r7 (f_rmK qa) (f_rmK qb) (f_rmK qc) (f_rmK qd) cs fm T104.heap n0 Z107 o104_0 o104_3 o104_2 o104_4 c127.un c128.un c129.un c130.un S_cs hcs S_fm hfm c131) hZ7 (hw _ (List.mem_of_getElem? (i := 44) rfl)) (hw _ (List.mem_of_getElem? (i := 43) rfl)) (by decide) (by decide)) (g := (mkF m 190 #[.val (.int ct), .val (.int qa), .val (.int qb), .val (.int qc), .val (.int qd), .val (.int (4 : Int32)), .val (.ref r1), .val (.ref r3), .val (.ref r5), .val (.ref r7), .val (.ref b9), .val (.int (f_rmK qa)), .val (.int (f_rmK qb)), .val (.int (f_rmK qc)), .val (.int (f_rmK qd)), .val (.int (2 : Int32)), .unset] [(.ref b9)])) rfl (by rw [hml]; rfl) (argsL := [(.ref b9)]) (rest := []) (lenOf pd__28Ljava_2futil_2fList_3b_29I rfl) rfl (by show 2 * 0 + _ ≤ _; exact Nat.le_of_eq rfl) (hb hby at_190) (fun _ _ => ⟨rfl, e111, (by decide : 10 + 0 ≤ _), (by decide : 33 + 0 ≤ _)⟩)
        dsimp only [Pt.U, Pt.locs, Pt.cells, Pt.slots] at X132 l132 y132 z132 st132 hQ132
        obtain ⟨rfl, N132q, e132⟩ := hQ132
        obtain ⟨lc132, X132, N132⟩ := own_pack X132 l132 y132 z132 N111 N132q (C := 10) (S' := 33) rfl rfl
        refine own_thrH (a := T132.setTop (mkF m 193 #[.val (.int ct), .val (.int qa), .val (.int qb), .val (.int qc), .val (.int qd), .val (.int (4 : Int32)), .val (.ref r1), .val (.ref r3), .val (.ref r5), .val (.ref r7), .val (.ref b9), .val (.int (f_rmK qa)), .val (.int (f_rmK qb)), .val (.int (f_rmK qc)), .val (.int (f_rmK qd)), .val (.int (2 : Int32)), .unset] [(.int (f_rmO4 b9 B87 ke87 r1 r3 r5 r7 (f_rmK qa) (f_rmK qb) (f_rmK qc) (f_rmK qd) cs fm))])) (fun t kt => st132 t kt) ?_
        refine own_thrH (a := T132.setTop (mkF m 207 #[.val (.int ct), .val (.int qa), .val (.int qb), .val (.int qc), .val (.int qd), .val (.int (4 : Int32)), .val (.ref r1), .val (.ref r3), .val (.ref r5), .val (.ref r7), .val (.ref b9), .val (.int (f_rmK qa)), .val (.int (f_rmK qb)), .val (.int (f_rmK qc)), .val (.int (f_rmK qd)), .val (.int (2 : Int32)), .val (.int (f_rmO4 b9 B87 ke87 r1 r3 r5 r7 (f_rmK qa) (f_rmK qb) (f_rmK qc) (f_rmK qd) cs fm))] [(.int (1 : Int32))])) (fun t kt => ?_) ?_
        · show Steps p.tables e below (T132.setTop (mkF m 193 #[.val (.int ct), .val (.int qa), .val (.int qb), .val (.int qc), .val (.int qd), .val (.int (4 : Int32)), .val (.ref r1), .val (.ref r3), .val (.ref r5), .val (.ref r7), .val (.ref b9), .val (.int (f_rmK qa)), .val (.int (f_rmK qb)), .val (.int (f_rmK qc)), .val (.int (f_rmK qd)), .val (.int (2 : Int32)), .unset] [(.int (f_rmO4 b9 B87 ke87 r1 r3 r5 r7 (f_rmK qa) (f_rmK qb) (f_rmK qc) (f_rmK qd) cs fm))])) _
          refine XS.istore X132.here hx rfl (hb hby at_193) rfl (l' := #[.val (.int ct), .val (.int qa), .val (.int qb), .val (.int qc), .val (.int qd), .val (.int (4 : Int32)), .val (.ref r1), .val (.ref r3), .val (.ref r5), .val (.ref r7), .val (.ref b9), .val (.int (f_rmK qa)), .val (.int (f_rmK qb)), .val (.int (f_rmK qc)), .val (.int (f_rmK qd)), .val (.int (2 : Int32)), .val (.int (f_rmO4 b9 B87 ke87 r1 r3 r5 r7 (f_rmK qa) (f_rmK qb) (f_rmK qc) (f_rmK qd) cs fm))]) rfl ?_
          refine XS.iload X132.here hx rfl (hb hby at_195) rfl ?_
          refine XS.iload X132.here hx rfl (hb hby at_197) rfl ?_
          refine XS.icmpNo X132.here hx rfl (hb hby at_199) rfl (teq (by rw [f_rmO4, if_pos ((own_ic _ _).mpr hc112), if_neg (fun q => hc113 ((own_ic _ _).mp q))])).2 ?_
          refine XS.iconst X132.here hx rfl (hb hby at_202) ?_
          refine XS.goto X132.here hx rfl (pc0 := 203) (pc' := 207) rfl (hb hby at_203) (by decide) (by decide) ?_
          exact kt
        exact own_endH X132 hS7 (by rw [e132]; exact Z107k) hZ7 hEL CH105 hh e132 hlk (v := some (.int (1 : Int32))) (fun h => by rw [Bd.returns] at h; cases h) (fun fs hr => retN X132 hx (t := .boolean) Bd.returns (by simp) (hb hby at_207) hr) ⟨rfl, N132⟩ (by decide : 10 ≤ _) (by decide : 33 ≤ _)
    · have c133 := ((((((bS0.ext E9).keep K12 (allS (Nat.le_of_eq g9.symm) all0)).keep K87 (allS (Nat.le_of_eq g9.symm) all0)).keep K92 (allS (Nat.le_of_eq g9.symm) (allS gB_B87 all0))).keep K98 (allS (Nat.le_of_eq g9.symm) (allS gB_B87 all0))).keep K104 (allS (Nat.le_of_eq g9.symm) (allS gB_B87 all0)))
      have c134 := (((c91.keep K92 (allS (Nat.le_of_eq g9.symm) (allS gB_B87 all0))).keep K98 (allS (Nat.le_of_eq g9.symm) (allS gB_B87 all0))).keep K104 (allS (Nat.le_of_eq g9.symm) (allS gB_B87 all0)))
      have c135 := ((c97.keep K98 (allS (Nat.le_of_eq g9.symm) (allS gB_B87 all0))).keep K104 (allS (Nat.le_of_eq g9.symm) (allS gB_B87 all0)))
      have c136 := (c103.keep K104 (allS (Nat.le_of_eq g9.symm) (allS gB_B87 all0)))
      have c137 := (((((c13.keep K12 (allS g_b9 all0)).keep K87 (allS g_b9 all0)).keep K92 (allS g_b9 (allS g_B87 all0))).keep K98 (allS g_b9 (allS g_B87 all0))).keep K104 (allS g_b9 (allS g_B87 all0)))
      refine own_thrH (a := T111.setTop (mkF m 190 #[.val (.int ct), .val (.int qa), .val (.int qb), .val (.int qc), .val (.int qd), .val (.int (4 : Int32)), .val (.ref r1), .val (.ref r3), .val (.ref r5), .val (.ref r7), .val (.ref b9), .val (.int (f_rmK qa)), .val (.int (f_rmK qb)), .val (.int (f_rmK qc)), .val (.int (f_rmK qd)), .val (.int (1 : Int32)), .unset] [(.ref b9)])) (fun t kt => ?_) ?_
      · show Steps p.tables e below (T111.setTop (mkF m 144 #[.val (.int ct), .val (.int qa), .val (.int qb), .val (.int qc), .val (.int qd), .val (.int (4 : Int32)), .val (.ref r1), .val (.ref r3), .val (.ref r5), .val (.ref r7), .val (.ref b9), .val (.int (f_rmK qa)), .val (.int (f_rmK qb)), .val (.int (f_rmK qc)), .val (.int (f_rmK qd)), .val (.int (-1 : Int32)), .unset] [(.int (f_rmK qb)), (.int (f_rmK qa))])) _
        refine XS.icmpNo X111.here hx rfl (hb hby at_144) rfl (flt hc112).1 ?_
        refine XS.iconst X111.here hx rfl (hb hby at_147) ?_
        refine XS.istore X111.here hx rfl (hb hby at_148) rfl (l' := #[.val (.int ct), .val (.int qa), .val (.int qb), .val (.int qc), .val (.int qd), .val (.int (4 : Int32)), .val (.ref r1), .val (.ref r3), .val (.ref r5), .val (.ref r7), .val (.ref b9), .val (.int (f_rmK qa)), .val (.int (f_rmK qb)), .val (.int (f_rmK qc)), .val (.int (f_rmK qd)), .val (.int (1 : Int32)), .unset]) rfl ?_
        refine XS.goto X111.here hx rfl (pc0 := 150) (pc' := 188) rfl (hb hby at_150) (by decide) (by decide) ?_
        refine XS.aload X111.here hx rfl (hb hby at_188) rfl rfl ?_
        exact kt
      obtain ⟨_, _, ⟨T138, L138, k138, n138⟩, -, X138, ⟨Lc138, hQ138, l138, y138, z138⟩, st138⟩ := Jvm.LawKit.callS X111 hx (y := (⟨"com/example/tiphys/tiphys/KnowledgeBase", "outOfOrder", "(Ljava/util/List;)I"⟩ : MethodName)) hown7 (mvT hZ7 (hw _ (List.mem_of_getElem? (i := 41) rfl))) (mvT hZ7 (hw _ (List.mem_of_getElem? (i := 42) rfl))) (mvT hZ7 (hw _ (List.mem_of_getElem? (i := 43) rfl))) (mvT hZ7 (hw _ (List.mem_of_getElem? (i := 44) rfl))) (by decide) (backOf (W := 0) (rmO4 l Z a0 hw [] b9 B87 ke87 r1 r3 r5 r7 (f_rmK qa) (f_rmK qb) (f_rmK qc) (f_rmK qd) cs fm T104.heap n0 Z107 o104_0 o104_3 o104_2 o104_4 c133.un c134.un c135.un c136.un S_cs hcs S_fm hfm c137) hZ7 (hw _ (List.mem_of_getElem? (i := 44) rfl)) (hw _ (List.mem_of_getElem? (i := 43) rfl)) (by decide) (by decide)) (g := (mkF m 190 #[.val (.int ct), .val (.int qa), .val (.int qb), .val (.int qc), .val (.int qd), .val (.int (4 : Int32)), .val (.ref r1), .val (.ref r3), .val (.ref r5), .val (.ref r7), .val (.ref b9), .val (.int (f_rmK qa)), .val (.int (f_rmK qb)), .val (.int (f_rmK qc)), .val (.int (f_rmK qd)), .val (.int (1 : Int32)), .unset] [(.ref b9)])) rfl (by rw [hml]; rfl) (argsL := [(.ref b9)]) (rest := []) (lenOf pd__28Ljava_2futil_2fList_3b_29I rfl) rfl (by show 2 * 0 + _ ≤ _; exact Nat.le_of_eq rfl) (hb hby at_190) (fun _ _ => ⟨rfl, e111, (by decide : 10 + 0 ≤ _), (by decide : 33 + 0 ≤ _)⟩)
      dsimp only [Pt.U, Pt.locs, Pt.cells, Pt.slots] at X138 l138 y138 z138 st138 hQ138
      obtain ⟨rfl, N138q, e138⟩ := hQ138
      obtain ⟨lc138, X138, N138⟩ := own_pack X138 l138 y138 z138 N111 N138q (C := 10) (S' := 33) rfl rfl
      refine own_thrH (a := T138.setTop (mkF m 193 #[.val (.int ct), .val (.int qa), .val (.int qb), .val (.int qc), .val (.int qd), .val (.int (4 : Int32)), .val (.ref r1), .val (.ref r3), .val (.ref r5), .val (.ref r7), .val (.ref b9), .val (.int (f_rmK qa)), .val (.int (f_rmK qb)), .val (.int (f_rmK qc)), .val (.int (f_rmK qd)), .val (.int (1 : Int32)), .unset] [(.int (f_rmO4 b9 B87 ke87 r1 r3 r5 r7 (f_rmK qa) (f_rmK qb) (f_rmK qc) (f_rmK qd) cs fm))])) (fun t kt => st138 t kt) ?_
      refine own_thrH (a := T138.setTop (mkF m 207 #[.val (.int ct), .val (.int qa), .val (.int qb), .val (.int qc), .val (.int qd), .val (.int (4 : Int32)), .val (.ref r1), .val (.ref r3), .val (.ref r5), .val (.ref r7), .val (.ref b9), .val (.int (f_rmK qa)), .val (.int (f_rmK qb)), .val (.int (f_rmK qc)), .val (.int (f_rmK qd)), .val (.int (1 : Int32)), .val (.int (f_rmO4 b9 B87 ke87 r1 r3 r5 r7 (f_rmK qa) (f_rmK qb) (f_rmK qc) (f_rmK qd) cs fm))] [(.int (1 : Int32))])) (fun t kt => ?_) ?_
      · show Steps p.tables e below (T138.setTop (mkF m 193 #[.val (.int ct), .val (.int qa), .val (.int qb), .val (.int qc), .val (.int qd), .val (.int (4 : Int32)), .val (.ref r1), .val (.ref r3), .val (.ref r5), .val (.ref r7), .val (.ref b9), .val (.int (f_rmK qa)), .val (.int (f_rmK qb)), .val (.int (f_rmK qc)), .val (.int (f_rmK qd)), .val (.int (1 : Int32)), .unset] [(.int (f_rmO4 b9 B87 ke87 r1 r3 r5 r7 (f_rmK qa) (f_rmK qb) (f_rmK qc) (f_rmK qd) cs fm))])) _
        refine XS.istore X138.here hx rfl (hb hby at_193) rfl (l' := #[.val (.int ct), .val (.int qa), .val (.int qb), .val (.int qc), .val (.int qd), .val (.int (4 : Int32)), .val (.ref r1), .val (.ref r3), .val (.ref r5), .val (.ref r7), .val (.ref b9), .val (.int (f_rmK qa)), .val (.int (f_rmK qb)), .val (.int (f_rmK qc)), .val (.int (f_rmK qd)), .val (.int (1 : Int32)), .val (.int (f_rmO4 b9 B87 ke87 r1 r3 r5 r7 (f_rmK qa) (f_rmK qb) (f_rmK qc) (f_rmK qd) cs fm))]) rfl ?_
        refine XS.iload X138.here hx rfl (hb hby at_195) rfl ?_
        refine XS.iload X138.here hx rfl (hb hby at_197) rfl ?_
        refine XS.icmpNo X138.here hx rfl (hb hby at_199) rfl (teq (by rw [f_rmO4, if_neg (fun q => hc112 ((own_ic _ _).mp q))])).2 ?_
        refine XS.iconst X138.here hx rfl (hb hby at_202) ?_
        refine XS.goto X138.here hx rfl (pc0 := 203) (pc' := 207) rfl (hb hby at_203) (by decide) (by decide) ?_
        exact kt
      exact own_endH X138 hS7 (by rw [e138]; exact Z107k) hZ7 hEL CH105 hh e138 hlk (v := some (.int (1 : Int32))) (fun h => by rw [Bd.returns] at h; cases h) (fun fs hr => retN X138 hx (t := .boolean) Bd.returns (by simp) (hb hby at_207) hr) ⟨rfl, N138⟩ (by decide : 10 ≤ _) (by decide : 33 ≤ _)
set_option maxRecDepth 65536 in
set_option maxHeartbeats 40000000 in
theorem comes_1 {Post : Tables → Env → Array Value → State → Outcome → State → Prop} (hpost : ∀ tb e args s v u, (limb_1_1.after args s (.returned v) u = true ∧ limb_1_2.after args s (.returned v) u = true ∧ True) → ReturnedEndW s (.returned v) u (Jvm.fieldLocs frame_1_writes args s ++ Jvm.arrayLocs frame_1_arrays args s ++ Jvm.staticLocs frame_1_statics s) 32 1216 → Post tb e args s (.returned v) u) :
    ArmFor flags0 classFile x code maxLocals ret World_1 tables_1 room_1 Calls_1 rest_1 Pre_1 Post := by
  intro l hfl _ _ p e ha hc hk s m args below hf hA hF happ hP
  obtain ⟨hcalls, hrest, hpre⟩ := hP
  obtain ⟨-, -, -, hnamed, -, -, -, hat⟩ := (Spec.applies_iff hf).mp happ
  obtain ⟨hg, hn⟩ := and_e (Cond.before_iff.mp (show (Jvm.Cond.and given_1 narrow_1).before args s = true from hpre))
  obtain ⟨g1, g2⟩ := and_e hg
  obtain ⟨g3, g4⟩ := and_e g2
  obtain ⟨g5, g6⟩ := and_e g4
  obtain ⟨g7, g8⟩ := and_e g6
  obtain ⟨g9, g10⟩ := and_e g8
  obtain ⟨w0, w1, w2, w3, w4, rfl⟩ : ∃ w0 w1 w2 w3 w4 : Value, args = #[w0, w1, w2, w3, w4] := by
    have hs : args.size = 5 := by simpa [Cond.value, given_1] using g1
    obtain ⟨L⟩ := args
    match L, hs with
    | [w0, w1, w2, w3, w4], _ => exact ⟨w0, w1, w2, w3, w4, rfl⟩
  have hw := fun d (hd : d ∈ tables_1) => atoms_spec (ws := Jvm.Cond.code x code maxLocals ret :: tables_1) hat d (List.mem_cons_of_mem _ hd)
  have hfit : Fit s := fun {y c} hc i hi => by
    obtain ⟨ha, rfl⟩ := Array.getElem?_eq_some_iff.mp hc
    have q := List.all_eq_true.mp ((Array.all_eq_true_iff_forall_mem.mp hF) _ (Array.getElem_mem ha)) i (List.mem_range.mpr hi)
    simpa [Array.getElem?_eq_getElem hi] using q
  obtain ⟨hsets, hown0⟩ := atoms_of _ (rest_1_c_eq ▸ (show rest_1_c.before _ s = true from hrest))
  have hr0 := Cond.before_iff.mp hown0
  obtain ⟨i0, ei0⟩ := is_v g3
  obtain rfl : w0 = (.int i0) := Option.some.inj ei0
  obtain ⟨i1, ei1⟩ := is_v g5
  obtain rfl : w1 = (.int i1) := Option.some.inj ei1
  obtain ⟨i2, ei2⟩ := is_v g7
  obtain rfl : w2 = (.int i2) := Option.some.inj ei2
  obtain ⟨i3, ei3⟩ := is_v g9
  obtain rfl : w3 = (.int i3) := Option.some.inj ei3
  obtain ⟨i4, ei4⟩ := is_v g10
  obtain rfl : w4 = (.int i4) := Option.some.inj ei4
  have Wd := Cond.before_iff.mp (hsets _ (List.mem_of_getElem? (i := 6) rfl))
  obtain ⟨de, ede⟩ := arr_v Wd
  obtain ⟨cld, Ad⟩ := Arr.start ede Wd
  obtain ⟨hld, hmd⟩ := own_len ede Ad (Cond.before_iff.mp (hsets _ (List.mem_of_getElem? (i := 8) rfl)))
  have S_de : Sta s s.heap "java/util/ArrayList" "DEFAULTCAPACITY_EMPTY_ELEMENTDATA" "[Ljava/lang/Object;" (.ref de) := Sta.start ede (Or.inr ⟨(hw _ (List.mem_of_getElem? (i := 14) rfl)), (hsets _ (List.mem_of_getElem? (i := 2) rfl))⟩)
  have V_de : Arv s s.heap de cld.cls (.object "java/lang/Object") (0 : Int32) [] .null := Arv.start hfit Ad hmd hld (by decide) rfl trivial
  obtain ⟨cs, ecs⟩ := is_v (Cond.before_iff.mp (hsets _ (List.mem_of_getElem? (i := 10) rfl)))
  have S_cs : Sta s s.heap "java/lang/String" "COMPACT_STRINGS" "Z" (.int cs) := Sta.start ecs (Or.inl (hsets _ (List.mem_of_getElem? (i := 9) rfl)))
  have hcs : ¬ cs = (0 : Int32) := own_not0 ecs (Cond.before_iff.mp (hsets _ (List.mem_of_getElem? (i := 11) rfl)))
  obtain ⟨fm, efm, hfm⟩ := isR_v (Cond.before_iff.mp (hsets _ (List.mem_of_getElem? (i := 17) rfl)))
  have S_fm : Sta s s.heap "jdk/internal/util/Preconditions" "SIOOBE_FORMATTER" "Ljava/util/function/BiFunction;" fm := Sta.start efm (Or.inl (hsets _ (List.mem_of_getElem? (i := 16) rfl)))
  have hCHs : CHv s own_EL s.vm s.heap := CHv.start (own_EW hw) (fun p hp => own_held hcalls p hp) (hsets _ (List.mem_of_getElem? (i := 11) rfl)) (hw _ (List.mem_of_getElem? (i := 7) rfl)) (hw _ (List.mem_of_getElem? (i := 6) rfl))
  obtain ⟨n, o, h1, h2, h3, _, L, rfl, ⟨rfl, N⟩, -, hq⟩ := rm0 l s _ hw tables_1 i0 i1 i2 i3 i4 de _ cs fm s.heap s.heap.size (Nat.le_refl _) S_de V_de S_cs hcs S_fm hfm (Old.start s) p e ha hc hk s m _ below hf ((Spec.applies_iff_loose hf).mp happ).1 ⟨rfl, State.Warmed39.refl s, rfl, hCHs⟩ trivial
  refine ⟨n, _, h1, h2, h3, hpost _ _ _ _ _ _ ⟨Cond.after_iff.mpr rfl, Cond.after_iff.mpr (eq_i res_at (Term.int_eval (1)) rfl), trivial⟩ ⟨hq.1, hq.2.1, hq.2.2.1, (hq.2.2.2.sift fun y hy => Or.inr (N y hy)).mono (by decide) (by decide)⟩⟩
theorem main_1_1 : Claimed_1_1 := comes_1 fun _ _ _ _ _ _ h hF => ⟨h.1, hF⟩
theorem main_1_2 : Claimed_1_2 := comes_1 fun _ _ _ _ _ _ h hF => ⟨h.2.1, hF⟩
end Jvm.Pilot.@@N@@
namespace Jvm.Pilot.@@N@@
open Jvm Jvm.ClassFile Sem Op Lib Jvm.Free Jvm.Stand Jvm.Pilot.@@N@@.Jvm.D
/-! MADE BY PROGRAM (witnessworld.py) out of the Statement's table words and the real class files: 30 classes; the members and pool entries that the words name. The judged class is class 1, her method 3. -/
namespace start1
open Jvm.ClassFile
def u (s : String) : CpInfo := .utf8 (stringToUtf16 s)
/-- a pool by its gaps: so many unusable entries, then the entry; so many at the end -/
def gap : Nat → List CpInfo → List CpInfo
  | 0, r => r
  | n + 1, r => .unusable :: gap n r
def poolList (es : List (Nat × CpInfo)) (last : Nat) : List CpInfo := es.foldr (fun e r => gap e.1 (e.2 :: r)) (gap last [])
def pool (es : List (Nat × CpInfo)) (last : Nat) : Array CpInfo := ⟨poolList es last⟩
def fileOf (pool : Array CpInfo) (this : Nat) (attrs : Array Attribute := #[]) (ms : Array MethodInfo := #[]) (fl : Nat := 33) (sup : Nat := 0) (ifs : Array Nat := #[]) (fds : Array FieldInfo := #[]) : ClassFile where
  minorVersion := 0
  majorVersion := 65
  constantPool := pool
  accessFlags := fl
  thisClass := this
  superClass := sup
  interfaces := ifs
  fields := fds
  methods := ms
  attributes := attrs
def plain (name : String) (sup : Option ClassId) : Class where
  name := name
  kind := .ordinary
  loader := none
  accessFlags := 33
  super := sup
  interfaces := #[]
  cf := none
  fields := #[]
  methods := #[]
  instanceTypes := #[]
  staticTypes := #[]
  resolved := #[]
  callSites := []
  init := .initialized
  statics := none
  mirror := none

def pool0 : Array CpInfo := pool [(5, u "<init>"), (0, u "()V"), (1, .class_ 10), (1, u "java/lang/Object")] 113

def k0c0 : Code := { maxStack := 0, maxLocals := 1, code := object_method_1_code, exceptionTable := #[], attributes := #[] }
def k0m0 : Method := { name := "<init>", desc := "()V", sig := { parameters := [], returnType := none }, accessFlags := 1, code := some k0c0 }
/-- java/lang/Object -/
def k0 : Class := { plain "java/lang/Object" none with
  accessFlags := 33
  interfaces := #[]
  cf := some (fileOf pool0 8 #[] #[{ accessFlags := 1, nameIndex := 5, descriptorIndex := 6, attributes := #[] }] 33 0 #[] #[])
  fields := #[]
  methods := #[k0m0]
  instanceTypes := #[]
  staticTypes := #[]
  resolved := Array.replicate 124 none
  statics := none }

def pool1 : Array CpInfo := pool [(2, .class_ 4), (0, .nameAndType 5 6), (0, u "java/lang/Object"), (0, u "<init>"), (0, u "()V"), (0, .string 8), (0, u ""), (0, .methodref 10 11), (0, .class_ 12), (0, .nameAndType 13 14), (0, u "java/lang/String"), (0, u "valueOf"), (0, u "(C)Ljava/lang/String;"), (0, .methodref 16 17), (0, .class_ 18), (0, .nameAndType 19 20), (0, u "com/example/tiphys/tiphys/KnowledgeBaseOutOfOrderPinLaw"), (0, u "name"), (0, u "(I)Ljava/lang/String;"), (0, .class_ 22), (0, u "java/util/ArrayList"), (0, .methodref 21 3), (0, .interfaceMethodref 25 26), (0, .class_ 27), (0, .nameAndType 28 29), (0, u "java/util/List"), (0, u "add"), (0, u "(Ljava/lang/Object;)Z"), (0, .methodref 16 31), (0, .nameAndType 32 33), (0, u "key"), (0, u "(I)I"), (0, .methodref 35 36), (0, .class_ 37), (0, .nameAndType 38 39), (0, u "com/example/tiphys/tiphys/KnowledgeBase"), (0, u "outOfOrder"), (0, u "(Ljava/util/List;)I"), (3, u "law"), (0, u "(IIIII)Z")] 2

def k1m0 : Method := { name := "<init>", desc := "()V", sig := { parameters := [], returnType := none }, accessFlags := 1, code := none }
def k1c1 : Code := { maxStack := 2, maxLocals := 1, code := method_2_code, exceptionTable := #[], attributes := #[] }
def k1m1 : Method := { name := "key", desc := "(I)I", sig := { parameters := [.int], returnType := some .int }, accessFlags := 10, code := some k1c1 }
def k1c2 : Code := { maxStack := 2, maxLocals := 1, code := method_3_code, exceptionTable := #[], attributes := #[] }
def k1m2 : Method := { name := "name", desc := "(I)Ljava/lang/String;", sig := { parameters := [.int], returnType := some (.object "java/lang/String") }, accessFlags := 10, code := some k1c2 }
def k1c3 : Code := { maxStack := 2, maxLocals := 17, code := code, exceptionTable := #[], attributes := #[] }
def k1m3 : Method := { name := "law", desc := "(IIIII)Z", sig := { parameters := [.int, .int, .int, .int, .int], returnType := some .boolean }, accessFlags := 9, code := some k1c3 }
/-- com/example/tiphys/tiphys/KnowledgeBaseOutOfOrderPinLaw -/
def k1 : Class := { plain "com/example/tiphys/tiphys/KnowledgeBaseOutOfOrderPinLaw" (some 0) with
  accessFlags := 49
  interfaces := #[]
  cf := some (fileOf pool1 16 #[] #[{ accessFlags := 1, nameIndex := 5, descriptorIndex := 6, attributes := #[] }, { accessFlags := 10, nameIndex := 32, descriptorIndex := 33, attributes := #[] }, { accessFlags := 10, nameIndex := 19, descriptorIndex := 20, attributes := #[] }, { accessFlags := 9, nameIndex := 43, descriptorIndex := 44, attributes := #[] }] 49 2 #[] #[])
  fields := #[]
  methods := #[k1m0, k1m1, k1m2, k1m3]
  instanceTypes := #[]
  staticTypes := #[]
  resolved := Array.replicate 47 none
  statics := none }

def pool2 : Array CpInfo := pool [(1, .class_ 2), (0, u "java/io/Serializable"), (0, .class_ 4), (0, u "java/lang/Object")] 2

/-- java/io/Serializable -/
def k2 : Class := { plain "java/io/Serializable" (some 0) with
  accessFlags := 1537
  interfaces := #[]
  cf := some (fileOf pool2 1 #[] #[] 1537 3 #[] #[])
  fields := #[]
  methods := #[]
  instanceTypes := #[]
  staticTypes := #[]
  resolved := Array.replicate 7 none
  statics := none }

def pool3 : Array CpInfo := pool [(1, .class_ 2), (0, u "java/lang/Comparable"), (0, .class_ 4), (0, u "java/lang/Object")] 7

/-- java/lang/Comparable -/
def k3 : Class := { plain "java/lang/Comparable" (some 0) with
  accessFlags := 1537
  interfaces := #[]
  cf := some (fileOf pool3 1 #[] #[] 1537 3 #[] #[])
  fields := #[]
  methods := #[]
  instanceTypes := #[]
  staticTypes := #[]
  resolved := Array.replicate 12 none
  statics := none }

def pool4 : Array CpInfo := pool [(2, .class_ 4), (1, u "java/lang/CharSequence"), (42, .class_ 48), (0, u "java/lang/CharSequence$1CodePointIterator"), (10, .class_ 60), (0, u "java/lang/CharSequence$1CharIterator"), (5, .class_ 67), (0, u "java/lang/Object")] 63

/-- java/lang/CharSequence -/
def k4 : Class := { plain "java/lang/CharSequence" (some 0) with
  accessFlags := 1537
  interfaces := #[]
  cf := some (fileOf pool4 2 #[.nestMembers #[47, 59]] #[] 1537 66 #[] #[])
  fields := #[]
  methods := #[]
  instanceTypes := #[]
  staticTypes := #[]
  resolved := Array.replicate 131 none
  statics := none }

def pool5 : Array CpInfo := pool [(1, .class_ 2), (0, u "java/lang/constant/Constable"), (0, .class_ 4), (0, u "java/lang/Object")] 6

/-- java/lang/constant/Constable -/
def k5 : Class := { plain "java/lang/constant/Constable" (some 0) with
  accessFlags := 1537
  interfaces := #[]
  cf := some (fileOf pool5 1 #[] #[] 1537 3 #[] #[])
  fields := #[]
  methods := #[]
  instanceTypes := #[]
  staticTypes := #[]
  resolved := Array.replicate 11 none
  statics := none }

def pool6 : Array CpInfo := pool [(1, .class_ 2), (0, u "java/lang/constant/ConstantDesc"), (0, .class_ 4), (0, u "java/lang/Object")] 32

/-- java/lang/constant/ConstantDesc -/
def k6 : Class := { plain "java/lang/constant/ConstantDesc" (some 0) with
  accessFlags := 1537
  interfaces := #[]
  cf := some (fileOf pool6 1 #[] #[] 1537 3 #[] #[])
  fields := #[]
  methods := #[]
  instanceTypes := #[]
  staticTypes := #[]
  resolved := Array.replicate 37 none
  statics := none }

def pool7 : Array CpInfo := pool [(1, .methodref 2 3), (0, .class_ 4), (0, .nameAndType 5 6), (0, u "java/lang/Object"), (0, u "<init>"), (0, u "()V"), (2, .fieldref 10 11), (0, .class_ 12), (0, .nameAndType 13 14), (0, u "java/lang/String"), (0, u "value"), (0, u "[B"), (0, .fieldref 10 16), (0, .nameAndType 17 18), (0, u "coder"), (0, u "B"), (2, u "hash"), (0, u "I"), (2, u "hashIsZero"), (0, u "Z"), (11, .fieldref 10 39), (0, .nameAndType 40 26), (0, u "COMPACT_STRINGS"), (12, u "toBytes"), (53, .class_ 109), (1, u "java/lang/StringLatin1"), (32, u "()Z"), (66, .methodref 10 210), (0, .nameAndType 5 211), (0, u "([BB)V"), (122, u "()I"), (0, .methodref 10 336), (0, .nameAndType 17 337), (0, u "()B"), (31, u "(C)Z"), (21, u "(II)V"), (100, .methodref 10 493), (0, .nameAndType 494 142), (0, u "isLatin1"), (4, .methodref 10 500), (0, .nameAndType 501 391), (0, u "checkIndex"), (2, u "codePointAt"), (2, u "length"), (67, .class_ 576), (0, u "java/lang/CharSequence"), (22, u "CASE_INSENSITIVE_ORDER"), (0, u "Ljava/util/Comparator;"), (164, u "(I)I"), (16, u "valueOf"), (0, u "(C)Ljava/lang/String;"), (231, .methodref 107 1016), (0, .nameAndType 1017 369), (0, u "canEncode"), (0, .methodref 107 1019), (0, .nameAndType 53 1020), (0, u "(C)[B"), (32, .fieldref 1054 1055), (0, .class_ 1056), (0, .nameAndType 1057 1058), (0, u "jdk/internal/util/Preconditions"), (0, u "SIOOBE_FORMATTER"), (0, u "Ljava/util/function/BiFunction;"), (0, .methodref 1054 1060), (0, .nameAndType 501 1061), (0, u "(IILjava/util/function/BiFunction;)I"), (39, u "serialPersistentFields"), (0, u "[Ljava/io/ObjectStreamField;"), (0, .class_ 1104), (0, u "java/lang/String$CaseInsensitiveComparator"), (1, .class_ 1107), (0, u "java/io/Serializable"), (0, .class_ 1109), (0, u "java/lang/Comparable"), (0, .class_ 1111), (0, u "java/lang/constant/Constable"), (0, .class_ 1113), (0, u "java/lang/constant/ConstantDesc"), (2, u "serialVersionUID"), (0, u "J"), (3, u "REPL"), (0, u "C"), (2, u "LATIN1"), (1, u "UTF16")] 323

def k7m0 : Method := { name := "<init>", desc := "()V", sig := { parameters := [], returnType := none }, accessFlags := 1, code := none }
def k7c1 : Code := { maxStack := 2, maxLocals := 1, code := jdk_42_method_54_code, exceptionTable := #[], attributes := #[] }
def k7m1 : Method := { name := "length", desc := "()I", sig := { parameters := [], returnType := some .int }, accessFlags := 1, code := some k7c1 }
def k7c2 : Code := { maxStack := 3, maxLocals := 3, code := jdk_42_method_57_code, exceptionTable := #[], attributes := #[] }
def k7m2 : Method := { name := "codePointAt", desc := "(I)I", sig := { parameters := [.int], returnType := some .int }, accessFlags := 1, code := some k7c2 }
def k7c3 : Code := { maxStack := 4, maxLocals := 1, code := jdk_42_method_139_code, exceptionTable := #[], attributes := #[] }
def k7m3 : Method := { name := "valueOf", desc := "(C)Ljava/lang/String;", sig := { parameters := [.char], returnType := some (.object "java/lang/String") }, accessFlags := 9, code := some k7c3 }
def k7c4 : Code := { maxStack := 2, maxLocals := 3, code := jdk_42_method_151_code, exceptionTable := #[], attributes := #[] }
def k7m4 : Method := { name := "<init>", desc := "([BB)V", sig := { parameters := [(.array .byte), .byte], returnType := none }, accessFlags := 0, code := some k7c4 }
def k7c5 : Code := { maxStack := 1, maxLocals := 1, code := jdk_42_method_152_code, exceptionTable := #[], attributes := #[] }
def k7m5 : Method := { name := "coder", desc := "()B", sig := { parameters := [], returnType := some .byte }, accessFlags := 0, code := some k7c5 }
def k7c6 : Code := { maxStack := 1, maxLocals := 1, code := jdk_42_method_154_code, exceptionTable := #[], attributes := #[] }
def k7m6 : Method := { name := "isLatin1", desc := "()Z", sig := { parameters := [], returnType := some .boolean }, accessFlags := 0, code := some k7c6 }
def k7c7 : Code := { maxStack := 3, maxLocals := 2, code := jdk_42_method_155_code, exceptionTable := #[], attributes := #[] }
def k7m7 : Method := { name := "checkIndex", desc := "(II)V", sig := { parameters := [.int, .int], returnType := none }, accessFlags := 8, code := some k7c7 }
/-- java/lang/String -/
def k7 : Class := { plain "java/lang/String" (some 0) with
  accessFlags := 49
  interfaces := #[2, 3, 4, 5, 6]
  cf := some (fileOf pool7 10 #[.nestMembers #[1103]] #[{ accessFlags := 1, nameIndex := 5, descriptorIndex := 6, attributes := #[] }, { accessFlags := 1, nameIndex := 507, descriptorIndex := 334, attributes := #[] }, { accessFlags := 1, nameIndex := 504, descriptorIndex := 765, attributes := #[] }, { accessFlags := 9, nameIndex := 782, descriptorIndex := 783, attributes := #[] }, { accessFlags := 0, nameIndex := 5, descriptorIndex := 211, attributes := #[] }, { accessFlags := 0, nameIndex := 17, descriptorIndex := 337, attributes := #[] }, { accessFlags := 0, nameIndex := 494, descriptorIndex := 142, attributes := #[] }, { accessFlags := 8, nameIndex := 501, descriptorIndex := 391, attributes := #[] }] 49 2 #[1106, 1108, 575, 1110, 1112] #[{ accessFlags := 18, nameIndex := 13, descriptorIndex := 14, attributes := #[] }, { accessFlags := 18, nameIndex := 17, descriptorIndex := 18, attributes := #[] }, { accessFlags := 2, nameIndex := 21, descriptorIndex := 22, attributes := #[] }, { accessFlags := 2, nameIndex := 25, descriptorIndex := 26, attributes := #[] }, { accessFlags := 26, nameIndex := 1116, descriptorIndex := 1117, attributes := #[] }, { accessFlags := 24, nameIndex := 40, descriptorIndex := 26, attributes := #[] }, { accessFlags := 26, nameIndex := 1101, descriptorIndex := 1102, attributes := #[] }, { accessFlags := 26, nameIndex := 1121, descriptorIndex := 1122, attributes := #[] }, { accessFlags := 25, nameIndex := 599, descriptorIndex := 600, attributes := #[] }, { accessFlags := 24, nameIndex := 1125, descriptorIndex := 18, attributes := #[] }, { accessFlags := 24, nameIndex := 1127, descriptorIndex := 18, attributes := #[] }])
  fields := #[{ name := "value", type := (.array .byte), accessFlags := 18, slot := 0, constantValue := 0 }, { name := "coder", type := .byte, accessFlags := 18, slot := 1, constantValue := 0 }, { name := "hash", type := .int, accessFlags := 2, slot := 2, constantValue := 0 }, { name := "hashIsZero", type := .boolean, accessFlags := 2, slot := 3, constantValue := 0 }, { name := "serialVersionUID", type := .long, accessFlags := 26, slot := 0, constantValue := 0 }, { name := "COMPACT_STRINGS", type := .boolean, accessFlags := 24, slot := 1, constantValue := 0 }, { name := "serialPersistentFields", type := (.array (.object "java/io/ObjectStreamField")), accessFlags := 26, slot := 2, constantValue := 0 }, { name := "REPL", type := .char, accessFlags := 26, slot := 3, constantValue := 0 }, { name := "CASE_INSENSITIVE_ORDER", type := (.object "java/util/Comparator"), accessFlags := 25, slot := 4, constantValue := 0 }, { name := "LATIN1", type := .byte, accessFlags := 24, slot := 5, constantValue := 0 }, { name := "UTF16", type := .byte, accessFlags := 24, slot := 6, constantValue := 0 }]
  methods := #[k7m0, k7m1, k7m2, k7m3, k7m4, k7m5, k7m6, k7m7]
  instanceTypes := #[(.array .byte), .byte, .int, .boolean]
  staticTypes := #[.long, .boolean, (.array (.object "java/io/ObjectStreamField")), .char, (.object "java/util/Comparator"), .byte, .byte]
  resolved := Array.replicate 1451 none
  statics := some 0 }

def pool8 : Array CpInfo := pool [(8, .class_ 10), (1, u "java/lang/Iterable"), (24, .class_ 36), (0, u "java/lang/Object")] 25

/-- java/lang/Iterable -/
def k8 : Class := { plain "java/lang/Iterable" (some 0) with
  accessFlags := 1537
  interfaces := #[]
  cf := some (fileOf pool8 8 #[] #[] 1537 35 #[] #[])
  fields := #[]
  methods := #[]
  instanceTypes := #[]
  staticTypes := #[]
  resolved := Array.replicate 62 none
  statics := none }

def pool9 : Array CpInfo := pool [(10, .class_ 12), (1, u "java/util/Collection"), (47, .class_ 61), (0, u "java/lang/Object"), (0, .class_ 63), (0, u "java/lang/Iterable")] 51

/-- java/util/Collection -/
def k9 : Class := { plain "java/util/Collection" (some 0) with
  accessFlags := 1537
  interfaces := #[8]
  cf := some (fileOf pool9 10 #[] #[] 1537 60 #[62] #[])
  fields := #[]
  methods := #[]
  instanceTypes := #[]
  staticTypes := #[]
  resolved := Array.replicate 115 none
  statics := none }

def pool10 : Array CpInfo := pool [(1, .methodref 2 3), (0, .class_ 4), (0, .nameAndType 5 6), (0, u "java/lang/Object"), (0, u "<init>"), (0, u "()V"), (1, .class_ 10), (1, u "java/util/AbstractCollection"), (66, .class_ 78), (0, u "java/util/Collection")] 81

def k10c0 : Code := { maxStack := 1, maxLocals := 1, code := jdk_22_method_1_code, exceptionTable := #[], attributes := #[] }
def k10m0 : Method := { name := "<init>", desc := "()V", sig := { parameters := [], returnType := none }, accessFlags := 4, code := some k10c0 }
/-- java/util/AbstractCollection -/
def k10 : Class := { plain "java/util/AbstractCollection" (some 0) with
  accessFlags := 1057
  interfaces := #[9]
  cf := some (fileOf pool10 8 #[] #[{ accessFlags := 4, nameIndex := 5, descriptorIndex := 6, attributes := #[] }] 1057 2 #[77] #[])
  fields := #[]
  methods := #[k10m0]
  instanceTypes := #[]
  staticTypes := #[]
  resolved := Array.replicate 160 none
  statics := none }

def pool11 : Array CpInfo := pool [(8, .class_ 10), (1, u "java/util/SequencedCollection"), (15, .class_ 27), (0, u "java/lang/Object"), (0, .class_ 29), (0, u "java/util/Collection")] 27

/-- java/util/SequencedCollection -/
def k11 : Class := { plain "java/util/SequencedCollection" (some 0) with
  accessFlags := 1537
  interfaces := #[9]
  cf := some (fileOf pool11 8 #[] #[] 1537 26 #[28] #[])
  fields := #[]
  methods := #[]
  instanceTypes := #[]
  staticTypes := #[]
  resolved := Array.replicate 57 none
  statics := none }

def pool12 : Array CpInfo := pool [(8, .class_ 10), (1, u "java/util/List"), (49, u "add"), (3, u "(Ljava/lang/Object;)Z"), (10, u "get"), (0, u "(I)Ljava/lang/Object;"), (2, u "size"), (0, u "()I"), (22, .class_ 104), (0, u "java/lang/Object"), (15, .class_ 121), (0, u "java/util/SequencedCollection")] 129

def k12m0 : Method := { name := "size", desc := "()I", sig := { parameters := [], returnType := some .int }, accessFlags := 1025, code := none }
def k12m1 : Method := { name := "add", desc := "(Ljava/lang/Object;)Z", sig := { parameters := [(.object "java/lang/Object")], returnType := some .boolean }, accessFlags := 1025, code := none }
def k12m2 : Method := { name := "get", desc := "(I)Ljava/lang/Object;", sig := { parameters := [.int], returnType := some (.object "java/lang/Object") }, accessFlags := 1025, code := none }
/-- java/util/List -/
def k12 : Class := { plain "java/util/List" (some 0) with
  accessFlags := 1537
  interfaces := #[11]
  cf := some (fileOf pool12 8 #[] #[{ accessFlags := 1025, nameIndex := 79, descriptorIndex := 80, attributes := #[] }, { accessFlags := 1025, nameIndex := 60, descriptorIndex := 64, attributes := #[] }, { accessFlags := 1025, nameIndex := 75, descriptorIndex := 76, attributes := #[] }] 1537 103 #[120] #[])
  fields := #[]
  methods := #[k12m0, k12m1, k12m2]
  instanceTypes := #[]
  staticTypes := #[]
  resolved := Array.replicate 251 none
  statics := none }

def pool13 : Array CpInfo := pool [(1, .methodref 2 3), (0, .class_ 4), (0, .nameAndType 5 6), (0, u "java/util/AbstractCollection"), (0, u "<init>"), (0, u "()V"), (0, .fieldref 8 9), (0, .class_ 10), (0, .nameAndType 11 12), (0, u "java/util/AbstractList"), (0, u "modCount"), (0, u "I"), (64, .class_ 78), (0, u "java/util/AbstractList$Itr"), (3, .class_ 83), (0, u "java/util/AbstractList$ListItr"), (9, .class_ 94), (0, u "java/util/AbstractList$RandomAccessSubList"), (3, .class_ 99), (0, u "java/util/AbstractList$SubList"), (33, .class_ 134), (0, u "java/util/List"), (73, .class_ 209), (0, u "java/util/AbstractList$SubList$1"), (0, .class_ 211), (0, u "java/util/AbstractList$RandomAccessSpliterator")] 6

def k13c0 : Code := { maxStack := 2, maxLocals := 1, code := jdk_39_method_1_code, exceptionTable := #[], attributes := #[] }
def k13m0 : Method := { name := "<init>", desc := "()V", sig := { parameters := [], returnType := none }, accessFlags := 4, code := some k13c0 }
/-- java/util/AbstractList -/
def k13 : Class := { plain "java/util/AbstractList" (some 10) with
  accessFlags := 1057
  interfaces := #[12]
  cf := some (fileOf pool13 8 #[.nestMembers #[93, 98, 208, 210, 82, 77]] #[{ accessFlags := 4, nameIndex := 5, descriptorIndex := 6, attributes := #[] }] 1057 2 #[133] #[{ accessFlags := 132, nameIndex := 11, descriptorIndex := 12, attributes := #[] }])
  fields := #[{ name := "modCount", type := .int, accessFlags := 132, slot := 0, constantValue := 0 }]
  methods := #[k13m0]
  instanceTypes := #[.int]
  staticTypes := #[]
  resolved := Array.replicate 218 none
  statics := none }

def pool14 : Array CpInfo := pool [(1, .class_ 2), (0, u "java/util/RandomAccess"), (0, .class_ 4), (0, u "java/lang/Object")] 2

/-- java/util/RandomAccess -/
def k14 : Class := { plain "java/util/RandomAccess" (some 0) with
  accessFlags := 1537
  interfaces := #[]
  cf := some (fileOf pool14 1 #[] #[] 1537 3 #[] #[])
  fields := #[]
  methods := #[]
  instanceTypes := #[]
  staticTypes := #[]
  resolved := Array.replicate 7 none
  statics := none }

def pool15 : Array CpInfo := pool [(1, .class_ 2), (0, u "java/lang/Cloneable"), (0, .class_ 4), (0, u "java/lang/Object")] 2

/-- java/lang/Cloneable -/
def k15 : Class := { plain "java/lang/Cloneable" (some 0) with
  accessFlags := 1537
  interfaces := #[]
  cf := some (fileOf pool15 1 #[] #[] 1537 3 #[] #[])
  fields := #[]
  methods := #[]
  instanceTypes := #[]
  staticTypes := #[]
  resolved := Array.replicate 7 none
  statics := none }

def pool16 : Array CpInfo := pool [(1, .methodref 2 3), (0, .class_ 4), (0, .nameAndType 5 6), (0, u "java/util/AbstractList"), (0, u "<init>"), (0, u "()V"), (0, .class_ 8), (0, u "java/lang/Object"), (0, .fieldref 10 11), (0, .class_ 12), (0, .nameAndType 13 14), (0, u "java/util/ArrayList"), (0, u "elementData"), (0, u "[Ljava/lang/Object;"), (2, u "EMPTY_ELEMENTDATA"), (21, .fieldref 10 40), (0, .nameAndType 41 14), (0, u "DEFAULTCAPACITY_EMPTY_ELEMENTDATA"), (5, u "()[Ljava/lang/Object;"), (0, .fieldref 10 49), (0, .nameAndType 50 51), (0, u "size"), (0, u "I"), (11, .fieldref 10 64), (0, .nameAndType 65 51), (0, u "modCount"), (3, .methodref 10 70), (0, .nameAndType 71 72), (0, u "grow"), (0, u "(I)[Ljava/lang/Object;"), (6, .methodref 80 81), (0, .class_ 82), (0, .nameAndType 83 84), (0, u "java/lang/Math"), (0, u "max"), (0, u "(II)I"), (11, u "(Ljava/lang/Object;)Z"), (21, .methodref 119 120), (0, .class_ 121), (0, .nameAndType 122 84), (0, u "java/util/Objects"), (0, u "checkIndex"), (0, .methodref 10 124), (0, .nameAndType 13 125), (0, u "(I)Ljava/lang/Object;"), (3, .methodref 10 130), (0, .nameAndType 71 47), (0, .methodref 10 132), (0, .nameAndType 133 134), (0, u "add"), (0, u "(Ljava/lang/Object;[Ljava/lang/Object;I)V"), (13, .class_ 149), (0, u "java/util/List"), (36, u "()I"), (75, .class_ 263), (0, u "java/util/ArrayList$ListItr"), (3, .class_ 268), (0, u "java/util/ArrayList$Itr"), (7, .class_ 277), (0, u "java/util/ArrayList$SubList"), (12, .class_ 291), (0, u "java/util/ArrayList$ArrayListSpliterator"), (37, .class_ 330), (0, u "java/util/RandomAccess"), (0, .class_ 332), (0, u "java/lang/Cloneable"), (0, .class_ 334), (0, u "java/io/Serializable"), (0, u "serialVersionUID"), (0, u "J"), (3, u "DEFAULT_CAPACITY"), (40, u "get"), (118, .class_ 501), (0, u "java/util/ArrayList$SubList$2"), (0, .class_ 503), (0, u "java/util/ArrayList$SubList$1")] 5

def k16c0 : Code := { maxStack := 2, maxLocals := 1, code := jdk_38_method_2_code, exceptionTable := #[], attributes := #[] }
def k16m0 : Method := { name := "<init>", desc := "()V", sig := { parameters := [], returnType := none }, accessFlags := 1, code := some k16c0 }
def k16c1 : Code := { maxStack := 4, maxLocals := 4, code := jdk_38_method_6_code, exceptionTable := #[], attributes := #[] }
def k16m1 : Method := { name := "grow", desc := "(I)[Ljava/lang/Object;", sig := { parameters := [.int], returnType := some (.array (.object "java/lang/Object")) }, accessFlags := 2, code := some k16c1 }
def k16c2 : Code := { maxStack := 3, maxLocals := 1, code := jdk_38_method_7_code, exceptionTable := #[], attributes := #[] }
def k16m2 : Method := { name := "grow", desc := "()[Ljava/lang/Object;", sig := { parameters := [], returnType := some (.array (.object "java/lang/Object")) }, accessFlags := 2, code := some k16c2 }
def k16c3 : Code := { maxStack := 1, maxLocals := 1, code := jdk_38_method_8_code, exceptionTable := #[], attributes := #[] }
def k16m3 : Method := { name := "size", desc := "()I", sig := { parameters := [], returnType := some .int }, accessFlags := 1, code := some k16c3 }
def k16c4 : Code := { maxStack := 2, maxLocals := 2, code := jdk_38_method_18_code, exceptionTable := #[], attributes := #[] }
def k16m4 : Method := { name := "elementData", desc := "(I)Ljava/lang/Object;", sig := { parameters := [.int], returnType := some (.object "java/lang/Object") }, accessFlags := 0, code := some k16c4 }
def k16c5 : Code := { maxStack := 2, maxLocals := 2, code := jdk_38_method_20_code, exceptionTable := #[], attributes := #[] }
def k16m5 : Method := { name := "get", desc := "(I)Ljava/lang/Object;", sig := { parameters := [.int], returnType := some (.object "java/lang/Object") }, accessFlags := 1, code := some k16c5 }
def k16c6 : Code := { maxStack := 3, maxLocals := 4, code := jdk_38_method_24_code, exceptionTable := #[], attributes := #[] }
def k16m6 : Method := { name := "add", desc := "(Ljava/lang/Object;[Ljava/lang/Object;I)V", sig := { parameters := [(.object "java/lang/Object"), (.array (.object "java/lang/Object")), .int], returnType := none }, accessFlags := 2, code := some k16c6 }
def k16c7 : Code := { maxStack := 4, maxLocals := 2, code := jdk_38_method_25_code, exceptionTable := #[], attributes := #[] }
def k16m7 : Method := { name := "add", desc := "(Ljava/lang/Object;)Z", sig := { parameters := [(.object "java/lang/Object")], returnType := some .boolean }, accessFlags := 1, code := some k16c7 }
/-- java/util/ArrayList -/
def k16 : Class := { plain "java/util/ArrayList" (some 13) with
  accessFlags := 33
  interfaces := #[12, 14, 15, 2]
  cf := some (fileOf pool16 10 #[.nestMembers #[290, 276, 500, 502, 262, 267]] #[{ accessFlags := 1, nameIndex := 5, descriptorIndex := 6, attributes := #[] }, { accessFlags := 2, nameIndex := 71, descriptorIndex := 72, attributes := #[] }, { accessFlags := 2, nameIndex := 71, descriptorIndex := 47, attributes := #[] }, { accessFlags := 1, nameIndex := 50, descriptorIndex := 186, attributes := #[] }, { accessFlags := 0, nameIndex := 13, descriptorIndex := 125, attributes := #[] }, { accessFlags := 1, nameIndex := 381, descriptorIndex := 125, attributes := #[] }, { accessFlags := 2, nameIndex := 133, descriptorIndex := 134, attributes := #[] }, { accessFlags := 1, nameIndex := 133, descriptorIndex := 96, attributes := #[] }] 33 2 #[148, 329, 331, 333] #[{ accessFlags := 26, nameIndex := 335, descriptorIndex := 336, attributes := #[] }, { accessFlags := 26, nameIndex := 340, descriptorIndex := 51, attributes := #[] }, { accessFlags := 26, nameIndex := 17, descriptorIndex := 14, attributes := #[] }, { accessFlags := 26, nameIndex := 41, descriptorIndex := 14, attributes := #[] }, { accessFlags := 128, nameIndex := 13, descriptorIndex := 14, attributes := #[] }, { accessFlags := 2, nameIndex := 50, descriptorIndex := 51, attributes := #[] }])
  fields := #[{ name := "serialVersionUID", type := .long, accessFlags := 26, slot := 0, constantValue := 0 }, { name := "DEFAULT_CAPACITY", type := .int, accessFlags := 26, slot := 1, constantValue := 0 }, { name := "EMPTY_ELEMENTDATA", type := (.array (.object "java/lang/Object")), accessFlags := 26, slot := 2, constantValue := 0 }, { name := "DEFAULTCAPACITY_EMPTY_ELEMENTDATA", type := (.array (.object "java/lang/Object")), accessFlags := 26, slot := 3, constantValue := 0 }, { name := "elementData", type := (.array (.object "java/lang/Object")), accessFlags := 128, slot := 1, constantValue := 0 }, { name := "size", type := .int, accessFlags := 2, slot := 2, constantValue := 0 }]
  methods := #[k16m0, k16m1, k16m2, k16m3, k16m4, k16m5, k16m6, k16m7]
  instanceTypes := #[.int, (.array (.object "java/lang/Object")), .int]
  staticTypes := #[.long, .int, (.array (.object "java/lang/Object")), (.array (.object "java/lang/Object"))]
  resolved := Array.replicate 509 none
  statics := some 1 }

def pool17 : Array CpInfo := pool [(2, .class_ 4), (1, u "java/lang/Object"), (3, .class_ 10), (1, u "com/example/tiphys/tiphys/KnowledgeBase"), (0, u "outOfOrder"), (0, u "(Ljava/util/List;)I"), (2, .interfaceMethodref 16 17), (0, .class_ 18), (0, .nameAndType 19 20), (0, u "java/util/List"), (0, u "get"), (0, u "(I)Ljava/lang/Object;"), (0, .class_ 22), (0, u "java/lang/String"), (27, .interfaceMethodref 16 51), (0, .nameAndType 52 53), (0, u "size"), (0, u "()I"), (17, u "databases"), (0, u "Ljava/util/List;"), (2, u "results"), (0, .methodref 77 78), (0, .class_ 79), (0, .nameAndType 80 81), (0, u "com/example/tiphys/tiphys/CodePointOrder"), (0, u "compare"), (0, u "(Ljava/lang/String;Ljava/lang/String;)I")] 30

def k17c0 : Code := { maxStack := 3, maxLocals := 2, code := prog_8_method_2_code, exceptionTable := #[], attributes := #[] }
def k17m0 : Method := { name := "outOfOrder", desc := "(Ljava/util/List;)I", sig := { parameters := [(.object "java/util/List")], returnType := some .int }, accessFlags := 8, code := some k17c0 }
/-- com/example/tiphys/tiphys/KnowledgeBase -/
def k17 : Class := { plain "com/example/tiphys/tiphys/KnowledgeBase" (some 0) with
  accessFlags := 33
  interfaces := #[]
  cf := some (fileOf pool17 8 #[] #[{ accessFlags := 8, nameIndex := 11, descriptorIndex := 12, attributes := #[] }] 33 2 #[] #[{ accessFlags := 18, nameIndex := 71, descriptorIndex := 72, attributes := #[] }, { accessFlags := 18, nameIndex := 75, descriptorIndex := 72, attributes := #[] }])
  fields := #[{ name := "databases", type := (.object "java/util/List"), accessFlags := 18, slot := 0, constantValue := 0 }, { name := "results", type := (.object "java/util/List"), accessFlags := 18, slot := 1, constantValue := 0 }]
  methods := #[k17m0]
  instanceTypes := #[(.object "java/util/List"), (.object "java/util/List")]
  staticTypes := #[]
  resolved := Array.replicate 112 none
  statics := none }

def pool18 : Array CpInfo := pool [(1, .class_ 2), (0, u "java/lang/Math"), (1, .class_ 6), (1, u "java/lang/Object"), (0, u "<init>"), (0, u "()V"), (89, .class_ 100), (1, u "java/lang/Math$RandomNumberGeneratorHolder"), (71, u "negativeZeroFloatBits"), (0, u "J"), (2, u "negativeZeroDoubleBits"), (21, u "max"), (46, u "$assertionsDisabled"), (0, u "Z"), (88, u "(II)I"), (2, u "twoToTheDoubleScaleDown"), (0, u "D"), (4, u "twoToTheDoubleScaleUp"), (9, u "E"), (3, u "PI"), (2, u "TAU"), (2, u "DEGREES_TO_RADIANS"), (0, u "RADIANS_TO_DEGREES")] 94

def k18m0 : Method := { name := "<init>", desc := "()V", sig := { parameters := [], returnType := none }, accessFlags := 2, code := none }
def k18c1 : Code := { maxStack := 2, maxLocals := 2, code := jdk_29_method_65_code, exceptionTable := #[], attributes := #[] }
def k18m1 : Method := { name := "max", desc := "(II)I", sig := { parameters := [.int, .int], returnType := some .int }, accessFlags := 9, code := some k18c1 }
/-- java/lang/Math -/
def k18 : Class := { plain "java/lang/Math" (some 0) with
  accessFlags := 49
  interfaces := #[]
  cf := some (fileOf pool18 1 #[.nestMembers #[98]] #[{ accessFlags := 2, nameIndex := 7, descriptorIndex := 8, attributes := #[] }, { accessFlags := 9, nameIndex := 198, descriptorIndex := 335, attributes := #[] }] 49 4 #[] #[{ accessFlags := 25, nameIndex := 354, descriptorIndex := 339, attributes := #[] }, { accessFlags := 25, nameIndex := 358, descriptorIndex := 339, attributes := #[] }, { accessFlags := 25, nameIndex := 361, descriptorIndex := 339, attributes := #[] }, { accessFlags := 26, nameIndex := 364, descriptorIndex := 339, attributes := #[] }, { accessFlags := 26, nameIndex := 365, descriptorIndex := 339, attributes := #[] }, { accessFlags := 26, nameIndex := 172, descriptorIndex := 173, attributes := #[] }, { accessFlags := 26, nameIndex := 176, descriptorIndex := 173, attributes := #[] }, { accessFlags := 8, nameIndex := 344, descriptorIndex := 339, attributes := #[] }, { accessFlags := 8, nameIndex := 338, descriptorIndex := 339, attributes := #[] }, { accessFlags := 4120, nameIndex := 245, descriptorIndex := 246, attributes := #[] }])
  fields := #[{ name := "E", type := .double, accessFlags := 25, slot := 0, constantValue := 0 }, { name := "PI", type := .double, accessFlags := 25, slot := 1, constantValue := 0 }, { name := "TAU", type := .double, accessFlags := 25, slot := 2, constantValue := 0 }, { name := "DEGREES_TO_RADIANS", type := .double, accessFlags := 26, slot := 3, constantValue := 0 }, { name := "RADIANS_TO_DEGREES", type := .double, accessFlags := 26, slot := 4, constantValue := 0 }, { name := "negativeZeroFloatBits", type := .long, accessFlags := 26, slot := 5, constantValue := 0 }, { name := "negativeZeroDoubleBits", type := .long, accessFlags := 26, slot := 6, constantValue := 0 }, { name := "twoToTheDoubleScaleUp", type := .double, accessFlags := 8, slot := 7, constantValue := 0 }, { name := "twoToTheDoubleScaleDown", type := .double, accessFlags := 8, slot := 8, constantValue := 0 }, { name := "$assertionsDisabled", type := .boolean, accessFlags := 4120, slot := 9, constantValue := 0 }]
  methods := #[k18m0, k18m1]
  instanceTypes := #[]
  staticTypes := #[.double, .double, .double, .double, .double, .long, .long, .double, .double, .boolean]
  resolved := Array.replicate 460 none
  statics := none }

def pool19 : Array CpInfo := pool [(2, .class_ 4), (1, u "java/lang/Object"), (0, u "<init>"), (0, u "()V"), (35, .class_ 44), (1, u "java/util/Objects"), (60, .methodref 106 107), (0, .class_ 108), (0, .nameAndType 109 110), (0, u "jdk/internal/util/Preconditions"), (0, u "checkIndex"), (0, u "(IILjava/util/function/BiFunction;)I"), (60, u "(II)I")] 12

def k19m0 : Method := { name := "<init>", desc := "()V", sig := { parameters := [], returnType := none }, accessFlags := 2, code := none }
def k19c1 : Code := { maxStack := 3, maxLocals := 2, code := jdk_31_method_17_code, exceptionTable := #[], attributes := #[] }
def k19m1 : Method := { name := "checkIndex", desc := "(II)I", sig := { parameters := [.int, .int], returnType := some .int }, accessFlags := 9, code := some k19c1 }
/-- java/util/Objects -/
def k19 : Class := { plain "java/util/Objects" (some 0) with
  accessFlags := 49
  interfaces := #[]
  cf := some (fileOf pool19 42 #[] #[{ accessFlags := 2, nameIndex := 5, descriptorIndex := 6, attributes := #[] }, { accessFlags := 9, nameIndex := 109, descriptorIndex := 171, attributes := #[] }] 49 2 #[] #[])
  fields := #[]
  methods := #[k19m0, k19m1]
  instanceTypes := #[]
  staticTypes := #[]
  resolved := Array.replicate 184 none
  statics := none }

def pool20 : Array CpInfo := pool [(2, .class_ 4), (1, u "java/lang/Object"), (0, u "<init>"), (0, u "()V"), (17, .class_ 26), (1, u "jdk/internal/util/Preconditions"), (6, u "checkIndex"), (21, .class_ 56), (0, u "jdk/internal/util/Preconditions$4"), (57, .class_ 115), (0, u "jdk/internal/util/Preconditions$1"), (7, u "SIOOBE_FORMATTER"), (0, u "Ljava/util/function/BiFunction;"), (0, .class_ 126), (0, u "jdk/internal/util/Preconditions$2"), (3, u "AIOOBE_FORMATTER"), (0, .class_ 132), (0, u "jdk/internal/util/Preconditions$3"), (3, u "IOOBE_FORMATTER"), (41, u "(IILjava/util/function/BiFunction;)I")] 15

def k20m0 : Method := { name := "<init>", desc := "()V", sig := { parameters := [], returnType := none }, accessFlags := 1, code := none }
def k20c1 : Code := { maxStack := 3, maxLocals := 3, code := jdk_41_method_11_code, exceptionTable := #[], attributes := #[] }
def k20m1 : Method := { name := "checkIndex", desc := "(IILjava/util/function/BiFunction;)I", sig := { parameters := [.int, .int, (.object "java/util/function/BiFunction")], returnType := some .int }, accessFlags := 9, code := some k20c1 }
/-- jdk/internal/util/Preconditions -/
def k20 : Class := { plain "jdk/internal/util/Preconditions" (some 0) with
  accessFlags := 33
  interfaces := #[]
  cf := some (fileOf pool20 24 #[.nestMembers #[55, 131, 125, 114]] #[{ accessFlags := 1, nameIndex := 5, descriptorIndex := 6, attributes := #[] }, { accessFlags := 9, nameIndex := 33, descriptorIndex := 178, attributes := #[] }] 33 2 #[] #[{ accessFlags := 25, nameIndex := 123, descriptorIndex := 124, attributes := #[] }, { accessFlags := 25, nameIndex := 130, descriptorIndex := 124, attributes := #[] }, { accessFlags := 25, nameIndex := 136, descriptorIndex := 124, attributes := #[] }])
  fields := #[{ name := "SIOOBE_FORMATTER", type := (.object "java/util/function/BiFunction"), accessFlags := 25, slot := 0, constantValue := 0 }, { name := "AIOOBE_FORMATTER", type := (.object "java/util/function/BiFunction"), accessFlags := 25, slot := 1, constantValue := 0 }, { name := "IOOBE_FORMATTER", type := (.object "java/util/function/BiFunction"), accessFlags := 25, slot := 2, constantValue := 0 }]
  methods := #[k20m0, k20m1]
  instanceTypes := #[]
  staticTypes := #[(.object "java/util/function/BiFunction"), (.object "java/util/function/BiFunction"), (.object "java/util/function/BiFunction")]
  resolved := Array.replicate 194 none
  statics := some 2 }

def pool21 : Array CpInfo := pool [(2, .class_ 4), (1, u "java/lang/Object"), (0, u "<init>"), (0, u "()V"), (0, .methodref 8 9), (0, .class_ 10), (0, .nameAndType 11 12), (0, u "java/lang/String"), (0, u "length"), (0, u "()I"), (0, .methodref 8 14), (0, .nameAndType 15 16), (0, u "codePointAt"), (0, u "(I)I"), (0, .methodref 18 19), (0, .class_ 20), (0, .nameAndType 21 22), (0, u "java/lang/Integer"), (0, u "compare"), (0, u "(II)I"), (0, .methodref 24 25), (0, .class_ 26), (0, .nameAndType 27 16), (0, u "java/lang/Character"), (0, u "charCount"), (0, .class_ 29), (0, u "com/example/tiphys/tiphys/CodePointOrder"), (2, u "(Ljava/lang/String;Ljava/lang/String;)I")] 3

def k21m0 : Method := { name := "<init>", desc := "()V", sig := { parameters := [], returnType := none }, accessFlags := 2, code := none }
def k21c1 : Code := { maxStack := 2, maxLocals := 5, code := prog_2_method_2_code, exceptionTable := #[], attributes := #[] }
def k21m1 : Method := { name := "compare", desc := "(Ljava/lang/String;Ljava/lang/String;)I", sig := { parameters := [(.object "java/lang/String"), (.object "java/lang/String")], returnType := some .int }, accessFlags := 9, code := some k21c1 }
/-- com/example/tiphys/tiphys/CodePointOrder -/
def k21 : Class := { plain "com/example/tiphys/tiphys/CodePointOrder" (some 0) with
  accessFlags := 33
  interfaces := #[]
  cf := some (fileOf pool21 28 #[] #[{ accessFlags := 2, nameIndex := 5, descriptorIndex := 6, attributes := #[] }, { accessFlags := 9, nameIndex := 21, descriptorIndex := 32, attributes := #[] }] 33 2 #[] #[])
  fields := #[]
  methods := #[k21m0, k21m1]
  instanceTypes := #[]
  staticTypes := #[]
  resolved := Array.replicate 36 none
  statics := none }

def pool22 : Array CpInfo := pool [(2, .class_ 4), (1, u "java/lang/Object"), (0, u "<init>"), (0, u "()V"), (1, .class_ 10), (1, u "java/lang/Number"), (2, .class_ 14), (0, u "java/io/Serializable"), (0, u "serialVersionUID"), (0, u "J")] 20

def k22m0 : Method := { name := "<init>", desc := "()V", sig := { parameters := [], returnType := none }, accessFlags := 1, code := none }
/-- java/lang/Number -/
def k22 : Class := { plain "java/lang/Number" (some 0) with
  accessFlags := 1057
  interfaces := #[2]
  cf := some (fileOf pool22 8 #[] #[{ accessFlags := 1, nameIndex := 5, descriptorIndex := 6, attributes := #[] }] 1057 2 #[13] #[{ accessFlags := 26, nameIndex := 15, descriptorIndex := 16, attributes := #[] }])
  fields := #[{ name := "serialVersionUID", type := .long, accessFlags := 26, slot := 0, constantValue := 0 }]
  methods := #[k22m0]
  instanceTypes := #[]
  staticTypes := #[.long]
  resolved := Array.replicate 37 none
  statics := none }

def pool23 : Array CpInfo := pool [(1, .class_ 2), (0, u "java/lang/Integer"), (16, u "digits"), (0, u "[C"), (39, u "(II)I"), (24, u "DigitOnes"), (0, u "[B"), (2, u "DigitTens"), (99, .class_ 190), (0, u "java/lang/Integer$IntegerCache"), (3, u "I"), (8, .class_ 204), (0, u "java/lang/Number"), (2, u "value"), (53, u "compare"), (40, u "TYPE"), (0, u "Ljava/lang/Class;"), (0, .class_ 305), (0, u "java/lang/Comparable"), (0, .class_ 307), (0, u "java/lang/constant/Constable"), (0, .class_ 309), (0, u "java/lang/constant/ConstantDesc"), (0, u "MIN_VALUE"), (1, u "MAX_VALUE"), (3, u "SIZE"), (1, u "BYTES"), (1, u "serialVersionUID"), (0, u "J")] 131

def k23c0 : Code := { maxStack := 2, maxLocals := 2, code := jdk_33_method_40_code, exceptionTable := #[], attributes := #[] }
def k23m0 : Method := { name := "compare", desc := "(II)I", sig := { parameters := [.int, .int], returnType := some .int }, accessFlags := 9, code := some k23c0 }
/-- java/lang/Integer -/
def k23 : Class := { plain "java/lang/Integer" (some 22) with
  accessFlags := 49
  interfaces := #[3, 5, 6]
  cf := some (fileOf pool23 1 #[.nestMembers #[189]] #[{ accessFlags := 9, nameIndex := 261, descriptorIndex := 60, attributes := #[] }] 49 203 #[304, 306, 308] #[{ accessFlags := 25, nameIndex := 310, descriptorIndex := 194, attributes := #[] }, { accessFlags := 25, nameIndex := 312, descriptorIndex := 194, attributes := #[] }, { accessFlags := 25, nameIndex := 302, descriptorIndex := 303, attributes := #[] }, { accessFlags := 24, nameIndex := 19, descriptorIndex := 20, attributes := #[] }, { accessFlags := 24, nameIndex := 89, descriptorIndex := 86, attributes := #[] }, { accessFlags := 24, nameIndex := 85, descriptorIndex := 86, attributes := #[] }, { accessFlags := 18, nameIndex := 207, descriptorIndex := 194, attributes := #[] }, { accessFlags := 25, nameIndex := 316, descriptorIndex := 194, attributes := #[] }, { accessFlags := 25, nameIndex := 318, descriptorIndex := 194, attributes := #[] }, { accessFlags := 26, nameIndex := 320, descriptorIndex := 321, attributes := #[] }])
  fields := #[{ name := "MIN_VALUE", type := .int, accessFlags := 25, slot := 0, constantValue := 0 }, { name := "MAX_VALUE", type := .int, accessFlags := 25, slot := 1, constantValue := 0 }, { name := "TYPE", type := (.object "java/lang/Class"), accessFlags := 25, slot := 2, constantValue := 0 }, { name := "digits", type := (.array .char), accessFlags := 24, slot := 3, constantValue := 0 }, { name := "DigitTens", type := (.array .byte), accessFlags := 24, slot := 4, constantValue := 0 }, { name := "DigitOnes", type := (.array .byte), accessFlags := 24, slot := 5, constantValue := 0 }, { name := "value", type := .int, accessFlags := 18, slot := 0, constantValue := 0 }, { name := "SIZE", type := .int, accessFlags := 25, slot := 6, constantValue := 0 }, { name := "BYTES", type := .int, accessFlags := 25, slot := 7, constantValue := 0 }, { name := "serialVersionUID", type := .long, accessFlags := 26, slot := 8, constantValue := 0 }]
  methods := #[k23m0]
  instanceTypes := #[.int]
  staticTypes := #[.int, .int, (.object "java/lang/Class"), (.array .char), (.array .byte), (.array .byte), .int, .int, .long]
  resolved := Array.replicate 453 none
  statics := none }

def pool24 : Array CpInfo := pool [(4, .class_ 6), (1, u "java/lang/Object"), (0, u "<init>"), (0, u "()V"), (5, .class_ 16), (1, u "java/lang/StringLatin1"), (73, u "canEncode"), (14, u "(C)Z"), (15, u "$assertionsDisabled"), (0, u "Z"), (98, .class_ 223), (1, u "java/lang/StringLatin1$LinesSpliterator"), (156, u "toBytes"), (1, u "(C)[B"), (7, .class_ 391), (0, u "java/lang/StringLatin1$CharsSpliterator")] 3

def k24m0 : Method := { name := "<init>", desc := "()V", sig := { parameters := [], returnType := none }, accessFlags := 0, code := none }
def k24c1 : Code := { maxStack := 2, maxLocals := 1, code := jdk_43_method_3_code, exceptionTable := #[], attributes := #[] }
def k24m1 : Method := { name := "canEncode", desc := "(C)Z", sig := { parameters := [.char], returnType := some .boolean }, accessFlags := 9, code := some k24c1 }
def k24c2 : Code := { maxStack := 4, maxLocals := 1, code := jdk_43_method_46_code, exceptionTable := #[], attributes := #[] }
def k24m2 : Method := { name := "toBytes", desc := "(C)[B", sig := { parameters := [.char], returnType := some (.array .byte) }, accessFlags := 9, code := some k24c2 }
/-- java/lang/StringLatin1 -/
def k24 : Class := { plain "java/lang/StringLatin1" (some 0) with
  accessFlags := 48
  interfaces := #[]
  cf := some (fileOf pool24 14 #[.nestMembers #[390, 221]] #[{ accessFlags := 0, nameIndex := 7, descriptorIndex := 8, attributes := #[] }, { accessFlags := 9, nameIndex := 90, descriptorIndex := 105, attributes := #[] }, { accessFlags := 9, nameIndex := 380, descriptorIndex := 382, attributes := #[] }] 48 4 #[] #[{ accessFlags := 4120, nameIndex := 121, descriptorIndex := 122, attributes := #[] }])
  fields := #[{ name := "$assertionsDisabled", type := .boolean, accessFlags := 4120, slot := 0, constantValue := 0 }]
  methods := #[k24m0, k24m1, k24m2]
  instanceTypes := #[]
  staticTypes := #[.boolean]
  resolved := Array.replicate 395 none
  statics := none }

def pool25 : Array CpInfo := pool [(1, .class_ 2), (0, u "java/lang/Character"), (18, u "value"), (0, u "C"), (19, .class_ 44), (1, u "java/lang/Object"), (3, .class_ 50), (1, u "java/lang/Character$CharacterCache"), (22, .integer 65536), (100, u "(I)I"), (109, u "$assertionsDisabled"), (0, u "Z"), (21, .class_ 309), (1, u "java/lang/Character$UnicodeBlock"), (73, u "TYPE"), (0, u "Ljava/lang/Class;"), (0, .class_ 386), (0, u "java/io/Serializable"), (0, .class_ 388), (0, u "java/lang/Comparable"), (0, .class_ 390), (0, u "java/lang/constant/Constable"), (0, u "MIN_RADIX"), (0, u "I"), (2, u "MAX_RADIX"), (1, u "MIN_VALUE"), (1, u "MAX_VALUE"), (3, u "UNASSIGNED"), (0, u "B"), (0, u "UPPERCASE_LETTER"), (1, u "LOWERCASE_LETTER"), (0, u "TITLECASE_LETTER"), (1, u "MODIFIER_LETTER"), (1, u "OTHER_LETTER"), (1, u "NON_SPACING_MARK"), (1, u "ENCLOSING_MARK"), (1, u "COMBINING_SPACING_MARK"), (1, u "DECIMAL_DIGIT_NUMBER"), (1, u "LETTER_NUMBER"), (1, u "OTHER_NUMBER"), (1, u "SPACE_SEPARATOR"), (1, u "LINE_SEPARATOR"), (1, u "PARAGRAPH_SEPARATOR"), (1, u "CONTROL"), (1, u "FORMAT"), (1, u "PRIVATE_USE"), (1, u "SURROGATE"), (1, u "DASH_PUNCTUATION"), (1, u "START_PUNCTUATION"), (1, u "END_PUNCTUATION"), (1, u "CONNECTOR_PUNCTUATION"), (1, u "OTHER_PUNCTUATION"), (1, u "MATH_SYMBOL"), (1, u "CURRENCY_SYMBOL"), (1, u "MODIFIER_SYMBOL"), (1, u "OTHER_SYMBOL"), (1, u "INITIAL_QUOTE_PUNCTUATION"), (1, u "FINAL_QUOTE_PUNCTUATION"), (1, u "ERROR"), (1, u "DIRECTIONALITY_UNDEFINED"), (0, u "DIRECTIONALITY_LEFT_TO_RIGHT"), (0, u "DIRECTIONALITY_RIGHT_TO_LEFT"), (0, u "DIRECTIONALITY_RIGHT_TO_LEFT_ARABIC"), (0, u "DIRECTIONALITY_EUROPEAN_NUMBER"), (0, u "DIRECTIONALITY_EUROPEAN_NUMBER_SEPARATOR"), (0, u "DIRECTIONALITY_EUROPEAN_NUMBER_TERMINATOR"), (0, u "DIRECTIONALITY_ARABIC_NUMBER"), (0, u "DIRECTIONALITY_COMMON_NUMBER_SEPARATOR"), (0, u "DIRECTIONALITY_NONSPACING_MARK"), (0, u "DIRECTIONALITY_BOUNDARY_NEUTRAL"), (0, u "DIRECTIONALITY_PARAGRAPH_SEPARATOR"), (0, u "DIRECTIONALITY_SEGMENT_SEPARATOR"), (0, u "DIRECTIONALITY_WHITESPACE"), (0, u "DIRECTIONALITY_OTHER_NEUTRALS"), (0, u "DIRECTIONALITY_LEFT_TO_RIGHT_EMBEDDING"), (0, u "DIRECTIONALITY_LEFT_TO_RIGHT_OVERRIDE"), (0, u "DIRECTIONALITY_RIGHT_TO_LEFT_EMBEDDING"), (0, u "DIRECTIONALITY_RIGHT_TO_LEFT_OVERRIDE"), (1, u "DIRECTIONALITY_POP_DIRECTIONAL_FORMAT"), (0, u "DIRECTIONALITY_LEFT_TO_RIGHT_ISOLATE"), (0, u "DIRECTIONALITY_RIGHT_TO_LEFT_ISOLATE"), (0, u "DIRECTIONALITY_FIRST_STRONG_ISOLATE"), (0, u "DIRECTIONALITY_POP_DIRECTIONAL_ISOLATE"), (0, u "MIN_HIGH_SURROGATE"), (0, u "MAX_HIGH_SURROGATE"), (1, u "MIN_LOW_SURROGATE"), (0, u "MAX_LOW_SURROGATE"), (1, u "MIN_SURROGATE"), (0, u "MAX_SURROGATE"), (0, u "MIN_SUPPLEMENTARY_CODE_POINT"), (0, u "MIN_CODE_POINT"), (0, u "MAX_CODE_POINT"), (1, u "serialVersionUID"), (0, u "J"), (2, u "SIZE"), (0, u "BYTES"), (29, u "charCount"), (58, .class_ 596), (0, u "java/lang/Character$UnicodeScript"), (0, .class_ 598), (0, u "java/lang/Character$Subset")] 5

def k25c0 : Code := { maxStack := 2, maxLocals := 1, code := jdk_89_method_18_code, exceptionTable := #[], attributes := #[] }
def k25m0 : Method := { name := "charCount", desc := "(I)I", sig := { parameters := [.int], returnType := some .int }, accessFlags := 9, code := some k25c0 }
/-- java/lang/Character -/
def k25 : Class := { plain "java/lang/Character" (some 0) with
  accessFlags := 49
  interfaces := #[2, 3, 5]
  cf := some (fileOf pool25 1 #[.nestMembers #[48, 595, 307, 597]] #[{ accessFlags := 9, nameIndex := 536, descriptorIndex := 174, attributes := #[] }] 49 42 #[385, 387, 389] #[{ accessFlags := 25, nameIndex := 391, descriptorIndex := 392, attributes := #[] }, { accessFlags := 25, nameIndex := 395, descriptorIndex := 392, attributes := #[] }, { accessFlags := 25, nameIndex := 397, descriptorIndex := 22, attributes := #[] }, { accessFlags := 25, nameIndex := 399, descriptorIndex := 22, attributes := #[] }, { accessFlags := 25, nameIndex := 383, descriptorIndex := 384, attributes := #[] }, { accessFlags := 25, nameIndex := 403, descriptorIndex := 404, attributes := #[] }, { accessFlags := 25, nameIndex := 405, descriptorIndex := 404, attributes := #[] }, { accessFlags := 25, nameIndex := 407, descriptorIndex := 404, attributes := #[] }, { accessFlags := 25, nameIndex := 408, descriptorIndex := 404, attributes := #[] }, { accessFlags := 25, nameIndex := 410, descriptorIndex := 404, attributes := #[] }, { accessFlags := 25, nameIndex := 412, descriptorIndex := 404, attributes := #[] }, { accessFlags := 25, nameIndex := 414, descriptorIndex := 404, attributes := #[] }, { accessFlags := 25, nameIndex := 416, descriptorIndex := 404, attributes := #[] }, { accessFlags := 25, nameIndex := 418, descriptorIndex := 404, attributes := #[] }, { accessFlags := 25, nameIndex := 420, descriptorIndex := 404, attributes := #[] }, { accessFlags := 25, nameIndex := 422, descriptorIndex := 404, attributes := #[] }, { accessFlags := 25, nameIndex := 424, descriptorIndex := 404, attributes := #[] }, { accessFlags := 25, nameIndex := 426, descriptorIndex := 404, attributes := #[] }, { accessFlags := 25, nameIndex := 428, descriptorIndex := 404, attributes := #[] }, { accessFlags := 25, nameIndex := 430, descriptorIndex := 404, attributes := #[] }, { accessFlags := 25, nameIndex := 432, descriptorIndex := 404, attributes := #[] }, { accessFlags := 25, nameIndex := 434, descriptorIndex := 404, attributes := #[] }, { accessFlags := 25, nameIndex := 436, descriptorIndex := 404, attributes := #[] }, { accessFlags := 25, nameIndex := 438, descriptorIndex := 404, attributes := #[] }, { accessFlags := 25, nameIndex := 440, descriptorIndex := 404, attributes := #[] }, { accessFlags := 25, nameIndex := 442, descriptorIndex := 404, attributes := #[] }, { accessFlags := 25, nameIndex := 444, descriptorIndex := 404, attributes := #[] }, { accessFlags := 25, nameIndex := 446, descriptorIndex := 404, attributes := #[] }, { accessFlags := 25, nameIndex := 448, descriptorIndex := 404, attributes := #[] }, { accessFlags := 25, nameIndex := 450, descriptorIndex := 404, attributes := #[] }, { accessFlags := 25, nameIndex := 452, descriptorIndex := 404, attributes := #[] }, { accessFlags := 25, nameIndex := 454, descriptorIndex := 404, attributes := #[] }, { accessFlags := 25, nameIndex := 456, descriptorIndex := 404, attributes := #[] }, { accessFlags := 25, nameIndex := 458, descriptorIndex := 404, attributes := #[] }, { accessFlags := 25, nameIndex := 460, descriptorIndex := 404, attributes := #[] }, { accessFlags := 24, nameIndex := 462, descriptorIndex := 392, attributes := #[] }, { accessFlags := 25, nameIndex := 464, descriptorIndex := 404, attributes := #[] }, { accessFlags := 25, nameIndex := 465, descriptorIndex := 404, attributes := #[] }, { accessFlags := 25, nameIndex := 466, descriptorIndex := 404, attributes := #[] }, { accessFlags := 25, nameIndex := 467, descriptorIndex := 404, attributes := #[] }, { accessFlags := 25, nameIndex := 468, descriptorIndex := 404, attributes := #[] }, { accessFlags := 25, nameIndex := 469, descriptorIndex := 404, attributes := #[] }, { accessFlags := 25, nameIndex := 470, descriptorIndex := 404, attributes := #[] }, { accessFlags := 25, nameIndex := 471, descriptorIndex := 404, attributes := #[] }, { accessFlags := 25, nameIndex := 472, descriptorIndex := 404, attributes := #[] }, { accessFlags := 25, nameIndex := 473, descriptorIndex := 404, attributes := #[] }, { accessFlags := 25, nameIndex := 474, descriptorIndex := 404, attributes := #[] }, { accessFlags := 25, nameIndex := 475, descriptorIndex := 404, attributes := #[] }, { accessFlags := 25, nameIndex := 476, descriptorIndex := 404, attributes := #[] }, { accessFlags := 25, nameIndex := 477, descriptorIndex := 404, attributes := #[] }, { accessFlags := 25, nameIndex := 478, descriptorIndex := 404, attributes := #[] }, { accessFlags := 25, nameIndex := 479, descriptorIndex := 404, attributes := #[] }, { accessFlags := 25, nameIndex := 480, descriptorIndex := 404, attributes := #[] }, { accessFlags := 25, nameIndex := 481, descriptorIndex := 404, attributes := #[] }, { accessFlags := 25, nameIndex := 482, descriptorIndex := 404, attributes := #[] }, { accessFlags := 25, nameIndex := 484, descriptorIndex := 404, attributes := #[] }, { accessFlags := 25, nameIndex := 485, descriptorIndex := 404, attributes := #[] }, { accessFlags := 25, nameIndex := 486, descriptorIndex := 404, attributes := #[] }, { accessFlags := 25, nameIndex := 487, descriptorIndex := 404, attributes := #[] }, { accessFlags := 25, nameIndex := 488, descriptorIndex := 404, attributes := #[] }, { accessFlags := 25, nameIndex := 489, descriptorIndex := 22, attributes := #[] }, { accessFlags := 25, nameIndex := 490, descriptorIndex := 22, attributes := #[] }, { accessFlags := 25, nameIndex := 492, descriptorIndex := 22, attributes := #[] }, { accessFlags := 25, nameIndex := 493, descriptorIndex := 22, attributes := #[] }, { accessFlags := 25, nameIndex := 495, descriptorIndex := 22, attributes := #[] }, { accessFlags := 25, nameIndex := 496, descriptorIndex := 22, attributes := #[] }, { accessFlags := 25, nameIndex := 497, descriptorIndex := 392, attributes := #[] }, { accessFlags := 25, nameIndex := 498, descriptorIndex := 392, attributes := #[] }, { accessFlags := 25, nameIndex := 499, descriptorIndex := 392, attributes := #[] }, { accessFlags := 18, nameIndex := 21, descriptorIndex := 22, attributes := #[] }, { accessFlags := 26, nameIndex := 501, descriptorIndex := 502, attributes := #[] }, { accessFlags := 25, nameIndex := 505, descriptorIndex := 392, attributes := #[] }, { accessFlags := 25, nameIndex := 506, descriptorIndex := 392, attributes := #[] }, { accessFlags := 4120, nameIndex := 284, descriptorIndex := 285, attributes := #[] }])
  fields := #[{ name := "MIN_RADIX", type := .int, accessFlags := 25, slot := 0, constantValue := 0 }, { name := "MAX_RADIX", type := .int, accessFlags := 25, slot := 1, constantValue := 0 }, { name := "MIN_VALUE", type := .char, accessFlags := 25, slot := 2, constantValue := 0 }, { name := "MAX_VALUE", type := .char, accessFlags := 25, slot := 3, constantValue := 0 }, { name := "TYPE", type := (.object "java/lang/Class"), accessFlags := 25, slot := 4, constantValue := 0 }, { name := "UNASSIGNED", type := .byte, accessFlags := 25, slot := 5, constantValue := 0 }, { name := "UPPERCASE_LETTER", type := .byte, accessFlags := 25, slot := 6, constantValue := 0 }, { name := "LOWERCASE_LETTER", type := .byte, accessFlags := 25, slot := 7, constantValue := 0 }, { name := "TITLECASE_LETTER", type := .byte, accessFlags := 25, slot := 8, constantValue := 0 }, { name := "MODIFIER_LETTER", type := .byte, accessFlags := 25, slot := 9, constantValue := 0 }, { name := "OTHER_LETTER", type := .byte, accessFlags := 25, slot := 10, constantValue := 0 }, { name := "NON_SPACING_MARK", type := .byte, accessFlags := 25, slot := 11, constantValue := 0 }, { name := "ENCLOSING_MARK", type := .byte, accessFlags := 25, slot := 12, constantValue := 0 }, { name := "COMBINING_SPACING_MARK", type := .byte, accessFlags := 25, slot := 13, constantValue := 0 }, { name := "DECIMAL_DIGIT_NUMBER", type := .byte, accessFlags := 25, slot := 14, constantValue := 0 }, { name := "LETTER_NUMBER", type := .byte, accessFlags := 25, slot := 15, constantValue := 0 }, { name := "OTHER_NUMBER", type := .byte, accessFlags := 25, slot := 16, constantValue := 0 }, { name := "SPACE_SEPARATOR", type := .byte, accessFlags := 25, slot := 17, constantValue := 0 }, { name := "LINE_SEPARATOR", type := .byte, accessFlags := 25, slot := 18, constantValue := 0 }, { name := "PARAGRAPH_SEPARATOR", type := .byte, accessFlags := 25, slot := 19, constantValue := 0 }, { name := "CONTROL", type := .byte, accessFlags := 25, slot := 20, constantValue := 0 }, { name := "FORMAT", type := .byte, accessFlags := 25, slot := 21, constantValue := 0 }, { name := "PRIVATE_USE", type := .byte, accessFlags := 25, slot := 22, constantValue := 0 }, { name := "SURROGATE", type := .byte, accessFlags := 25, slot := 23, constantValue := 0 }, { name := "DASH_PUNCTUATION", type := .byte, accessFlags := 25, slot := 24, constantValue := 0 }, { name := "START_PUNCTUATION", type := .byte, accessFlags := 25, slot := 25, constantValue := 0 }, { name := "END_PUNCTUATION", type := .byte, accessFlags := 25, slot := 26, constantValue := 0 }, { name := "CONNECTOR_PUNCTUATION", type := .byte, accessFlags := 25, slot := 27, constantValue := 0 }, { name := "OTHER_PUNCTUATION", type := .byte, accessFlags := 25, slot := 28, constantValue := 0 }, { name := "MATH_SYMBOL", type := .byte, accessFlags := 25, slot := 29, constantValue := 0 }, { name := "CURRENCY_SYMBOL", type := .byte, accessFlags := 25, slot := 30, constantValue := 0 }, { name := "MODIFIER_SYMBOL", type := .byte, accessFlags := 25, slot := 31, constantValue := 0 }, { name := "OTHER_SYMBOL", type := .byte, accessFlags := 25, slot := 32, constantValue := 0 }, { name := "INITIAL_QUOTE_PUNCTUATION", type := .byte, accessFlags := 25, slot := 33, constantValue := 0 }, { name := "FINAL_QUOTE_PUNCTUATION", type := .byte, accessFlags := 25, slot := 34, constantValue := 0 }, { name := "ERROR", type := .int, accessFlags := 24, slot := 35, constantValue := 0 }, { name := "DIRECTIONALITY_UNDEFINED", type := .byte, accessFlags := 25, slot := 36, constantValue := 0 }, { name := "DIRECTIONALITY_LEFT_TO_RIGHT", type := .byte, accessFlags := 25, slot := 37, constantValue := 0 }, { name := "DIRECTIONALITY_RIGHT_TO_LEFT", type := .byte, accessFlags := 25, slot := 38, constantValue := 0 }, { name := "DIRECTIONALITY_RIGHT_TO_LEFT_ARABIC", type := .byte, accessFlags := 25, slot := 39, constantValue := 0 }, { name := "DIRECTIONALITY_EUROPEAN_NUMBER", type := .byte, accessFlags := 25, slot := 40, constantValue := 0 }, { name := "DIRECTIONALITY_EUROPEAN_NUMBER_SEPARATOR", type := .byte, accessFlags := 25, slot := 41, constantValue := 0 }, { name := "DIRECTIONALITY_EUROPEAN_NUMBER_TERMINATOR", type := .byte, accessFlags := 25, slot := 42, constantValue := 0 }, { name := "DIRECTIONALITY_ARABIC_NUMBER", type := .byte, accessFlags := 25, slot := 43, constantValue := 0 }, { name := "DIRECTIONALITY_COMMON_NUMBER_SEPARATOR", type := .byte, accessFlags := 25, slot := 44, constantValue := 0 }, { name := "DIRECTIONALITY_NONSPACING_MARK", type := .byte, accessFlags := 25, slot := 45, constantValue := 0 }, { name := "DIRECTIONALITY_BOUNDARY_NEUTRAL", type := .byte, accessFlags := 25, slot := 46, constantValue := 0 }, { name := "DIRECTIONALITY_PARAGRAPH_SEPARATOR", type := .byte, accessFlags := 25, slot := 47, constantValue := 0 }, { name := "DIRECTIONALITY_SEGMENT_SEPARATOR", type := .byte, accessFlags := 25, slot := 48, constantValue := 0 }, { name := "DIRECTIONALITY_WHITESPACE", type := .byte, accessFlags := 25, slot := 49, constantValue := 0 }, { name := "DIRECTIONALITY_OTHER_NEUTRALS", type := .byte, accessFlags := 25, slot := 50, constantValue := 0 }, { name := "DIRECTIONALITY_LEFT_TO_RIGHT_EMBEDDING", type := .byte, accessFlags := 25, slot := 51, constantValue := 0 }, { name := "DIRECTIONALITY_LEFT_TO_RIGHT_OVERRIDE", type := .byte, accessFlags := 25, slot := 52, constantValue := 0 }, { name := "DIRECTIONALITY_RIGHT_TO_LEFT_EMBEDDING", type := .byte, accessFlags := 25, slot := 53, constantValue := 0 }, { name := "DIRECTIONALITY_RIGHT_TO_LEFT_OVERRIDE", type := .byte, accessFlags := 25, slot := 54, constantValue := 0 }, { name := "DIRECTIONALITY_POP_DIRECTIONAL_FORMAT", type := .byte, accessFlags := 25, slot := 55, constantValue := 0 }, { name := "DIRECTIONALITY_LEFT_TO_RIGHT_ISOLATE", type := .byte, accessFlags := 25, slot := 56, constantValue := 0 }, { name := "DIRECTIONALITY_RIGHT_TO_LEFT_ISOLATE", type := .byte, accessFlags := 25, slot := 57, constantValue := 0 }, { name := "DIRECTIONALITY_FIRST_STRONG_ISOLATE", type := .byte, accessFlags := 25, slot := 58, constantValue := 0 }, { name := "DIRECTIONALITY_POP_DIRECTIONAL_ISOLATE", type := .byte, accessFlags := 25, slot := 59, constantValue := 0 }, { name := "MIN_HIGH_SURROGATE", type := .char, accessFlags := 25, slot := 60, constantValue := 0 }, { name := "MAX_HIGH_SURROGATE", type := .char, accessFlags := 25, slot := 61, constantValue := 0 }, { name := "MIN_LOW_SURROGATE", type := .char, accessFlags := 25, slot := 62, constantValue := 0 }, { name := "MAX_LOW_SURROGATE", type := .char, accessFlags := 25, slot := 63, constantValue := 0 }, { name := "MIN_SURROGATE", type := .char, accessFlags := 25, slot := 64, constantValue := 0 }, { name := "MAX_SURROGATE", type := .char, accessFlags := 25, slot := 65, constantValue := 0 }, { name := "MIN_SUPPLEMENTARY_CODE_POINT", type := .int, accessFlags := 25, slot := 66, constantValue := 0 }, { name := "MIN_CODE_POINT", type := .int, accessFlags := 25, slot := 67, constantValue := 0 }, { name := "MAX_CODE_POINT", type := .int, accessFlags := 25, slot := 68, constantValue := 0 }, { name := "value", type := .char, accessFlags := 18, slot := 0, constantValue := 0 }, { name := "serialVersionUID", type := .long, accessFlags := 26, slot := 69, constantValue := 0 }, { name := "SIZE", type := .int, accessFlags := 25, slot := 70, constantValue := 0 }, { name := "BYTES", type := .int, accessFlags := 25, slot := 71, constantValue := 0 }, { name := "$assertionsDisabled", type := .boolean, accessFlags := 4120, slot := 72, constantValue := 0 }]
  methods := #[k25m0]
  instanceTypes := #[.char]
  staticTypes := #[.int, .int, .char, .char, (.object "java/lang/Class"), .byte, .byte, .byte, .byte, .byte, .byte, .byte, .byte, .byte, .byte, .byte, .byte, .byte, .byte, .byte, .byte, .byte, .byte, .byte, .byte, .byte, .byte, .byte, .byte, .byte, .byte, .byte, .byte, .byte, .byte, .int, .byte, .byte, .byte, .byte, .byte, .byte, .byte, .byte, .byte, .byte, .byte, .byte, .byte, .byte, .byte, .byte, .byte, .byte, .byte, .byte, .byte, .byte, .byte, .byte, .char, .char, .char, .char, .char, .char, .int, .int, .int, .long, .int, .int, .boolean]
  resolved := Array.replicate 604 none
  statics := none }

def pool26 : Array CpInfo := pool [(9, u "<init>"), (6, .class_ 18), (1, u "java/lang/Object"), (0, u "()V"), (1, .class_ 23), (1, u "jdk/internal/util/ArraysSupport"), (0, u "LOG2_ARRAY_LONG_INDEX_SCALE"), (0, u "I"), (2, u "U"), (0, u "Ljdk/internal/misc/Unsafe;"), (8, u "BIG_ENDIAN"), (0, u "Z"), (8, u "LOG2_BYTE_BIT_SIZE"), (4, u "LOG2_ARRAY_INT_INDEX_SCALE"), (54, u "JLA"), (0, u "Ljdk/internal/access/JavaLangAccess;"), (11, u "LOG2_ARRAY_BOOLEAN_INDEX_SCALE"), (9, u "LOG2_ARRAY_BYTE_INDEX_SCALE"), (5, u "LOG2_ARRAY_CHAR_INDEX_SCALE"), (5, u "LOG2_ARRAY_SHORT_INDEX_SCALE"), (18, u "LOG2_ARRAY_FLOAT_INDEX_SCALE"), (24, u "LOG2_ARRAY_DOUBLE_INDEX_SCALE"), (89, u "T_BOOLEAN"), (2, u "T_CHAR"), (1, u "T_FLOAT"), (1, u "T_DOUBLE"), (1, u "T_BYTE"), (1, u "T_SHORT"), (1, u "T_INT"), (1, u "T_LONG"), (1, u "SOFT_MAX_ARRAY_LENGTH")] 83

def k26m0 : Method := { name := "<init>", desc := "()V", sig := { parameters := [], returnType := none }, accessFlags := 2, code := none }
/-- jdk/internal/util/ArraysSupport -/
def k26 : Class := { plain "jdk/internal/util/ArraysSupport" (some 0) with
  accessFlags := 33
  interfaces := #[]
  cf := some (fileOf pool26 21 #[] #[{ accessFlags := 2, nameIndex := 9, descriptorIndex := 19, attributes := #[] }] 33 16 #[] #[{ accessFlags := 24, nameIndex := 28, descriptorIndex := 29, attributes := #[] }, { accessFlags := 26, nameIndex := 38, descriptorIndex := 39, attributes := #[] }, { accessFlags := 25, nameIndex := 121, descriptorIndex := 25, attributes := #[] }, { accessFlags := 25, nameIndex := 131, descriptorIndex := 25, attributes := #[] }, { accessFlags := 25, nameIndex := 137, descriptorIndex := 25, attributes := #[] }, { accessFlags := 25, nameIndex := 143, descriptorIndex := 25, attributes := #[] }, { accessFlags := 25, nameIndex := 53, descriptorIndex := 25, attributes := #[] }, { accessFlags := 25, nameIndex := 24, descriptorIndex := 25, attributes := #[] }, { accessFlags := 25, nameIndex := 162, descriptorIndex := 25, attributes := #[] }, { accessFlags := 25, nameIndex := 187, descriptorIndex := 25, attributes := #[] }, { accessFlags := 26, nameIndex := 48, descriptorIndex := 25, attributes := #[] }, { accessFlags := 25, nameIndex := 277, descriptorIndex := 25, attributes := #[] }, { accessFlags := 25, nameIndex := 280, descriptorIndex := 25, attributes := #[] }, { accessFlags := 25, nameIndex := 282, descriptorIndex := 25, attributes := #[] }, { accessFlags := 25, nameIndex := 284, descriptorIndex := 25, attributes := #[] }, { accessFlags := 25, nameIndex := 286, descriptorIndex := 25, attributes := #[] }, { accessFlags := 25, nameIndex := 288, descriptorIndex := 25, attributes := #[] }, { accessFlags := 25, nameIndex := 290, descriptorIndex := 25, attributes := #[] }, { accessFlags := 25, nameIndex := 292, descriptorIndex := 25, attributes := #[] }, { accessFlags := 26, nameIndex := 108, descriptorIndex := 109, attributes := #[] }, { accessFlags := 25, nameIndex := 294, descriptorIndex := 25, attributes := #[] }])
  fields := #[{ name := "U", type := (.object "jdk/internal/misc/Unsafe"), accessFlags := 24, slot := 0, constantValue := 0 }, { name := "BIG_ENDIAN", type := .boolean, accessFlags := 26, slot := 1, constantValue := 0 }, { name := "LOG2_ARRAY_BOOLEAN_INDEX_SCALE", type := .int, accessFlags := 25, slot := 2, constantValue := 0 }, { name := "LOG2_ARRAY_BYTE_INDEX_SCALE", type := .int, accessFlags := 25, slot := 3, constantValue := 0 }, { name := "LOG2_ARRAY_CHAR_INDEX_SCALE", type := .int, accessFlags := 25, slot := 4, constantValue := 0 }, { name := "LOG2_ARRAY_SHORT_INDEX_SCALE", type := .int, accessFlags := 25, slot := 5, constantValue := 0 }, { name := "LOG2_ARRAY_INT_INDEX_SCALE", type := .int, accessFlags := 25, slot := 6, constantValue := 0 }, { name := "LOG2_ARRAY_LONG_INDEX_SCALE", type := .int, accessFlags := 25, slot := 7, constantValue := 0 }, { name := "LOG2_ARRAY_FLOAT_INDEX_SCALE", type := .int, accessFlags := 25, slot := 8, constantValue := 0 }, { name := "LOG2_ARRAY_DOUBLE_INDEX_SCALE", type := .int, accessFlags := 25, slot := 9, constantValue := 0 }, { name := "LOG2_BYTE_BIT_SIZE", type := .int, accessFlags := 26, slot := 10, constantValue := 0 }, { name := "T_BOOLEAN", type := .int, accessFlags := 25, slot := 11, constantValue := 0 }, { name := "T_CHAR", type := .int, accessFlags := 25, slot := 12, constantValue := 0 }, { name := "T_FLOAT", type := .int, accessFlags := 25, slot := 13, constantValue := 0 }, { name := "T_DOUBLE", type := .int, accessFlags := 25, slot := 14, constantValue := 0 }, { name := "T_BYTE", type := .int, accessFlags := 25, slot := 15, constantValue := 0 }, { name := "T_SHORT", type := .int, accessFlags := 25, slot := 16, constantValue := 0 }, { name := "T_INT", type := .int, accessFlags := 25, slot := 17, constantValue := 0 }, { name := "T_LONG", type := .int, accessFlags := 25, slot := 18, constantValue := 0 }, { name := "JLA", type := (.object "jdk/internal/access/JavaLangAccess"), accessFlags := 26, slot := 19, constantValue := 0 }, { name := "SOFT_MAX_ARRAY_LENGTH", type := .int, accessFlags := 25, slot := 20, constantValue := 0 }]
  methods := #[k26m0]
  instanceTypes := #[]
  staticTypes := #[(.object "jdk/internal/misc/Unsafe"), .boolean, .int, .int, .int, .int, .int, .int, .int, .int, .int, .int, .int, .int, .int, .int, .int, .int, .int, (.object "jdk/internal/access/JavaLangAccess"), .int]
  resolved := Array.replicate 378 none
  statics := none }

/-- the primitive byte -/
def k27 : Class := { plain "byte" none with kind := .primitive 'B', accessFlags := 0x411 }
/-- [B -/
def k28 : Class := { plain "[B" (some 0) with kind := .array 27 .byte, interfaces := #[15, 2], accessFlags := 1041 }

/-- [Ljava/lang/Object; -/
def k29 : Class := { plain "[Ljava/lang/Object;" (some 0) with kind := .array 0 (.object "java/lang/Object"), interfaces := #[15, 2], accessFlags := 1041 }

def heap : Heap := #[{ cls := 7, slots := #[.long 0, .int 1, .null, .int 0, .null, .int 0, .int 0], vm := .statics 7 },
  { cls := 16, slots := #[.long 0, .int 0, .ref 3, .ref 4], vm := .statics 16 },
  { cls := 20, slots := #[.null, .null, .null], vm := .statics 20 },
  { cls := 29, slots := #[], vm := .none },
  { cls := 29, slots := #[], vm := .none }]
def classes : Array Class := #[k0, k1, k2, k3, k4, k5, k6, k7, k8, k9, k10, k11, k12, k13, k14, k15, k16, k17, k18, k19, k20, k21, k22, k23, k24, k25, k26, k27, k28, k29]
def interned : List (Array UInt16 × Addr) := []
def slotsUsed : Nat := 14
def theMethod : MethodId := ⟨1, 3⟩
def args0 : Array Value := #[.int 5, .int 6, .int 7, .int 8, .int 9]
def aboutOver (below : List Frame) : State where
  vm := { classes := classes, interned := interned.toArray }
  heap := heap
  slotsUsed := slotsUsed
  threads := #[{ frames := .invoking theMethod args0 :: below }]
def below0 : List Frame := [.native { method := ⟨0, 0⟩, args := #[] }]
def about1 : State := aboutOver below0
def p0 : Program := .bare "" "" ""
def e0 : Env := launch0.env 0 0 0
theorem w_frames : about1.frames = Frame.invoking theMethod args0 :: below0 := rfl
set_option maxRecDepth 65536 in
theorem w_args : argsFit about1.vm theMethod args0 = true := by decide +kernel
set_option maxRecDepth 65536 in
theorem w_heap : heapFits about1 = true := by decide +kernel
set_option maxRecDepth 65536 in
theorem w_runnable : about1.curStatus? = some .runnable := by decide +kernel
set_option maxRecDepth 65536 in
theorem w_alone : about1.alone = true := by decide +kernel
set_option maxRecDepth 65536 in
theorem w_named : about1.methodNamed? x = some theMethod := by decide +kernel
set_option maxRecDepth 65536 in
theorem w_hears : about1.hears theMethod below0 = true := by decide +kernel
set_option maxRecDepth 65536 in
theorem w_ripe : about1.ripe theMethod args0 below0 = true := by decide +kernel
theorem w_running : about1.status = .running := rfl
set_option maxRecDepth 65536 in
theorem w_room : about1.hasRoom e0.platform room_1 = true :=
  launch0.hasRoom_least _ room_1 (by decide +kernel) (by decide +kernel) (by decide +kernel) (by decide +kernel) (by decide +kernel) (by decide +kernel)
theorem allAtoms_all (ts : List Jvm.Cond) (a : Array Jvm.Value) (st : Jvm.State) : (allAtoms ts).before a st = ts.all (fun c => c.before a st) := by
  induction ts with
  | nil => rfl
  | cons c t ih =>
    show (Jvm.Cond.and c (allAtoms t)).before a st = _
    rw [Jvm.Cond.before_and, ih, List.all_cons]
def words1 : List Jvm.Cond := Jvm.Cond.code x code maxLocals ret :: tables_1
/-- a 'code' word, met by the world's own term for the bytes: nothing is compared byte by byte -/
theorem code_word {y : MethodName} {bytes : ByteArray} {mx : Nat} {rt : Option FieldType} {a : Array Value} {s : State} {m : MethodId} {meth : Method} {c : Code} (h1 : s.methodNamed? y = some m) (h2 : s.vm.method? m = some meth) (h3 : meth.code = some c) (h4 : c.code = bytes)
    (h5 : (c.maxLocals == mx && c.exceptionTable.isEmpty && decide (c.maxStack ≤ mostOperands) && decide (meth.sig.returnType = rt) && !meth.locks && decide (parseMethodDescriptor y.desc = some meth.sig)) = true) : (Jvm.Cond.code y bytes mx rt).before a s = true := by
  simp only [Bool.and_eq_true, beq_iff_eq, Bool.not_eq_true', decide_eq_true_eq] at h5
  obtain ⟨⟨⟨⟨⟨g1, g2⟩, g3⟩, g4⟩, g5⟩, g6⟩ := h5
  simp [Cond.before, Cond.holds, Cond.value, h1, h2, h3, h4, g1, g2, g3, g4, g5, g6]
def isCode : Jvm.Cond → Bool
  | .code _ _ _ _ => true
  | _ => false
theorem all_split {L : List Jvm.Cond} {P : Jvm.Cond → Bool} (h1 : L.all (fun c => isCode c || P c) = true) (h2 : ∀ c ∈ L.filter isCode, P c = true) : L.all P = true := by
  refine List.all_eq_true.mpr fun c hc => ?_
  have h := List.all_eq_true.mp h1 c hc
  rcases Bool.eq_false_or_eq_true (isCode c) with hi | hi
  · exact h2 c (List.mem_filter.mpr ⟨hc, hi⟩)
  · simpa [hi] using h
set_option maxRecDepth 65536 in
theorem w_c0 : (Jvm.Cond.code x code maxLocals ret).before args0 about1 = true := code_word (m := ⟨1, 3⟩) (meth := k1m3) (c := k1c3) (by decide +kernel) rfl rfl rfl (by decide +kernel)
set_option maxRecDepth 65536 in
theorem w_c1 : (Jvm.Cond.code ({ cls := "com/example/tiphys/tiphys/KnowledgeBaseOutOfOrderPinLaw", name := "name", desc := "(I)Ljava/lang/String;" } : Jvm.MethodName) method_3_code (1 : Nat) (Option.some (Jvm.ClassFile.FieldType.object "java/lang/String"))).before args0 about1 = true := code_word (m := ⟨1, 2⟩) (meth := k1m2) (c := k1c2) (by decide +kernel) rfl rfl rfl (by decide +kernel)
set_option maxRecDepth 65536 in
theorem w_c2 : (Jvm.Cond.code ({ cls := "java/util/ArrayList", name := "<init>", desc := "()V" } : Jvm.MethodName) jdk_38_method_2_code (1 : Nat) (Option.none : Option Jvm.ClassFile.FieldType)).before args0 about1 = true := code_word (m := ⟨16, 0⟩) (meth := k16m0) (c := k16c0) (by decide +kernel) rfl rfl rfl (by decide +kernel)
set_option maxRecDepth 65536 in
theorem w_c3 : (Jvm.Cond.code ({ cls := "java/util/AbstractList", name := "<init>", desc := "()V" } : Jvm.MethodName) jdk_39_method_1_code (1 : Nat) (Option.none : Option Jvm.ClassFile.FieldType)).before args0 about1 = true := code_word (m := ⟨13, 0⟩) (meth := k13m0) (c := k13c0) (by decide +kernel) rfl rfl rfl (by decide +kernel)
set_option maxRecDepth 65536 in
theorem w_c4 : (Jvm.Cond.code ({ cls := "java/util/AbstractCollection", name := "<init>", desc := "()V" } : Jvm.MethodName) jdk_22_method_1_code (1 : Nat) (Option.none : Option Jvm.ClassFile.FieldType)).before args0 about1 = true := code_word (m := ⟨10, 0⟩) (meth := k10m0) (c := k10c0) (by decide +kernel) rfl rfl rfl (by decide +kernel)
set_option maxRecDepth 65536 in
theorem w_c5 : (Jvm.Cond.code ({ cls := "java/lang/Object", name := "<init>", desc := "()V" } : Jvm.MethodName) object_method_1_code (1 : Nat) (Option.none : Option Jvm.ClassFile.FieldType)).before args0 about1 = true := code_word (m := ⟨0, 0⟩) (meth := k0m0) (c := k0c0) (by decide +kernel) rfl rfl rfl (by decide +kernel)
set_option maxRecDepth 65536 in
theorem w_c6 : (Jvm.Cond.code ({ cls := "com/example/tiphys/tiphys/KnowledgeBaseOutOfOrderPinLaw", name := "key", desc := "(I)I" } : Jvm.MethodName) method_2_code (1 : Nat) (Option.some Jvm.ClassFile.FieldType.int)).before args0 about1 = true := code_word (m := ⟨1, 1⟩) (meth := k1m1) (c := k1c1) (by decide +kernel) rfl rfl rfl (by decide +kernel)
set_option maxRecDepth 65536 in
theorem w_c7 : (Jvm.Cond.code ({ cls := "com/example/tiphys/tiphys/KnowledgeBase", name := "outOfOrder", desc := "(Ljava/util/List;)I" } : Jvm.MethodName) prog_8_method_2_code (2 : Nat) (Option.some Jvm.ClassFile.FieldType.int)).before args0 about1 = true := code_word (m := ⟨17, 0⟩) (meth := k17m0) (c := k17c0) (by decide +kernel) rfl rfl rfl (by decide +kernel)
set_option maxRecDepth 65536 in
theorem w_c8 : (Jvm.Cond.code ({ cls := "java/util/ArrayList", name := "size", desc := "()I" } : Jvm.MethodName) jdk_38_method_8_code (1 : Nat) (Option.some Jvm.ClassFile.FieldType.int)).before args0 about1 = true := code_word (m := ⟨16, 3⟩) (meth := k16m3) (c := k16c3) (by decide +kernel) rfl rfl rfl (by decide +kernel)
set_option maxRecDepth 65536 in
theorem w_c9 : (Jvm.Cond.code ({ cls := "java/util/ArrayList", name := "add", desc := "(Ljava/lang/Object;)Z" } : Jvm.MethodName) jdk_38_method_25_code (2 : Nat) (Option.some Jvm.ClassFile.FieldType.boolean)).before args0 about1 = true := code_word (m := ⟨16, 7⟩) (meth := k16m7) (c := k16c7) (by decide +kernel) rfl rfl rfl (by decide +kernel)
set_option maxRecDepth 65536 in
theorem w_c10 : (Jvm.Cond.code ({ cls := "java/util/ArrayList", name := "add", desc := "(Ljava/lang/Object;[Ljava/lang/Object;I)V" } : Jvm.MethodName) jdk_38_method_24_code (4 : Nat) (Option.none : Option Jvm.ClassFile.FieldType)).before args0 about1 = true := code_word (m := ⟨16, 6⟩) (meth := k16m6) (c := k16c6) (by decide +kernel) rfl rfl rfl (by decide +kernel)
set_option maxRecDepth 65536 in
theorem w_c11 : (Jvm.Cond.code ({ cls := "java/util/ArrayList", name := "grow", desc := "()[Ljava/lang/Object;" } : Jvm.MethodName) jdk_38_method_7_code (1 : Nat) (Option.some (Jvm.ClassFile.FieldType.array (Jvm.ClassFile.FieldType.object "java/lang/Object")))).before args0 about1 = true := code_word (m := ⟨16, 2⟩) (meth := k16m2) (c := k16c2) (by decide +kernel) rfl rfl rfl (by decide +kernel)
set_option maxRecDepth 65536 in
theorem w_c12 : (Jvm.Cond.code ({ cls := "java/util/ArrayList", name := "grow", desc := "(I)[Ljava/lang/Object;" } : Jvm.MethodName) jdk_38_method_6_code (4 : Nat) (Option.some (Jvm.ClassFile.FieldType.array (Jvm.ClassFile.FieldType.object "java/lang/Object")))).before args0 about1 = true := code_word (m := ⟨16, 1⟩) (meth := k16m1) (c := k16c1) (by decide +kernel) rfl rfl rfl (by decide +kernel)
set_option maxRecDepth 65536 in
theorem w_c13 : (Jvm.Cond.code ({ cls := "java/lang/Math", name := "max", desc := "(II)I" } : Jvm.MethodName) jdk_29_method_65_code (2 : Nat) (Option.some Jvm.ClassFile.FieldType.int)).before args0 about1 = true := code_word (m := ⟨18, 1⟩) (meth := k18m1) (c := k18c1) (by decide +kernel) rfl rfl rfl (by decide +kernel)
set_option maxRecDepth 65536 in
theorem w_c14 : (Jvm.Cond.code ({ cls := "java/util/ArrayList", name := "get", desc := "(I)Ljava/lang/Object;" } : Jvm.MethodName) jdk_38_method_20_code (2 : Nat) (Option.some (Jvm.ClassFile.FieldType.object "java/lang/Object"))).before args0 about1 = true := code_word (m := ⟨16, 5⟩) (meth := k16m5) (c := k16c5) (by decide +kernel) rfl rfl rfl (by decide +kernel)
set_option maxRecDepth 65536 in
theorem w_c15 : (Jvm.Cond.code ({ cls := "java/util/Objects", name := "checkIndex", desc := "(II)I" } : Jvm.MethodName) jdk_31_method_17_code (2 : Nat) (Option.some Jvm.ClassFile.FieldType.int)).before args0 about1 = true := code_word (m := ⟨19, 1⟩) (meth := k19m1) (c := k19c1) (by decide +kernel) rfl rfl rfl (by decide +kernel)
set_option maxRecDepth 65536 in
theorem w_c16 : (Jvm.Cond.code ({ cls := "jdk/internal/util/Preconditions", name := "checkIndex", desc := "(IILjava/util/function/BiFunction;)I" } : Jvm.MethodName) jdk_41_method_11_code (3 : Nat) (Option.some Jvm.ClassFile.FieldType.int)).before args0 about1 = true := code_word (m := ⟨20, 1⟩) (meth := k20m1) (c := k20c1) (by decide +kernel) rfl rfl rfl (by decide +kernel)
set_option maxRecDepth 65536 in
theorem w_c17 : (Jvm.Cond.code ({ cls := "java/util/ArrayList", name := "elementData", desc := "(I)Ljava/lang/Object;" } : Jvm.MethodName) jdk_38_method_18_code (2 : Nat) (Option.some (Jvm.ClassFile.FieldType.object "java/lang/Object"))).before args0 about1 = true := code_word (m := ⟨16, 4⟩) (meth := k16m4) (c := k16c4) (by decide +kernel) rfl rfl rfl (by decide +kernel)
set_option maxRecDepth 65536 in
theorem w_c18 : (Jvm.Cond.code ({ cls := "com/example/tiphys/tiphys/CodePointOrder", name := "compare", desc := "(Ljava/lang/String;Ljava/lang/String;)I" } : Jvm.MethodName) prog_2_method_2_code (5 : Nat) (Option.some Jvm.ClassFile.FieldType.int)).before args0 about1 = true := code_word (m := ⟨21, 1⟩) (meth := k21m1) (c := k21c1) (by decide +kernel) rfl rfl rfl (by decide +kernel)
set_option maxRecDepth 65536 in
theorem w_c19 : (Jvm.Cond.code ({ cls := "java/lang/String", name := "length", desc := "()I" } : Jvm.MethodName) jdk_42_method_54_code (1 : Nat) (Option.some Jvm.ClassFile.FieldType.int)).before args0 about1 = true := code_word (m := ⟨7, 1⟩) (meth := k7m1) (c := k7c1) (by decide +kernel) rfl rfl rfl (by decide +kernel)
set_option maxRecDepth 65536 in
theorem w_c20 : (Jvm.Cond.code ({ cls := "java/lang/String", name := "coder", desc := "()B" } : Jvm.MethodName) jdk_42_method_152_code (1 : Nat) (Option.some Jvm.ClassFile.FieldType.byte)).before args0 about1 = true := code_word (m := ⟨7, 5⟩) (meth := k7m5) (c := k7c5) (by decide +kernel) rfl rfl rfl (by decide +kernel)
set_option maxRecDepth 65536 in
theorem w_c21 : (Jvm.Cond.code ({ cls := "java/lang/Integer", name := "compare", desc := "(II)I" } : Jvm.MethodName) jdk_33_method_40_code (2 : Nat) (Option.some Jvm.ClassFile.FieldType.int)).before args0 about1 = true := code_word (m := ⟨23, 0⟩) (meth := k23m0) (c := k23c0) (by decide +kernel) rfl rfl rfl (by decide +kernel)
set_option maxRecDepth 65536 in
theorem w_c22 : (Jvm.Cond.code ({ cls := "java/lang/String", name := "valueOf", desc := "(C)Ljava/lang/String;" } : Jvm.MethodName) jdk_42_method_139_code (1 : Nat) (Option.some (Jvm.ClassFile.FieldType.object "java/lang/String"))).before args0 about1 = true := code_word (m := ⟨7, 3⟩) (meth := k7m3) (c := k7c3) (by decide +kernel) rfl rfl rfl (by decide +kernel)
set_option maxRecDepth 65536 in
theorem w_c23 : (Jvm.Cond.code ({ cls := "java/lang/StringLatin1", name := "canEncode", desc := "(C)Z" } : Jvm.MethodName) jdk_43_method_3_code (1 : Nat) (Option.some Jvm.ClassFile.FieldType.boolean)).before args0 about1 = true := code_word (m := ⟨24, 1⟩) (meth := k24m1) (c := k24c1) (by decide +kernel) rfl rfl rfl (by decide +kernel)
set_option maxRecDepth 65536 in
theorem w_c24 : (Jvm.Cond.code ({ cls := "java/lang/StringLatin1", name := "toBytes", desc := "(C)[B" } : Jvm.MethodName) jdk_43_method_46_code (1 : Nat) (Option.some (Jvm.ClassFile.FieldType.array Jvm.ClassFile.FieldType.byte))).before args0 about1 = true := code_word (m := ⟨24, 2⟩) (meth := k24m2) (c := k24c2) (by decide +kernel) rfl rfl rfl (by decide +kernel)
set_option maxRecDepth 65536 in
theorem w_c25 : (Jvm.Cond.code ({ cls := "java/lang/String", name := "<init>", desc := "([BB)V" } : Jvm.MethodName) jdk_42_method_151_code (3 : Nat) (Option.none : Option Jvm.ClassFile.FieldType)).before args0 about1 = true := code_word (m := ⟨7, 4⟩) (meth := k7m4) (c := k7c4) (by decide +kernel) rfl rfl rfl (by decide +kernel)
set_option maxRecDepth 65536 in
theorem w_c26 : (Jvm.Cond.code ({ cls := "java/lang/String", name := "codePointAt", desc := "(I)I" } : Jvm.MethodName) jdk_42_method_57_code (3 : Nat) (Option.some Jvm.ClassFile.FieldType.int)).before args0 about1 = true := code_word (m := ⟨7, 2⟩) (meth := k7m2) (c := k7c2) (by decide +kernel) rfl rfl rfl (by decide +kernel)
set_option maxRecDepth 65536 in
theorem w_c27 : (Jvm.Cond.code ({ cls := "java/lang/String", name := "isLatin1", desc := "()Z" } : Jvm.MethodName) jdk_42_method_154_code (1 : Nat) (Option.some Jvm.ClassFile.FieldType.boolean)).before args0 about1 = true := code_word (m := ⟨7, 6⟩) (meth := k7m6) (c := k7c6) (by decide +kernel) rfl rfl rfl (by decide +kernel)
set_option maxRecDepth 65536 in
theorem w_c28 : (Jvm.Cond.code ({ cls := "java/lang/String", name := "checkIndex", desc := "(II)V" } : Jvm.MethodName) jdk_42_method_155_code (2 : Nat) (Option.none : Option Jvm.ClassFile.FieldType)).before args0 about1 = true := code_word (m := ⟨7, 7⟩) (meth := k7m7) (c := k7c7) (by decide +kernel) rfl rfl rfl (by decide +kernel)
set_option maxRecDepth 65536 in
theorem w_c29 : (Jvm.Cond.code ({ cls := "java/lang/Character", name := "charCount", desc := "(I)I" } : Jvm.MethodName) jdk_89_method_18_code (1 : Nat) (Option.some Jvm.ClassFile.FieldType.int)).before args0 about1 = true := code_word (m := ⟨25, 0⟩) (meth := k25m0) (c := k25c0) (by decide +kernel) rfl rfl rfl (by decide +kernel)
def codes1 : List Jvm.Cond := [Jvm.Cond.code x code maxLocals ret, Jvm.Cond.code ({ cls := "com/example/tiphys/tiphys/KnowledgeBaseOutOfOrderPinLaw", name := "name", desc := "(I)Ljava/lang/String;" } : Jvm.MethodName) method_3_code (1 : Nat) (Option.some (Jvm.ClassFile.FieldType.object "java/lang/String")), Jvm.Cond.code ({ cls := "java/util/ArrayList", name := "<init>", desc := "()V" } : Jvm.MethodName) jdk_38_method_2_code (1 : Nat) (Option.none : Option Jvm.ClassFile.FieldType), Jvm.Cond.code ({ cls := "java/util/AbstractList", name := "<init>", desc := "()V" } : Jvm.MethodName) jdk_39_method_1_code (1 : Nat) (Option.none : Option Jvm.ClassFile.FieldType), Jvm.Cond.code ({ cls := "java/util/AbstractCollection", name := "<init>", desc := "()V" } : Jvm.MethodName) jdk_22_method_1_code (1 : Nat) (Option.none : Option Jvm.ClassFile.FieldType), Jvm.Cond.code ({ cls := "java/lang/Object", name := "<init>", desc := "()V" } : Jvm.MethodName) object_method_1_code (1 : Nat) (Option.none : Option Jvm.ClassFile.FieldType), Jvm.Cond.code ({ cls := "com/example/tiphys/tiphys/KnowledgeBaseOutOfOrderPinLaw", name := "key", desc := "(I)I" } : Jvm.MethodName) method_2_code (1 : Nat) (Option.some Jvm.ClassFile.FieldType.int), Jvm.Cond.code ({ cls := "com/example/tiphys/tiphys/KnowledgeBase", name := "outOfOrder", desc := "(Ljava/util/List;)I" } : Jvm.MethodName) prog_8_method_2_code (2 : Nat) (Option.some Jvm.ClassFile.FieldType.int), Jvm.Cond.code ({ cls := "java/util/ArrayList", name := "size", desc := "()I" } : Jvm.MethodName) jdk_38_method_8_code (1 : Nat) (Option.some Jvm.ClassFile.FieldType.int), Jvm.Cond.code ({ cls := "java/util/ArrayList", name := "add", desc := "(Ljava/lang/Object;)Z" } : Jvm.MethodName) jdk_38_method_25_code (2 : Nat) (Option.some Jvm.ClassFile.FieldType.boolean), Jvm.Cond.code ({ cls := "java/util/ArrayList", name := "add", desc := "(Ljava/lang/Object;[Ljava/lang/Object;I)V" } : Jvm.MethodName) jdk_38_method_24_code (4 : Nat) (Option.none : Option Jvm.ClassFile.FieldType), Jvm.Cond.code ({ cls := "java/util/ArrayList", name := "grow", desc := "()[Ljava/lang/Object;" } : Jvm.MethodName) jdk_38_method_7_code (1 : Nat) (Option.some (Jvm.ClassFile.FieldType.array (Jvm.ClassFile.FieldType.object "java/lang/Object"))), Jvm.Cond.code ({ cls := "java/util/ArrayList", name := "grow", desc := "(I)[Ljava/lang/Object;" } : Jvm.MethodName) jdk_38_method_6_code (4 : Nat) (Option.some (Jvm.ClassFile.FieldType.array (Jvm.ClassFile.FieldType.object "java/lang/Object"))), Jvm.Cond.code ({ cls := "java/lang/Math", name := "max", desc := "(II)I" } : Jvm.MethodName) jdk_29_method_65_code (2 : Nat) (Option.some Jvm.ClassFile.FieldType.int), Jvm.Cond.code ({ cls := "java/util/ArrayList", name := "get", desc := "(I)Ljava/lang/Object;" } : Jvm.MethodName) jdk_38_method_20_code (2 : Nat) (Option.some (Jvm.ClassFile.FieldType.object "java/lang/Object")), Jvm.Cond.code ({ cls := "java/util/Objects", name := "checkIndex", desc := "(II)I" } : Jvm.MethodName) jdk_31_method_17_code (2 : Nat) (Option.some Jvm.ClassFile.FieldType.int), Jvm.Cond.code ({ cls := "jdk/internal/util/Preconditions", name := "checkIndex", desc := "(IILjava/util/function/BiFunction;)I" } : Jvm.MethodName) jdk_41_method_11_code (3 : Nat) (Option.some Jvm.ClassFile.FieldType.int), Jvm.Cond.code ({ cls := "java/util/ArrayList", name := "elementData", desc := "(I)Ljava/lang/Object;" } : Jvm.MethodName) jdk_38_method_18_code (2 : Nat) (Option.some (Jvm.ClassFile.FieldType.object "java/lang/Object")), Jvm.Cond.code ({ cls := "com/example/tiphys/tiphys/CodePointOrder", name := "compare", desc := "(Ljava/lang/String;Ljava/lang/String;)I" } : Jvm.MethodName) prog_2_method_2_code (5 : Nat) (Option.some Jvm.ClassFile.FieldType.int), Jvm.Cond.code ({ cls := "java/lang/String", name := "length", desc := "()I" } : Jvm.MethodName) jdk_42_method_54_code (1 : Nat) (Option.some Jvm.ClassFile.FieldType.int), Jvm.Cond.code ({ cls := "java/lang/String", name := "coder", desc := "()B" } : Jvm.MethodName) jdk_42_method_152_code (1 : Nat) (Option.some Jvm.ClassFile.FieldType.byte), Jvm.Cond.code ({ cls := "java/lang/Integer", name := "compare", desc := "(II)I" } : Jvm.MethodName) jdk_33_method_40_code (2 : Nat) (Option.some Jvm.ClassFile.FieldType.int), Jvm.Cond.code ({ cls := "java/lang/String", name := "valueOf", desc := "(C)Ljava/lang/String;" } : Jvm.MethodName) jdk_42_method_139_code (1 : Nat) (Option.some (Jvm.ClassFile.FieldType.object "java/lang/String")), Jvm.Cond.code ({ cls := "java/lang/StringLatin1", name := "canEncode", desc := "(C)Z" } : Jvm.MethodName) jdk_43_method_3_code (1 : Nat) (Option.some Jvm.ClassFile.FieldType.boolean), Jvm.Cond.code ({ cls := "java/lang/StringLatin1", name := "toBytes", desc := "(C)[B" } : Jvm.MethodName) jdk_43_method_46_code (1 : Nat) (Option.some (Jvm.ClassFile.FieldType.array Jvm.ClassFile.FieldType.byte)), Jvm.Cond.code ({ cls := "java/lang/String", name := "<init>", desc := "([BB)V" } : Jvm.MethodName) jdk_42_method_151_code (3 : Nat) (Option.none : Option Jvm.ClassFile.FieldType), Jvm.Cond.code ({ cls := "java/lang/String", name := "codePointAt", desc := "(I)I" } : Jvm.MethodName) jdk_42_method_57_code (3 : Nat) (Option.some Jvm.ClassFile.FieldType.int), Jvm.Cond.code ({ cls := "java/lang/String", name := "isLatin1", desc := "()Z" } : Jvm.MethodName) jdk_42_method_154_code (1 : Nat) (Option.some Jvm.ClassFile.FieldType.boolean), Jvm.Cond.code ({ cls := "java/lang/String", name := "checkIndex", desc := "(II)V" } : Jvm.MethodName) jdk_42_method_155_code (2 : Nat) (Option.none : Option Jvm.ClassFile.FieldType), Jvm.Cond.code ({ cls := "java/lang/Character", name := "charCount", desc := "(I)I" } : Jvm.MethodName) jdk_89_method_18_code (1 : Nat) (Option.some Jvm.ClassFile.FieldType.int)]
set_option maxRecDepth 65536 in
theorem codes_eq : words1.filter isCode = codes1 := rfl
theorem w_codes : ∀ c ∈ words1.filter isCode, c.before args0 about1 = true := by
  rw [codes_eq]
  intro c hc
  simp only [codes1, List.mem_cons, List.not_mem_nil, or_false] at hc
  rcases hc with rfl | rfl | rfl | rfl | rfl | rfl | rfl | rfl | rfl | rfl | rfl | rfl | rfl | rfl | rfl | rfl | rfl | rfl | rfl | rfl | rfl | rfl | rfl | rfl | rfl | rfl | rfl | rfl | rfl | rfl
  · exact w_c0
  · exact w_c1
  · exact w_c2
  · exact w_c3
  · exact w_c4
  · exact w_c5
  · exact w_c6
  · exact w_c7
  · exact w_c8
  · exact w_c9
  · exact w_c10
  · exact w_c11
  · exact w_c12
  · exact w_c13
  · exact w_c14
  · exact w_c15
  · exact w_c16
  · exact w_c17
  · exact w_c18
  · exact w_c19
  · exact w_c20
  · exact w_c21
  · exact w_c22
  · exact w_c23
  · exact w_c24
  · exact w_c25
  · exact w_c26
  · exact w_c27
  · exact w_c28
  · exact w_c29
set_option maxRecDepth 65536 in
theorem w_t1 : (words1.take 24).all (fun c => isCode c || c.before args0 about1) = true := by decide +kernel
set_option maxRecDepth 65536 in
theorem w_t2 : ((words1.drop 24).take 24).all (fun c => isCode c || c.before args0 about1) = true := by decide +kernel
set_option maxRecDepth 65536 in
theorem w_t3 : (((words1.drop 24).drop 24).take 24).all (fun c => isCode c || c.before args0 about1) = true := by decide +kernel
set_option maxRecDepth 65536 in
theorem w_t4 : ((((words1.drop 24).drop 24).drop 24).take 24).all (fun c => isCode c || c.before args0 about1) = true := by decide +kernel
set_option maxRecDepth 65536 in
theorem w_t5 : (((((words1.drop 24).drop 24).drop 24).drop 24).take 24).all (fun c => isCode c || c.before args0 about1) = true := by decide +kernel
set_option maxRecDepth 65536 in
theorem w_t6 : ((((((words1.drop 24).drop 24).drop 24).drop 24).drop 24).take 24).all (fun c => isCode c || c.before args0 about1) = true := by decide +kernel
set_option maxRecDepth 65536 in
theorem w_t7 : ((((((words1.drop 24).drop 24).drop 24).drop 24).drop 24).drop 24).all (fun c => isCode c || c.before args0 about1) = true := by decide +kernel
theorem w_tables : (allAtoms (Jvm.Cond.code x code maxLocals ret :: tables_1)).before args0 about1 = true := by
  rw [allAtoms_all]
  show words1.all (fun c => c.before args0 about1) = true
  refine all_split ?_ w_codes
  rw [← List.take_append_drop 24 words1, List.all_append, w_t1, ← List.take_append_drop 24 (words1.drop 24), List.all_append, w_t2, ← List.take_append_drop 24 ((words1.drop 24).drop 24), List.all_append, w_t3, ← List.take_append_drop 24 (((words1.drop 24).drop 24).drop 24), List.all_append, w_t4, ← List.take_append_drop 24 ((((words1.drop 24).drop 24).drop 24).drop 24), List.all_append, w_t5, ← List.take_append_drop 24 (((((words1.drop 24).drop 24).drop 24).drop 24).drop 24), List.all_append, w_t6, w_t7]
  rfl
set_option maxRecDepth 65536 in
theorem w_rest : rest_1_c.before args0 about1 = true := by decide +kernel
set_option maxRecDepth 65536 in
theorem w_case : (Jvm.Cond.and given_1 narrow_1).before args0 about1 = true := by decide +kernel
set_option maxRecDepth 65536 in
theorem w_consts : constsHeld consts_1 about1 := Jvm.Lit.constsHeldB_iff.mp (by decide +kernel)
theorem w_applies : (headSpec (Jvm.Cond.code x code maxLocals ret :: tables_1) room_1).applies x e0.platform about1 = true :=
  (Spec.applies_iff w_frames).mpr ⟨w_running, w_runnable, w_alone, w_named, w_hears, w_ripe, w_room, w_tables⟩
theorem atStart : AtStart classFile x code maxLocals ret World_1 tables_1 room_1 Calls_1 rest_1 Pre_1 launch0 p0 e0 about1 theMethod args0 below0 :=
  ⟨lists_1, trivial, launch0.admits_env _ _ _, launch0.least_env, fairChoices_fair.cas, fairChoices_fair.clock, w_frames, w_args, w_heap, w_applies, ⟨w_consts, trivial⟩, w_rest, w_case⟩
end start1
theorem witness_1 : WitnessClaimed_1 := ⟨start1.p0, start1.e0, start1.about1, start1.theMethod, start1.args0, start1.below0, start1.atStart⟩
end Jvm.Pilot.@@N@@
