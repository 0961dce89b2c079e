import JvmDerived
import JvmDerived.Pilot.@@N@@Statement
import JvmDerived.Pilot.@@N@@Code
set_option linter.unusedVariables false
set_option linter.unusedSimpArgs false
namespace Jvm.RoadKit
open Sem ClassFile Op Lib Jvm.Stand Jvm.Free Jvm.LawKit
section New
variable {p : Program} {l : Launch} {e : Env} {R : Room} {s : State} {m : MethodId} {args : Array Value} {below : List Frame} {meth : Method} {c : Code} {T : State} {locs : List Loc} {cells slots : Nat}
theorem retI (X : Stand p l e R s m args below meth c T locs cells slots) (hx : p.tables.exec = Jvm.exec) {pc : Nat} {Ls : Array Slot} {z : Int32} {rest : List Value} (hret : meth.sig.returnType = some .int) (hd : decode c.code pc = .ok (.ireturn, 1)) {fs : List Frame}
    (hl : ∀ (f : JFrame) (acts : List Action), f.method = m → f.locked = none → f.entered = [] → (doReturn e (T.setTop f) acts (some (.int z))).1 = T.setFrames fs) : Steps p.tables e below (T.setTop (mkF m pc Ls (.int z :: rest))) (T.setFrames fs) :=
  retOut X hx hret rfl (Or.inl ⟨rfl, Or.inl rfl, z, rfl⟩) hd hl
theorem retJ (X : Stand p l e R s m args below meth c T locs cells slots) (hx : p.tables.exec = Jvm.exec) {pc : Nat} {Ls : Array Slot} {z : Int64} {rest : List Value} (hret : meth.sig.returnType = some .long) (hd : decode c.code pc = .ok (.lreturn, 1)) {fs : List Frame}
    (hl : ∀ (f : JFrame) (acts : List Action), f.method = m → f.locked = none → f.entered = [] → (doReturn e (T.setTop f) acts (some (.long z))).1 = T.setFrames fs) : Steps p.tables e below (T.setTop (mkF m pc Ls (.long z :: rest))) (T.setFrames fs) :=
  retOut X hx hret rfl (Or.inr (Or.inl ⟨rfl, rfl, z, rfl⟩)) hd hl
theorem narA {t : FieldType} {w : Value} (ht : t.isReference = true) (hw : w.isRef = true) : narrow t w = w := by
  rcases ref_cases hw with rfl | ⟨z, rfl⟩ <;> cases t <;> first | rfl | (simp [FieldType.isReference] at ht)
theorem retA (X : Stand p l e R s m args below meth c T locs cells slots) (hx : p.tables.exec = Jvm.exec) {pc : Nat} {Ls : Array Slot} {t : FieldType} {w : Value} {rest : List Value} (hret : meth.sig.returnType = some t) (ht : t.isReference = true) (hw : w.isRef = true) (hd : decode c.code pc = .ok (.areturn, 1)) {fs : List Frame}
    (hl : ∀ (f : JFrame) (acts : List Action), f.method = m → f.locked = none → f.entered = [] → (doReturn e (T.setTop f) acts (some w)).1 = T.setFrames fs) : Steps p.tables e below (T.setTop (mkF m pc Ls (w :: rest))) (T.setFrames fs) :=
  retOut X hx hret (narA ht hw) (Or.inr (Or.inr (Or.inr (Or.inr ⟨rfl, ht, hw⟩)))) hd hl
theorem own_pack {n0 : Nat} {L Lc : List Loc} {k n rc rs C S' : Nat} (X : Stand p l e R s m args below meth c T L k n) (hl : L = locs ++ Lc) (hk : k = cells + rc) (hn : n = slots + rs) (N : Fr n0 locs) (Nq : Fr n0 Lc) (hC : cells + rc = C) (hS : slots + rs = S') : ∃ lc, Stand p l e R s m args below meth c T lc C S' ∧ Fr n0 lc := by
  subst hl hk hn hC hS; exact ⟨_, X, N.app Nq⟩
theorem own_pack1 {n0 : Nat} {a : Addr} {sl : Nat} (X : Stand p l e R s m args below meth c T (locs ++ [⟨a, sl⟩]) cells slots) (N : Fr n0 locs) (q : n0 ≤ a) : ∃ lc, Stand p l e R s m args below meth c T lc cells slots ∧ Fr n0 lc := ⟨_, X, Fr.snoc X N q⟩
/-- the run from a comes to an end that Q allows -/
def own_G (tb : Tables) (e : Env) (below : List Frame) (s : State) (Q : Option Value → Heap → List Loc → Prop) (C S : Nat) (a : State) : Prop :=
  ∃ (t : State) (o : Outcome), Steps tb e below a t ∧ t.status = .running ∧ Ended t below o ∧ ∃ v L, o = .returned v ∧ Q v t.heap L ∧ FrameEnd s o t L C S
theorem own_thr {tb : Tables} {Q : Option Value → Heap → List Loc → Prop} {C S : Nat} {a b : State} (h : ∀ t, Steps tb e below a t → Steps tb e below b t) (g : own_G tb e below s Q C S a) : own_G tb e below s Q C S b := by
  obtain ⟨t, o, h1, h2⟩ := g; exact ⟨t, o, h t h1, h2⟩
theorem own_end (X : Stand p l e R s m args below meth c T locs cells slots) (hlk : meth.locks = false) {v : Option Value} (hv : meth.sig.returnType = none → v = none) {g : JFrame} {Q : Option Value → Heap → List Loc → Prop} {C S : Nat}
    (hr : ∀ fs, (∀ (f : JFrame) (acts : List Action), f.method = m → f.locked = none → f.entered = [] → (doReturn e (T.setTop f) acts v).1 = T.setFrames fs) → Steps p.tables e below (T.setTop g) (T.setFrames fs))
    (hQ : Q v T.heap locs) (hC : cells ≤ C) (hS : slots ≤ S) : own_G p.tables e below s Q C S (T.setTop g) := by
  obtain ⟨fs, hr', hrun, hended, hW, hsame⟩ := X.leave (v := v) hv hlk
  exact ⟨_, _, hr fs hr', hrun, hended, _, _, rfl, hQ, ⟨_, rfl⟩, hW, hsame.mono hC hS⟩
def own_GW (tb : Tables) (e : Env) (below : List Frame) (s : State) (Q : Option Value → Heap → List Loc → Prop) (C S : Nat) (a : State) : Prop :=
  ∃ (t : State) (o : Outcome), Steps tb e below a t ∧ t.status = .running ∧ Ended t below o ∧ ∃ v L, o = .returned v ∧ Q v t.heap L ∧ ReturnedEndW s o t L C S
theorem own_thrW {tb : Tables} {Q : Option Value → Heap → List Loc → Prop} {C S : Nat} {a b : State} (h : ∀ t, Steps tb e below a t → Steps tb e below b t) (g : own_GW tb e below s Q C S a) : own_GW tb e below s Q C S b := by
  obtain ⟨t, o, h1, h2⟩ := g; exact ⟨t, o, h t h1, h2⟩
theorem own_endW {vm₁ : Vm} {k : Nat} (X : Stand p l e R (s.setVm vm₁) m args below meth c T locs cells slots) (hS : s.Since vm₁ k) (hk : k ≤ T.heap.size) (hlk : meth.locks = false) {v : Option Value} (hv : meth.sig.returnType = none → v = none) {g : JFrame} {Q : Option Value → Heap → List Loc → Prop} {C S : Nat}
    (hr : ∀ fs, (∀ (f : JFrame) (acts : List Action), f.method = m → f.locked = none → f.entered = [] → (doReturn e (T.setTop f) acts v).1 = T.setFrames fs) → Steps p.tables e below (T.setTop g) (T.setFrames fs))
    (hQ : Q v T.heap locs) (hC : cells ≤ C) (hSl : slots ≤ S) : own_GW p.tables e below s Q C S (T.setTop g) := by
  obtain ⟨fs, hr', hrun, hended, hret, hW, hint, hsame⟩ := X.leaveW hS hk (v := v) hv hlk
  exact ⟨_, _, hr fs hr', hrun, hended, _, _, rfl, hQ, ⟨_, rfl⟩, hW, hint, hsame.mono hC hSl⟩
end New
end Jvm.RoadKit
namespace Jvm.Pilot.@@N@@
open Jvm Jvm.ClassFile Sem Op Lib Jvm.Free Jvm.Stand Jvm.LawKit Jvm.RoadKit Bundle Jvm.Pilot.@@N@@.Jvm.D
def own_up (x : Int32 → Int32) (i v : Int32) : Int32 → Int32 := fun j => if j = i then v else x j
def own_AF (Z : State) (h : Heap) (a : Addr) (n : Int32) (x : Int32 → Int32) : Prop := ∃ c : Cell, Arr Z h a c .int ∧ c.slots.size = n.toNatClampNeg ∧ ¬ n < 0 ∧ ∀ j : Int32, ¬ j < 0 → j < n → c.slots[j.toNatClampNeg]? = some (.int (x j))
section AF
variable {Z : State} {h h' : Heap} {a b : Addr} {n : Int32} {x : Int32 → Int32}
theorem own_AF.lt (F : own_AF Z h a n x) : a < h.size := by obtain ⟨c, A, -⟩ := F; exact A.lt
theorem own_AF.ext (F : own_AF Z h a n x) (E : Ext h h') : own_AF Z h' a n x := by obtain ⟨c, A, r⟩ := F; exact ⟨c, A.ext E, r⟩
theorem own_AF.other {sl : Nat} {v : Value} (F : own_AF Z h a n x) (W : Wr h h' b sl v) (q : a ≠ b) : own_AF Z h' a n x := by obtain ⟨c, A, r⟩ := F; exact ⟨c, A.other W q, r⟩
theorem own_AF.keep {ws : List Addr} (F : own_AF Z h a n x) (K : Keep h h' ws) (q : a ∉ ws) : own_AF Z h' a n x := by obtain ⟨c, A, r⟩ := F; exact ⟨c, ⟨K.2.1 a c A.1 q, A.2⟩, r⟩
theorem own_AF.set {c : Cell} {i v : Int32} (A : Arr Z h a c .int) (S : c.slots.size = n.toNatClampNeg) (M : ¬ n < 0) (H : ∀ j : Int32, ¬ j < 0 → j < n → c.slots[j.toNatClampNeg]? = some (.int (x j))) (hin : ¬ (i < 0 ∨ c.slots.size ≤ i.toNatClampNeg)) (W : Wr h h' a i.toNatClampNeg (.int v)) : own_AF Z h' a n (own_up x i v) := by
  refine ⟨_, A.same W, by rw [sz_set]; exact S, M, fun j h1 h2 => ?_⟩
  unfold own_up
  by_cases e : j = i
  · rw [if_pos e]; exact get_hit hin e
  · rw [if_neg e, get_miss (fun q => hin (Or.inl q)) h1 e]; exact H j h1 h2
theorem own_AF.new {k : ClassId} (A : Arr Z h a (newA k .int n) .int) (M : ¬ n < 0) : own_AF Z h a n (fun _ => 0) :=
  ⟨_, A, sz_new _ _ _, M, fun j h1 h2 => get_new (cA := k) (ty := .int) (n := n) (k := j) (by
    have q := inb_of (c := newA k .int n) (sz_new _ _ _) ⟨h1, h2⟩
    rwa [sz_new] at q)⟩
end AF
theorem own_hit (x : Int32 → Int32) (i v : Int32) : own_up x i v i = v := by unfold own_up; rw [if_pos rfl]
theorem own_miss {x : Int32 → Int32} {i v j : Int32} (h : ¬ j = i) : own_up x i v j = x j := by unfold own_up; rw [if_neg h]
theorem own_as (x : Int32) : x + (1 : Int32) - (1 : Int32) = x := Int32.add_sub_cancel x 1
theorem own_ge0 {s : Int32} (h : ¬ s < (0 : Int32)) : ¬ s = (-1 : Int32) := fun e => by subst e; exact h (by decide)
theorem d1_0 : decode prog_10_method_1_code 0 = .ok (.aload_n 0, 1) := by decide +kernel
theorem d1_1 : decode prog_10_method_1_code 1 = .ok (.invokespecial 1, 3) := by decide +kernel
theorem d1_4 : decode prog_10_method_1_code 4 = .ok (.aload_n 0, 1) := by decide +kernel
theorem d1_5 : decode prog_10_method_1_code 5 = .ok (.iconst (-1), 1) := by decide +kernel
theorem d1_6 : decode prog_10_method_1_code 6 = .ok (.putfield 9, 3) := by decide +kernel
theorem d1_9 : decode prog_10_method_1_code 9 = .ok (.aload_n 0, 1) := by decide +kernel
theorem d1_10 : decode prog_10_method_1_code 10 = .ok (.iconst (-1), 1) := by decide +kernel
theorem d1_11 : decode prog_10_method_1_code 11 = .ok (.putfield 15, 3) := by decide +kernel
theorem d1_14 : decode prog_10_method_1_code 14 = .ok (.aload_n 0, 1) := by decide +kernel
theorem d1_15 : decode prog_10_method_1_code 15 = .ok (.iload_n 1, 1) := by decide +kernel
theorem d1_16 : decode prog_10_method_1_code 16 = .ok (.newarray .int, 2) := by decide +kernel
theorem d1_18 : decode prog_10_method_1_code 18 = .ok (.putfield 18, 3) := by decide +kernel
theorem d1_21 : decode prog_10_method_1_code 21 = .ok (.aload_n 0, 1) := by decide +kernel
theorem d1_22 : decode prog_10_method_1_code 22 = .ok (.iload_n 1, 1) := by decide +kernel
theorem d1_23 : decode prog_10_method_1_code 23 = .ok (.newarray .int, 2) := by decide +kernel
theorem d1_25 : decode prog_10_method_1_code 25 = .ok (.putfield 22, 3) := by decide +kernel
theorem d1_28 : decode prog_10_method_1_code 28 = .ok (.return_, 1) := by decide +kernel
theorem pn_dev_chainlatch_bucket_Order : plainName "dev/chainlatch/bucket/Order" = true := by first | (simp [plainName, overriddenIn]; done) | decide +kernel
theorem ef_rmI (m : MethodId) (o0 : Addr) (p1 : Int32)  : entryFrame m #[(.ref o0), (.int p1)] 2 = mkF m 0 #[.val (.ref o0), .val (.int p1)] [] := by first |  (simp [entryFrame, mkF, argsToLocals, Value.category]; done) | rfl
def Q_rmI (Z : State) (o0 : Addr) (p1 : Int32) (h0 : Heap) (n0 : Nat) (v : Option Value) (h : Heap) (L : List Loc) : Prop := ∃ B A : Addr, v = none ∧ Fr n0 L ∧ Keep h0 h [o0] ∧ Exa Z h o0 "dev/chainlatch/bucket/Order" ∧ Fld Z h o0 "dev/chainlatch/bucket/Order" "first" "I" (.int (-1 : Int32)) ∧ Fld Z h o0 "dev/chainlatch/bucket/Order" "last" "I" (.int (-1 : Int32)) ∧ Fld Z h o0 "dev/chainlatch/bucket/Order" "before" "[I" (.ref B) ∧ Fld Z h o0 "dev/chainlatch/bucket/Order" "after" "[I" (.ref A) ∧ own_AF Z h B p1 (fun _ => 0) ∧ own_AF Z h A p1 (fun _ => 0) ∧ h0.size ≤ B ∧ B < A
set_option maxRecDepth 65536 in
set_option maxHeartbeats 40000000 in
theorem rmI (l : Launch) (Z : State) (a0 : Array Value) (hw : ∀ d ∈ tables_1, d.before a0 Z = true) (ws : List Jvm.Cond) (o0 : Addr) (p1 : Int32) (h0 : Heap) (n0 : Nat) (Z0 : n0 ≤ h0.size) (E_o0 : Exa Z h0 o0 "dev/chainlatch/bucket/Order") (F_first : Fld Z h0 o0 "dev/chainlatch/bucket/Order" "first" "I" (.int (0 : Int32))) (F_last : Fld Z h0 o0 "dev/chainlatch/bucket/Order" "last" "I" (.int (0 : Int32))) (F_before : Fld Z h0 o0 "dev/chainlatch/bucket/Order" "before" "[I" .null) (F_after : Fld Z h0 o0 "dev/chainlatch/bucket/Order" "after" "[I" .null) (g_o0 : n0 ≤ o0) (hn0 : ¬ p1 < 0) (hn1 : p1.toNatClampNeg ≤ 10) :
    MetFree l (⟨"dev/chainlatch/bucket/Order", "<init>", "(I)V"⟩ : MethodName) (head1 (Jvm.Cond.code (⟨"dev/chainlatch/bucket/Order", "<init>", "(I)V"⟩ : MethodName) prog_10_method_1_code 2 none :: ws) ({ frames := 1, cells := 2, slots := 20, locals := 12 } : Room)) (fun a U => a = #[(.ref o0), (.int p1)] ∧ Z.Warmed39 U.vm ∧ U.heap = h0) (fun _ _ _ _ _ => True) (fun _ U o U' => ∃ v L, o = .returned v ∧ Q_rmI Z o0 p1 h0 n0 v U'.heap L ∧ FrameEnd U o U' L ({ frames := 1, cells := 2, slots := 20, locals := 12 } : Room).cells ({ frames := 1, cells := 2, slots := 20, locals := 12 } : Room).slots) := by
  refine MetFree.of_bodySF (plainFor_of_name pn_dev_chainlatch_bucket_Order) hisR ?_
  intro p e s m args below meth c s₁ Bd hml0 hP hK
  obtain ⟨rfl, hZ, hh⟩ := hP
  have hx := Bd.exec
  have hby := Bd.bytes
  have hml : c.maxLocals = 2 := hml0
  have hown : s.vm.findClass "dev/chainlatch/bucket/Order" = some m.cls := findClass_of_methodNamed Bd.named
  have hnm := (name_of_methodNamed Bd.named Bd.method).1
  have hlk := Bd.notSynchronized
  have X0 : Stand p l e ({ frames := 1, cells := 2, slots := 20, locals := 12 } : Room) s m #[(.ref o0), (.int p1)] below meth c s₁ [] 0 0 := Stand.of_body Bd
  have e0 : s₁.heap = h0 := by rw [← hh, Bd.state]; rfl
  have N0 := Fr.nil n0
  show own_G p.tables e below s (Q_rmI Z o0 p1 h0 n0) ({ frames := 1, cells := 2, slots := 20, locals := 12 } : Room).cells ({ frames := 1, cells := 2, slots := 20, locals := 12 } : Room).slots _
  refine own_thr (a := s₁.setTop (mkF m 0 #[.val (.ref o0), .val (.int p1)] [])) (fun t kt => castTop (ef_rmI m o0 p1) kt) ?_
  refine own_thr (a := s₁.setTop (mkF m 1 #[.val (.ref o0), .val (.int p1)] [(.ref o0)])) (fun t kt => ?_) ?_
  · show Steps p.tables e below (s₁.setTop (mkF m 0 #[.val (.ref o0), .val (.int p1)] [])) _
    refine XS.aloadN X0.here hx rfl (hb hby d1_0) rfl rfl ?_
    exact kt
  obtain ⟨T1, X1, e1, st1⟩ := initO X0 hx hZ hown (hw _ (List.mem_of_getElem? (i := 9) rfl)) (hw _ (List.mem_of_getElem? (i := 10) rfl)) (hw _ (List.mem_of_getElem? (i := 11) rfl)) e0 (g := (mkF m 1 #[.val (.ref o0), .val (.int p1)] [(.ref o0)])) rfl (by rw [hml]; rfl) rfl (hb hby d1_1) (by decide) (W := 0) (by show 2 * 0 + _ ≤ _; exact Nat.le_of_eq rfl) (by decide)
  refine own_thr (a := T1.setTop (mkF m 4 #[.val (.ref o0), .val (.int p1)] [])) (fun t kt => st1 t kt) ?_
  refine own_thr (a := T1.setTop (mkF m 6 #[.val (.ref o0), .val (.int p1)] [(.int (-1 : Int32)), (.ref o0)])) (fun t kt => ?_) ?_
  · show Steps p.tables e below (T1.setTop (mkF m 4 #[.val (.ref o0), .val (.int p1)] [])) _
    refine XS.aloadN X1.here hx rfl (hb hby d1_4) rfl rfl ?_
    refine XS.iconst X1.here hx rfl (hb hby d1_5) ?_
    exact kt
  obtain ⟨T2, h2, X2, e2, W2, st2⟩ := putF X1 hx hZ hown (host := "") (Or.inl (hw _ (List.mem_of_getElem? (i := 12) rfl))) Via.refl e1 F_first E_o0 (Or.inl (hw _ (List.mem_of_getElem? (i := 13) rfl))) (hw _ (List.mem_of_getElem? (i := 4) rfl)) (ty := .int) (by decide) rfl rfl (g := (mkF m 6 #[.val (.ref o0), .val (.int p1)] [(.int (-1 : Int32)), (.ref o0)])) rfl rfl (hb hby d1_6)
  have Fw2 := F_first.same W2
  have Z3 : n0 ≤ h2.size := Nat.le_trans Z0 (Nat.le_of_eq W2.size.symm)
  have Z3h : h0.size ≤ h2.size := Nat.le_trans (Nat.le_refl h0.size) (Nat.le_of_eq W2.size.symm)
  obtain ⟨lc2, X2, N2⟩ := own_pack1 X2 N0 g_o0
  refine own_thr (a := T2.setTop (mkF m 9 #[.val (.ref o0), .val (.int p1)] [])) (fun t kt => st2 t kt) ?_
  refine own_thr (a := T2.setTop (mkF m 11 #[.val (.ref o0), .val (.int p1)] [(.int (-1 : Int32)), (.ref o0)])) (fun t kt => ?_) ?_
  · show Steps p.tables e below (T2.setTop (mkF m 9 #[.val (.ref o0), .val (.int p1)] [])) _
    refine XS.aloadN X2.here hx rfl (hb hby d1_9) rfl rfl ?_
    refine XS.iconst X2.here hx rfl (hb hby d1_10) ?_
    exact kt
  have c4 := (F_last.other W2 (Or.inr (slot_ne (Or.inl (hw _ (List.mem_of_getElem? (i := 15) rfl))) (Or.inl (hw _ (List.mem_of_getElem? (i := 13) rfl))) (by decide) (t := .int) (t' := .int) (by decide) (by decide))))
  obtain ⟨T5, h5, X5, e5, W5, st5⟩ := putF X2 hx hZ hown (host := "") (Or.inl (hw _ (List.mem_of_getElem? (i := 14) rfl))) Via.refl e2 c4 (E_o0.wr W2) (Or.inl (hw _ (List.mem_of_getElem? (i := 15) rfl))) (hw _ (List.mem_of_getElem? (i := 4) rfl)) (ty := .int) (by decide) rfl rfl (g := (mkF m 11 #[.val (.ref o0), .val (.int p1)] [(.int (-1 : Int32)), (.ref o0)])) rfl rfl (hb hby d1_11)
  have Fw5 := c4.same W5
  have Z6 : n0 ≤ h5.size := Nat.le_trans Z3 (Nat.le_of_eq W5.size.symm)
  have Z6h : h0.size ≤ h5.size := Nat.le_trans Z3h (Nat.le_of_eq W5.size.symm)
  obtain ⟨lc5, X5, N5⟩ := own_pack1 X5 N2 g_o0
  refine own_thr (a := T5.setTop (mkF m 14 #[.val (.ref o0), .val (.int p1)] [])) (fun t kt => st5 t kt) ?_
  refine own_thr (a := T5.setTop (mkF m 16 #[.val (.ref o0), .val (.int p1)] [(.int p1), (.ref o0)])) (fun t kt => ?_) ?_
  · show Steps p.tables e below (T5.setTop (mkF m 14 #[.val (.ref o0), .val (.int p1)] [])) _
    refine XS.aloadN X5.here hx rfl (hb hby d1_14) rfl rfl ?_
    refine XS.iloadN X5.here hx rfl (hb hby d1_15) rfl ?_
    exact kt
  obtain ⟨T7, h7, k7, X7, e7, E7, A7, st7⟩ := newP X5 hx hZ (hw _ (List.mem_of_getElem? (i := 2) rfl)) e5 (g := (mkF m 16 #[.val (.ref o0), .val (.int p1)] [(.int p1), (.ref o0)])) rfl (hb hby d1_16) rfl hn0 (cap := 10) hn1 (by decide) (by decide : 0 + 1 ≤ _) (by decide : 0 + 10 ≤ _)
  obtain ⟨b7, g7⟩ : ∃ z, z = h5.size := ⟨_, rfl⟩
  rw [← g7] at A7 st7
  have g_b7 : n0 ≤ b7 := Nat.le_trans Z6 (Nat.le_of_eq g7.symm)
  have sz_b7 : h0.size ≤ b7 := Nat.le_trans Z6h (Nat.le_of_eq g7.symm)
  have lt_o0_b7 : o0 < b7 := Nat.lt_of_lt_of_le ((E_o0.wr W2).wr W5).lt (Nat.le_of_eq g7.symm)
  have ne_o0_b7 : o0 ≠ b7 := Nat.ne_of_lt lt_o0_b7
  have V_b7 : Arv Z h7 b7 k7 .int p1 [] (.int (0 : Int32)) := Arv.new A7 hn0
  have Z8 : n0 ≤ h7.size := Nat.le_trans Z6 E7.1
  have Z8h : h0.size ≤ h7.size := Nat.le_trans Z6h E7.1
  refine own_thr (a := T7.setTop (mkF m 18 #[.val (.ref o0), .val (.int p1)] [(.ref b7), (.ref o0)])) (fun t kt => st7 t kt) ?_
  have AF_b7 : own_AF Z h7 b7 p1 (fun _ => 0) := own_AF.new A7 hn0
  have c9 := (((F_before.other W2 (Or.inr (slot_ne (Or.inl (hw _ (List.mem_of_getElem? (i := 17) rfl))) (Or.inl (hw _ (List.mem_of_getElem? (i := 13) rfl))) (by decide) (t := (.array .int)) (t' := .int) (by decide) (by decide)))).other W5 (Or.inr (slot_ne (Or.inl (hw _ (List.mem_of_getElem? (i := 17) rfl))) (Or.inl (hw _ (List.mem_of_getElem? (i := 15) rfl))) (by decide) (t := (.array .int)) (t' := .int) (by decide) (by decide)))).ext E7)
  obtain ⟨T10, h10, X10, e10, W10, st10⟩ := putF X7 hx hZ hown (host := "") (Or.inl (hw _ (List.mem_of_getElem? (i := 16) rfl))) Via.refl e7 c9 (((E_o0.wr W2).wr W5).ext E7) (Or.inl (hw _ (List.mem_of_getElem? (i := 17) rfl))) (hw _ (List.mem_of_getElem? (i := 4) rfl)) (ty := (.array .int)) (by decide) rfl rfl (g := (mkF m 18 #[.val (.ref o0), .val (.int p1)] [(.ref b7), (.ref o0)])) rfl rfl (hb hby d1_18)
  have Fw10 := c9.same W10
  have Z11 : n0 ≤ h10.size := Nat.le_trans Z8 (Nat.le_of_eq W10.size.symm)
  have Z11h : h0.size ≤ h10.size := Nat.le_trans Z8h (Nat.le_of_eq W10.size.symm)
  obtain ⟨lc10, X10, N10⟩ := own_pack1 X10 N5 g_o0
  refine own_thr (a := T10.setTop (mkF m 21 #[.val (.ref o0), .val (.int p1)] [])) (fun t kt => st10 t kt) ?_
  refine own_thr (a := T10.setTop (mkF m 23 #[.val (.ref o0), .val (.int p1)] [(.int p1), (.ref o0)])) (fun t kt => ?_) ?_
  · show Steps p.tables e below (T10.setTop (mkF m 21 #[.val (.ref o0), .val (.int p1)] [])) _
    refine XS.aloadN X10.here hx rfl (hb hby d1_21) rfl rfl ?_
    refine XS.iloadN X10.here hx rfl (hb hby d1_22) rfl ?_
    exact kt
  obtain ⟨T12, h12, k12, X12, e12, E12, A12, st12⟩ := newP X10 hx hZ (hw _ (List.mem_of_getElem? (i := 2) rfl)) e10 (g := (mkF m 23 #[.val (.ref o0), .val (.int p1)] [(.int p1), (.ref o0)])) rfl (hb hby d1_23) rfl hn0 (cap := 10) hn1 (by decide) (by decide : 1 + 1 ≤ _) (by decide : 10 + 10 ≤ _)
  obtain ⟨b12, g12⟩ : ∃ z, z = h10.size := ⟨_, rfl⟩
  rw [← g12] at A12 st12
  have g_b12 : n0 ≤ b12 := Nat.le_trans Z11 (Nat.le_of_eq g12.symm)
  have sz_b12 : h0.size ≤ b12 := Nat.le_trans Z11h (Nat.le_of_eq g12.symm)
  have lt_o0_b12 : o0 < b12 := Nat.lt_of_lt_of_le ((((E_o0.wr W2).wr W5).ext E7).wr W10).lt (Nat.le_of_eq g12.symm)
  have ne_o0_b12 : o0 ≠ b12 := Nat.ne_of_lt lt_o0_b12
  have lt_b7_b12 : b7 < b12 := Nat.lt_of_lt_of_le (AF_b7.other W10 (Ne.symm ne_o0_b7)).lt (Nat.le_of_eq g12.symm)
  have ne_b7_b12 : b7 ≠ b12 := Nat.ne_of_lt lt_b7_b12
  have V_b12 : Arv Z h12 b12 k12 .int p1 [] (.int (0 : Int32)) := Arv.new A12 hn0
  have Z13 : n0 ≤ h12.size := Nat.le_trans Z11 E12.1
  have Z13h : h0.size ≤ h12.size := Nat.le_trans Z11h E12.1
  refine own_thr (a := T12.setTop (mkF m 25 #[.val (.ref o0), .val (.int p1)] [(.ref b12), (.ref o0)])) (fun t kt => st12 t kt) ?_
  have AF_b12 : own_AF Z h12 b12 p1 (fun _ => 0) := own_AF.new A12 hn0
  have c14 := (((((F_after.other W2 (Or.inr (slot_ne (Or.inl (hw _ (List.mem_of_getElem? (i := 19) rfl))) (Or.inl (hw _ (List.mem_of_getElem? (i := 13) rfl))) (by decide) (t := (.array .int)) (t' := .int) (by decide) (by decide)))).other W5 (Or.inr (slot_ne (Or.inl (hw _ (List.mem_of_getElem? (i := 19) rfl))) (Or.inl (hw _ (List.mem_of_getElem? (i := 15) rfl))) (by decide) (t := (.array .int)) (t' := .int) (by decide) (by decide)))).ext E7).other W10 (Or.inr (slot_ne (Or.inl (hw _ (List.mem_of_getElem? (i := 19) rfl))) (Or.inl (hw _ (List.mem_of_getElem? (i := 17) rfl))) (by decide) (t := (.array .int)) (t' := (.array .int)) (by decide) (by decide)))).ext E12)
  obtain ⟨T15, h15, X15, e15, W15, st15⟩ := putF X12 hx hZ hown (host := "") (Or.inl (hw _ (List.mem_of_getElem? (i := 18) rfl))) Via.refl e12 c14 (((((E_o0.wr W2).wr W5).ext E7).wr W10).ext E12) (Or.inl (hw _ (List.mem_of_getElem? (i := 19) rfl))) (hw _ (List.mem_of_getElem? (i := 4) rfl)) (ty := (.array .int)) (by decide) rfl rfl (g := (mkF m 25 #[.val (.ref o0), .val (.int p1)] [(.ref b12), (.ref o0)])) rfl rfl (hb hby d1_25)
  have Fw15 := c14.same W15
  have Z16 : n0 ≤ h15.size := Nat.le_trans Z13 (Nat.le_of_eq W15.size.symm)
  have Z16h : h0.size ≤ h15.size := Nat.le_trans Z13h (Nat.le_of_eq W15.size.symm)
  obtain ⟨lc15, X15, N15⟩ := own_pack1 X15 N10 g_o0
  refine own_thr (a := T15.setTop (mkF m 28 #[.val (.ref o0), .val (.int p1)] [])) (fun t kt => st15 t kt) ?_
  have c17 := (((((Fw2.other W5 (Or.inr (slot_ne (Or.inl (hw _ (List.mem_of_getElem? (i := 13) rfl))) (Or.inl (hw _ (List.mem_of_getElem? (i := 15) rfl))) (by decide) (t := .int) (t' := .int) (by decide) (by decide)))).ext E7).other W10 (Or.inr (slot_ne (Or.inl (hw _ (List.mem_of_getElem? (i := 13) rfl))) (Or.inl (hw _ (List.mem_of_getElem? (i := 17) rfl))) (by decide) (t := .int) (t' := (.array .int)) (by decide) (by decide)))).ext E12).other W15 (Or.inr (slot_ne (Or.inl (hw _ (List.mem_of_getElem? (i := 13) rfl))) (Or.inl (hw _ (List.mem_of_getElem? (i := 19) rfl))) (by decide) (t := .int) (t' := (.array .int)) (by decide) (by decide))))
  have c18 := ((((Fw5.ext E7).other W10 (Or.inr (slot_ne (Or.inl (hw _ (List.mem_of_getElem? (i := 15) rfl))) (Or.inl (hw _ (List.mem_of_getElem? (i := 17) rfl))) (by decide) (t := .int) (t' := (.array .int)) (by decide) (by decide)))).ext E12).other W15 (Or.inr (slot_ne (Or.inl (hw _ (List.mem_of_getElem? (i := 15) rfl))) (Or.inl (hw _ (List.mem_of_getElem? (i := 19) rfl))) (by decide) (t := .int) (t' := (.array .int)) (by decide) (by decide))))
  have c19 := ((Fw10.ext E12).other W15 (Or.inr (slot_ne (Or.inl (hw _ (List.mem_of_getElem? (i := 17) rfl))) (Or.inl (hw _ (List.mem_of_getElem? (i := 19) rfl))) (by decide) (t := (.array .int)) (t' := (.array .int)) (by decide) (by decide))))
  have c20 := (((AF_b7.other W10 (Ne.symm ne_o0_b7)).ext E12).other W15 (Ne.symm ne_o0_b7))
  exact own_end X15 hlk (v := none) (fun _ => rfl) (fun fs hr => X15.returnOut hx Bd.returns (hb hby d1_28) hr) (by rw [e15]; exact ⟨b7, b12, rfl, N15, (((((((Keep.refl h0 [o0]).wr W2 (Or.inl (List.mem_of_getElem? (i := 0) rfl))).wr W5 (Or.inl (List.mem_of_getElem? (i := 0) rfl))).ext E7).wr W10 (Or.inl (List.mem_of_getElem? (i := 0) rfl))).ext E12).wr W15 (Or.inl (List.mem_of_getElem? (i := 0) rfl))), ((((((E_o0.wr W2).wr W5).ext E7).wr W10).ext E12).wr W15), c17, c18, c19, Fw15, c20, (AF_b12.other W15 (Ne.symm ne_o0_b12)), sz_b7, lt_b7_b12⟩) (by decide : 2 ≤ _) (by decide : 20 ≤ _)
theorem d3_0 : decode prog_10_method_5_code 0 = .ok (.aload_n 0, 1) := by decide +kernel
theorem d3_1 : decode prog_10_method_5_code 1 = .ok (.getfield 18, 3) := by decide +kernel
theorem d3_4 : decode prog_10_method_5_code 4 = .ok (.iload_n 1, 1) := by decide +kernel
theorem d3_5 : decode prog_10_method_5_code 5 = .ok (.aload_n 0, 1) := by decide +kernel
theorem d3_6 : decode prog_10_method_5_code 6 = .ok (.getfield 15, 3) := by decide +kernel
theorem d3_9 : decode prog_10_method_5_code 9 = .ok (.iconst 1, 1) := by decide +kernel
theorem d3_10 : decode prog_10_method_5_code 10 = .ok (.iadd, 1) := by decide +kernel
theorem d3_11 : decode prog_10_method_5_code 11 = .ok (.iastore, 1) := by decide +kernel
theorem d3_12 : decode prog_10_method_5_code 12 = .ok (.aload_n 0, 1) := by decide +kernel
theorem d3_13 : decode prog_10_method_5_code 13 = .ok (.getfield 22, 3) := by decide +kernel
theorem d3_16 : decode prog_10_method_5_code 16 = .ok (.iload_n 1, 1) := by decide +kernel
theorem d3_17 : decode prog_10_method_5_code 17 = .ok (.iconst 0, 1) := by decide +kernel
theorem d3_18 : decode prog_10_method_5_code 18 = .ok (.iastore, 1) := by decide +kernel
theorem d3_19 : decode prog_10_method_5_code 19 = .ok (.aload_n 0, 1) := by decide +kernel
theorem d3_20 : decode prog_10_method_5_code 20 = .ok (.getfield 15, 3) := by decide +kernel
theorem d3_23 : decode prog_10_method_5_code 23 = .ok (.iconst (-1), 1) := by decide +kernel
theorem d3_24 : decode prog_10_method_5_code 24 = .ok (.if_icmp .ne 11, 3) := by decide +kernel
theorem d3_27 : decode prog_10_method_5_code 27 = .ok (.aload_n 0, 1) := by decide +kernel
theorem d3_28 : decode prog_10_method_5_code 28 = .ok (.iload_n 1, 1) := by decide +kernel
theorem d3_29 : decode prog_10_method_5_code 29 = .ok (.putfield 9, 3) := by decide +kernel
theorem d3_32 : decode prog_10_method_5_code 32 = .ok (.goto 15, 3) := by decide +kernel
theorem d3_47 : decode prog_10_method_5_code 47 = .ok (.aload_n 0, 1) := by decide +kernel
theorem d3_48 : decode prog_10_method_5_code 48 = .ok (.iload_n 1, 1) := by decide +kernel
theorem d3_49 : decode prog_10_method_5_code 49 = .ok (.putfield 15, 3) := by decide +kernel
theorem d3_52 : decode prog_10_method_5_code 52 = .ok (.return_, 1) := by decide +kernel
theorem ef_rmA1 (m : MethodId) (o0 : Addr) (p1 : Int32)  : entryFrame m #[(.ref o0), (.int p1)] 2 = mkF m 0 #[.val (.ref o0), .val (.int p1)] [] := by first |  (simp [entryFrame, mkF, argsToLocals, Value.category]; done) | rfl
def Q_rmA1 (Z : State) (o0 : Addr) (p1 : Int32) (B : Addr) (A : Addr) (n : Int32) (f : Int32) (la : Int32) (xB : Int32 → Int32) (xA : Int32 → Int32) (h0 : Heap) (n0 : Nat) (v : Option Value) (h : Heap) (L : List Loc) : Prop := v = none ∧ Fr n0 L ∧ Keep h0 h [o0, B, A] ∧ Exa Z h o0 "dev/chainlatch/bucket/Order" ∧ Fld Z h o0 "dev/chainlatch/bucket/Order" "first" "I" (.int p1) ∧ Fld Z h o0 "dev/chainlatch/bucket/Order" "last" "I" (.int p1) ∧ Fld Z h o0 "dev/chainlatch/bucket/Order" "before" "[I" (.ref B) ∧ Fld Z h o0 "dev/chainlatch/bucket/Order" "after" "[I" (.ref A) ∧ own_AF Z h B n (own_up xB p1 (la + (1 : Int32))) ∧ own_AF Z h A n (own_up xA p1 (0 : Int32))
set_option maxRecDepth 65536 in
set_option maxHeartbeats 40000000 in
theorem rmA1 (l : Launch) (Z : State) (a0 : Array Value) (hw : ∀ d ∈ tables_1, d.before a0 Z = true) (ws : List Jvm.Cond) (o0 : Addr) (p1 : Int32) (B : Addr) (A : Addr) (n : Int32) (f : Int32) (la : Int32) (xB : Int32 → Int32) (xA : Int32 → Int32) (h0 : Heap) (n0 : Nat) (Z0 : n0 ≤ h0.size) (E_o0 : Exa Z h0 o0 "dev/chainlatch/bucket/Order") (F_first_o0 : Fld Z h0 o0 "dev/chainlatch/bucket/Order" "first" "I" (.int f)) (F_last_o0 : Fld Z h0 o0 "dev/chainlatch/bucket/Order" "last" "I" (.int la)) (F_before_o0 : Fld Z h0 o0 "dev/chainlatch/bucket/Order" "before" "[I" (.ref B)) (F_after_o0 : Fld Z h0 o0 "dev/chainlatch/bucket/Order" "after" "[I" (.ref A)) (V_B : own_AF Z h0 B n xB) (V_A : own_AF Z h0 A n xA) (g_o0 : n0 ≤ o0) (g_B : n0 ≤ B) (g_A : n0 ≤ A) (ne_o0_B : o0 ≠ B) (ne_o0_A : o0 ≠ A) (ne_B_A : B ≠ A) (hp10 : ¬ p1 < 0) (hp11 : p1 < n) (hla : la = (-1 : Int32)) :
    MetFree l (⟨"dev/chainlatch/bucket/Order", "append", "(I)V"⟩ : MethodName) (head1 (Jvm.Cond.code (⟨"dev/chainlatch/bucket/Order", "append", "(I)V"⟩ : MethodName) prog_10_method_5_code 2 none :: ws) ({ frames := 0, cells := 0, slots := 0, locals := 0 } : Room)) (fun a U => a = #[(.ref o0), (.int p1)] ∧ Z.Warmed39 U.vm ∧ U.heap = h0) (fun _ _ _ _ _ => True) (fun _ U o U' => ∃ v L, o = .returned v ∧ Q_rmA1 Z o0 p1 B A n f la xB xA h0 n0 v U'.heap L ∧ FrameEnd U o U' L ({ frames := 0, cells := 0, slots := 0, locals := 0 } : Room).cells ({ frames := 0, cells := 0, slots := 0, locals := 0 } : Room).slots) := by
  refine MetFree.of_bodySF (plainFor_of_name pn_dev_chainlatch_bucket_Order) hisR ?_
  intro p e s m args below meth c s₁ Bd hml0 hP hK
  obtain ⟨rfl, hZ, hh⟩ := hP
  have hx := Bd.exec
  have hby := Bd.bytes
  have hml : c.maxLocals = 2 := hml0
  have hown : s.vm.findClass "dev/chainlatch/bucket/Order" = some m.cls := findClass_of_methodNamed Bd.named
  have hnm := (name_of_methodNamed Bd.named Bd.method).1
  have hlk := Bd.notSynchronized
  have X0 : Stand p l e ({ frames := 0, cells := 0, slots := 0, locals := 0 } : Room) s m #[(.ref o0), (.int p1)] below meth c s₁ [] 0 0 := Stand.of_body Bd
  have e0 : s₁.heap = h0 := by rw [← hh, Bd.state]; rfl
  have N0 := Fr.nil n0
  show own_G p.tables e below s (Q_rmA1 Z o0 p1 B A n f la xB xA h0 n0) ({ frames := 0, cells := 0, slots := 0, locals := 0 } : Room).cells ({ frames := 0, cells := 0, slots := 0, locals := 0 } : Room).slots _
  refine own_thr (a := s₁.setTop (mkF m 0 #[.val (.ref o0), .val (.int p1)] [])) (fun t kt => castTop (ef_rmA1 m o0 p1) kt) ?_
  refine own_thr (a := s₁.setTop (mkF m 1 #[.val (.ref o0), .val (.int p1)] [(.ref o0)])) (fun t kt => ?_) ?_
  · show Steps p.tables e below (s₁.setTop (mkF m 0 #[.val (.ref o0), .val (.int p1)] [])) _
    refine XS.aloadN X0.here hx rfl (hb hby d3_0) rfl rfl ?_
    exact kt
  obtain ⟨T1, X1, e1, st1⟩ := getF X0 hx hZ hown (host := "") (Or.inl (hw _ (List.mem_of_getElem? (i := 16) rfl))) Via.refl e0 F_before_o0 (g := (mkF m 1 #[.val (.ref o0), .val (.int p1)] [(.ref o0)])) rfl rfl (hb hby d3_1)
  refine own_thr (a := T1.setTop (mkF m 4 #[.val (.ref o0), .val (.int p1)] [(.ref B)])) (fun t kt => st1 t kt) ?_
  refine own_thr (a := T1.setTop (mkF m 6 #[.val (.ref o0), .val (.int p1)] [(.ref o0), (.int p1), (.ref B)])) (fun t kt => ?_) ?_
  · show Steps p.tables e below (T1.setTop (mkF m 4 #[.val (.ref o0), .val (.int p1)] [(.ref B)])) _
    refine XS.iloadN X1.here hx rfl (hb hby d3_4) rfl ?_
    refine XS.aloadN X1.here hx rfl (hb hby d3_5) rfl rfl ?_
    exact kt
  obtain ⟨T2, X2, e2, st2⟩ := getF X1 hx hZ hown (host := "") (Or.inl (hw _ (List.mem_of_getElem? (i := 14) rfl))) Via.refl e1 F_last_o0 (g := (mkF m 6 #[.val (.ref o0), .val (.int p1)] [(.ref o0), (.int p1), (.ref B)])) rfl rfl (hb hby d3_6)
  refine own_thr (a := T2.setTop (mkF m 9 #[.val (.ref o0), .val (.int p1)] [(.int la), (.int p1), (.ref B)])) (fun t kt => st2 t kt) ?_
  refine own_thr (a := T2.setTop (mkF m 11 #[.val (.ref o0), .val (.int p1)] [(.int (la + (1 : Int32))), (.int p1), (.ref B)])) (fun t kt => ?_) ?_
  · show Steps p.tables e below (T2.setTop (mkF m 9 #[.val (.ref o0), .val (.int p1)] [(.int la), (.int p1), (.ref B)])) _
    refine XS.iconst X2.here hx rfl (hb hby d3_9) ?_
    refine XS.iadd X2.here hx rfl (hb hby d3_10) rfl ?_
    exact kt
  obtain ⟨cl3, Ar3, S3, M3, H3⟩ := id V_B
  have hin3 : ¬ (p1 < 0 ∨ cl3.slots.size ≤ (p1).toNatClampNeg) := inb_of S3 ⟨hp10, hp11⟩
  obtain ⟨T3, h3, X3, e3, W3, st3⟩ := stI X2 hx hZ e2 Ar3 (j := p1) hin3 (g := (mkF m 11 #[.val (.ref o0), .val (.int p1)] [(.int (la + (1 : Int32))), (.int p1), (.ref B)])) rfl rfl (hb hby d3_11)
  have Z4 : n0 ≤ h3.size := Nat.le_trans Z0 (Nat.le_of_eq W3.size.symm)
  have Z4h : h0.size ≤ h3.size := Nat.le_trans (Nat.le_refl h0.size) (Nat.le_of_eq W3.size.symm)
  have V3 : own_AF Z h3 B n (own_up xB p1 (la + (1 : Int32))) := own_AF.set Ar3 S3 M3 H3 hin3 W3
  obtain ⟨lc3, X3, N3⟩ := own_pack1 X3 N0 g_B
  refine own_thr (a := T3.setTop (mkF m 12 #[.val (.ref o0), .val (.int p1)] [])) (fun t kt => st3 t kt) ?_
  refine own_thr (a := T3.setTop (mkF m 13 #[.val (.ref o0), .val (.int p1)] [(.ref o0)])) (fun t kt => ?_) ?_
  · show Steps p.tables e below (T3.setTop (mkF m 12 #[.val (.ref o0), .val (.int p1)] [])) _
    refine XS.aloadN X3.here hx rfl (hb hby d3_12) rfl rfl ?_
    exact kt
  obtain ⟨T5, X5, e5, st5⟩ := getF X3 hx hZ hown (host := "") (Or.inl (hw _ (List.mem_of_getElem? (i := 18) rfl))) Via.refl e3 (F_after_o0.other W3 (Or.inl ne_o0_B)) (g := (mkF m 13 #[.val (.ref o0), .val (.int p1)] [(.ref o0)])) rfl rfl (hb hby d3_13)
  refine own_thr (a := T5.setTop (mkF m 16 #[.val (.ref o0), .val (.int p1)] [(.ref A)])) (fun t kt => st5 t kt) ?_
  refine own_thr (a := T5.setTop (mkF m 18 #[.val (.ref o0), .val (.int p1)] [(.int (0 : Int32)), (.int p1), (.ref A)])) (fun t kt => ?_) ?_
  · show Steps p.tables e below (T5.setTop (mkF m 16 #[.val (.ref o0), .val (.int p1)] [(.ref A)])) _
    refine XS.iloadN X5.here hx rfl (hb hby d3_16) rfl ?_
    refine XS.iconst X5.here hx rfl (hb hby d3_17) ?_
    exact kt
  obtain ⟨cl6, Ar6, S6, M6, H6⟩ := id (V_A.other W3 (Ne.symm ne_B_A))
  have hin6 : ¬ (p1 < 0 ∨ cl6.slots.size ≤ (p1).toNatClampNeg) := inb_of S6 ⟨hp10, hp11⟩
  obtain ⟨T6, h6, X6, e6, W6, st6⟩ := stI X5 hx hZ e5 Ar6 (j := p1) hin6 (g := (mkF m 18 #[.val (.ref o0), .val (.int p1)] [(.int (0 : Int32)), (.int p1), (.ref A)])) rfl rfl (hb hby d3_18)
  have Z7 : n0 ≤ h6.size := Nat.le_trans Z4 (Nat.le_of_eq W6.size.symm)
  have Z7h : h0.size ≤ h6.size := Nat.le_trans Z4h (Nat.le_of_eq W6.size.symm)
  have V6 : own_AF Z h6 A n (own_up xA p1 (0 : Int32)) := own_AF.set Ar6 S6 M6 H6 hin6 W6
  obtain ⟨lc6, X6, N6⟩ := own_pack1 X6 N3 g_A
  refine own_thr (a := T6.setTop (mkF m 19 #[.val (.ref o0), .val (.int p1)] [])) (fun t kt => st6 t kt) ?_
  refine own_thr (a := T6.setTop (mkF m 20 #[.val (.ref o0), .val (.int p1)] [(.ref o0)])) (fun t kt => ?_) ?_
  · show Steps p.tables e below (T6.setTop (mkF m 19 #[.val (.ref o0), .val (.int p1)] [])) _
    refine XS.aloadN X6.here hx rfl (hb hby d3_19) rfl rfl ?_
    exact kt
  have c8 := ((F_last_o0.other W3 (Or.inl ne_o0_B)).other W6 (Or.inl ne_o0_A))
  obtain ⟨T9, X9, e9, st9⟩ := getF X6 hx hZ hown (host := "") (Or.inl (hw _ (List.mem_of_getElem? (i := 14) rfl))) Via.refl e6 c8 (g := (mkF m 20 #[.val (.ref o0), .val (.int p1)] [(.ref o0)])) rfl rfl (hb hby d3_20)
  refine own_thr (a := T9.setTop (mkF m 23 #[.val (.ref o0), .val (.int p1)] [(.int la)])) (fun t kt => st9 t kt) ?_
  refine own_thr (a := T9.setTop (mkF m 29 #[.val (.ref o0), .val (.int p1)] [(.int p1), (.ref o0)])) (fun t kt => ?_) ?_
  · show Steps p.tables e below (T9.setTop (mkF m 23 #[.val (.ref o0), .val (.int p1)] [(.int la)])) _
    refine XS.iconst X9.here hx rfl (hb hby d3_23) ?_
    refine XS.icmpNo X9.here hx rfl (hb hby d3_24) rfl (teq hla).2 ?_
    refine XS.aloadN X9.here hx rfl (hb hby d3_27) rfl rfl ?_
    refine XS.iloadN X9.here hx rfl (hb hby d3_28) rfl ?_
    exact kt
  have c10 := ((F_first_o0.other W3 (Or.inl ne_o0_B)).other W6 (Or.inl ne_o0_A))
  obtain ⟨T11, h11, X11, e11, W11, st11⟩ := putF X9 hx hZ hown (host := "") (Or.inl (hw _ (List.mem_of_getElem? (i := 12) rfl))) Via.refl e9 c10 ((E_o0.wr W3).wr W6) (Or.inl (hw _ (List.mem_of_getElem? (i := 13) rfl))) (hw _ (List.mem_of_getElem? (i := 4) rfl)) (ty := .int) (by decide) rfl rfl (g := (mkF m 29 #[.val (.ref o0), .val (.int p1)] [(.int p1), (.ref o0)])) rfl rfl (hb hby d3_29)
  have Fw11 := c10.same W11
  have Z12 : n0 ≤ h11.size := Nat.le_trans Z7 (Nat.le_of_eq W11.size.symm)
  have Z12h : h0.size ≤ h11.size := Nat.le_trans Z7h (Nat.le_of_eq W11.size.symm)
  obtain ⟨lc11, X11, N11⟩ := own_pack1 X11 N6 g_o0
  refine own_thr (a := T11.setTop (mkF m 32 #[.val (.ref o0), .val (.int p1)] [])) (fun t kt => st11 t kt) ?_
  refine own_thr (a := T11.setTop (mkF m 49 #[.val (.ref o0), .val (.int p1)] [(.int p1), (.ref o0)])) (fun t kt => ?_) ?_
  · show Steps p.tables e below (T11.setTop (mkF m 32 #[.val (.ref o0), .val (.int p1)] [])) _
    refine XS.goto X11.here hx rfl (pc0 := 32) (pc' := 47) rfl (hb hby d3_32) (by decide) (by decide) ?_
    refine XS.aloadN X11.here hx rfl (hb hby d3_47) rfl rfl ?_
    refine XS.iloadN X11.here hx rfl (hb hby d3_48) rfl ?_
    exact kt
  have c13 := (c8.other W11 (Or.inr (slot_ne (Or.inl (hw _ (List.mem_of_getElem? (i := 15) rfl))) (Or.inl (hw _ (List.mem_of_getElem? (i := 13) rfl))) (by decide) (t := .int) (t' := .int) (by decide) (by decide))))
  obtain ⟨T14, h14, X14, e14, W14, st14⟩ := putF X11 hx hZ hown (host := "") (Or.inl (hw _ (List.mem_of_getElem? (i := 14) rfl))) Via.refl e11 c13 (((E_o0.wr W3).wr W6).wr W11) (Or.inl (hw _ (List.mem_of_getElem? (i := 15) rfl))) (hw _ (List.mem_of_getElem? (i := 4) rfl)) (ty := .int) (by decide) rfl rfl (g := (mkF m 49 #[.val (.ref o0), .val (.int p1)] [(.int p1), (.ref o0)])) rfl rfl (hb hby d3_49)
  have Fw14 := c13.same W14
  have Z15 : n0 ≤ h14.size := Nat.le_trans Z12 (Nat.le_of_eq W14.size.symm)
  have Z15h : h0.size ≤ h14.size := Nat.le_trans Z12h (Nat.le_of_eq W14.size.symm)
  obtain ⟨lc14, X14, N14⟩ := own_pack1 X14 N11 g_o0
  refine own_thr (a := T14.setTop (mkF m 52 #[.val (.ref o0), .val (.int p1)] [])) (fun t kt => st14 t kt) ?_
  have c16 := (Fw11.other W14 (Or.inr (slot_ne (Or.inl (hw _ (List.mem_of_getElem? (i := 13) rfl))) (Or.inl (hw _ (List.mem_of_getElem? (i := 15) rfl))) (by decide) (t := .int) (t' := .int) (by decide) (by decide))))
  have c17 := ((((F_before_o0.other W3 (Or.inl ne_o0_B)).other W6 (Or.inl ne_o0_A)).other W11 (Or.inr (slot_ne (Or.inl (hw _ (List.mem_of_getElem? (i := 17) rfl))) (Or.inl (hw _ (List.mem_of_getElem? (i := 13) rfl))) (by decide) (t := (.array .int)) (t' := .int) (by decide) (by decide)))).other W14 (Or.inr (slot_ne (Or.inl (hw _ (List.mem_of_getElem? (i := 17) rfl))) (Or.inl (hw _ (List.mem_of_getElem? (i := 15) rfl))) (by decide) (t := (.array .int)) (t' := .int) (by decide) (by decide))))
  have c18 := ((((F_after_o0.other W3 (Or.inl ne_o0_B)).other W6 (Or.inl ne_o0_A)).other W11 (Or.inr (slot_ne (Or.inl (hw _ (List.mem_of_getElem? (i := 19) rfl))) (Or.inl (hw _ (List.mem_of_getElem? (i := 13) rfl))) (by decide) (t := (.array .int)) (t' := .int) (by decide) (by decide)))).other W14 (Or.inr (slot_ne (Or.inl (hw _ (List.mem_of_getElem? (i := 19) rfl))) (Or.inl (hw _ (List.mem_of_getElem? (i := 15) rfl))) (by decide) (t := (.array .int)) (t' := .int) (by decide) (by decide))))
  have c19 := (((V3.other W6 ne_B_A).other W11 (Ne.symm ne_o0_B)).other W14 (Ne.symm ne_o0_B))
  have c20 := ((V6.other W11 (Ne.symm ne_o0_A)).other W14 (Ne.symm ne_o0_A))
  exact own_end X14 hlk (v := none) (fun _ => rfl) (fun fs hr => X14.returnOut hx Bd.returns (hb hby d3_52) hr) (by rw [e14]; exact ⟨rfl, N14, (((((Keep.refl h0 [o0, B, A]).wr W3 (Or.inl (List.mem_of_getElem? (i := 1) rfl))).wr W6 (Or.inl (List.mem_of_getElem? (i := 2) rfl))).wr W11 (Or.inl (List.mem_of_getElem? (i := 0) rfl))).wr W14 (Or.inl (List.mem_of_getElem? (i := 0) rfl))), ((((E_o0.wr W3).wr W6).wr W11).wr W14), c16, Fw14, c17, c18, c19, c20⟩) (by decide : 0 ≤ _) (by decide : 0 ≤ _)
theorem d3_35 : decode prog_10_method_5_code 35 = .ok (.aload_n 0, 1) := by decide +kernel
theorem d3_36 : decode prog_10_method_5_code 36 = .ok (.getfield 22, 3) := by decide +kernel
theorem d3_39 : decode prog_10_method_5_code 39 = .ok (.aload_n 0, 1) := by decide +kernel
theorem d3_40 : decode prog_10_method_5_code 40 = .ok (.getfield 15, 3) := by decide +kernel
theorem d3_43 : decode prog_10_method_5_code 43 = .ok (.iload_n 1, 1) := by decide +kernel
theorem d3_44 : decode prog_10_method_5_code 44 = .ok (.iconst 1, 1) := by decide +kernel
theorem d3_45 : decode prog_10_method_5_code 45 = .ok (.iadd, 1) := by decide +kernel
theorem d3_46 : decode prog_10_method_5_code 46 = .ok (.iastore, 1) := by decide +kernel
theorem ef_rmA2 (m : MethodId) (o0 : Addr) (p1 : Int32)  : entryFrame m #[(.ref o0), (.int p1)] 2 = mkF m 0 #[.val (.ref o0), .val (.int p1)] [] := by first |  (simp [entryFrame, mkF, argsToLocals, Value.category]; done) | rfl
def Q_rmA2 (Z : State) (o0 : Addr) (p1 : Int32) (B : Addr) (A : Addr) (n : Int32) (f : Int32) (la : Int32) (xB : Int32 → Int32) (xA : Int32 → Int32) (h0 : Heap) (n0 : Nat) (v : Option Value) (h : Heap) (L : List Loc) : Prop := v = none ∧ Fr n0 L ∧ Keep h0 h [o0, B, A] ∧ Exa Z h o0 "dev/chainlatch/bucket/Order" ∧ Fld Z h o0 "dev/chainlatch/bucket/Order" "first" "I" (.int f) ∧ Fld Z h o0 "dev/chainlatch/bucket/Order" "last" "I" (.int p1) ∧ Fld Z h o0 "dev/chainlatch/bucket/Order" "before" "[I" (.ref B) ∧ Fld Z h o0 "dev/chainlatch/bucket/Order" "after" "[I" (.ref A) ∧ own_AF Z h B n (own_up xB p1 (la + (1 : Int32))) ∧ own_AF Z h A n (own_up (own_up xA p1 (0 : Int32)) la (p1 + (1 : Int32)))
set_option maxRecDepth 65536 in
set_option maxHeartbeats 40000000 in
theorem rmA2 (l : Launch) (Z : State) (a0 : Array Value) (hw : ∀ d ∈ tables_1, d.before a0 Z = true) (ws : List Jvm.Cond) (o0 : Addr) (p1 : Int32) (B : Addr) (A : Addr) (n : Int32) (f : Int32) (la : Int32) (xB : Int32 → Int32) (xA : Int32 → Int32) (h0 : Heap) (n0 : Nat) (Z0 : n0 ≤ h0.size) (E_o0 : Exa Z h0 o0 "dev/chainlatch/bucket/Order") (F_first_o0 : Fld Z h0 o0 "dev/chainlatch/bucket/Order" "first" "I" (.int f)) (F_last_o0 : Fld Z h0 o0 "dev/chainlatch/bucket/Order" "last" "I" (.int la)) (F_before_o0 : Fld Z h0 o0 "dev/chainlatch/bucket/Order" "before" "[I" (.ref B)) (F_after_o0 : Fld Z h0 o0 "dev/chainlatch/bucket/Order" "after" "[I" (.ref A)) (V_B : own_AF Z h0 B n xB) (V_A : own_AF Z h0 A n xA) (g_o0 : n0 ≤ o0) (g_B : n0 ≤ B) (g_A : n0 ≤ A) (ne_o0_B : o0 ≠ B) (ne_o0_A : o0 ≠ A) (ne_B_A : B ≠ A) (hp10 : ¬ p1 < 0) (hp11 : p1 < n) (hla0 : ¬ la < 0) (hla1 : la < n) :
    MetFree l (⟨"dev/chainlatch/bucket/Order", "append", "(I)V"⟩ : MethodName) (head1 (Jvm.Cond.code (⟨"dev/chainlatch/bucket/Order", "append", "(I)V"⟩ : MethodName) prog_10_method_5_code 2 none :: ws) ({ frames := 0, cells := 0, slots := 0, locals := 0 } : Room)) (fun a U => a = #[(.ref o0), (.int p1)] ∧ Z.Warmed39 U.vm ∧ U.heap = h0) (fun _ _ _ _ _ => True) (fun _ U o U' => ∃ v L, o = .returned v ∧ Q_rmA2 Z o0 p1 B A n f la xB xA h0 n0 v U'.heap L ∧ FrameEnd U o U' L ({ frames := 0, cells := 0, slots := 0, locals := 0 } : Room).cells ({ frames := 0, cells := 0, slots := 0, locals := 0 } : Room).slots) := by
  refine MetFree.of_bodySF (plainFor_of_name pn_dev_chainlatch_bucket_Order) hisR ?_
  intro p e s m args below meth c s₁ Bd hml0 hP hK
  obtain ⟨rfl, hZ, hh⟩ := hP
  have hx := Bd.exec
  have hby := Bd.bytes
  have hml : c.maxLocals = 2 := hml0
  have hown : s.vm.findClass "dev/chainlatch/bucket/Order" = some m.cls := findClass_of_methodNamed Bd.named
  have hnm := (name_of_methodNamed Bd.named Bd.method).1
  have hlk := Bd.notSynchronized
  have X0 : Stand p l e ({ frames := 0, cells := 0, slots := 0, locals := 0 } : Room) s m #[(.ref o0), (.int p1)] below meth c s₁ [] 0 0 := Stand.of_body Bd
  have e0 : s₁.heap = h0 := by rw [← hh, Bd.state]; rfl
  have N0 := Fr.nil n0
  show own_G p.tables e below s (Q_rmA2 Z o0 p1 B A n f la xB xA h0 n0) ({ frames := 0, cells := 0, slots := 0, locals := 0 } : Room).cells ({ frames := 0, cells := 0, slots := 0, locals := 0 } : Room).slots _
  refine own_thr (a := s₁.setTop (mkF m 0 #[.val (.ref o0), .val (.int p1)] [])) (fun t kt => castTop (ef_rmA2 m o0 p1) kt) ?_
  refine own_thr (a := s₁.setTop (mkF m 1 #[.val (.ref o0), .val (.int p1)] [(.ref o0)])) (fun t kt => ?_) ?_
  · show Steps p.tables e below (s₁.setTop (mkF m 0 #[.val (.ref o0), .val (.int p1)] [])) _
    refine XS.aloadN X0.here hx rfl (hb hby d3_0) rfl rfl ?_
    exact kt
  obtain ⟨T1, X1, e1, st1⟩ := getF X0 hx hZ hown (host := "") (Or.inl (hw _ (List.mem_of_getElem? (i := 16) rfl))) Via.refl e0 F_before_o0 (g := (mkF m 1 #[.val (.ref o0), .val (.int p1)] [(.ref o0)])) rfl rfl (hb hby d3_1)
  refine own_thr (a := T1.setTop (mkF m 4 #[.val (.ref o0), .val (.int p1)] [(.ref B)])) (fun t kt => st1 t kt) ?_
  refine own_thr (a := T1.setTop (mkF m 6 #[.val (.ref o0), .val (.int p1)] [(.ref o0), (.int p1), (.ref B)])) (fun t kt => ?_) ?_
  · show Steps p.tables e below (T1.setTop (mkF m 4 #[.val (.ref o0), .val (.int p1)] [(.ref B)])) _
    refine XS.iloadN X1.here hx rfl (hb hby d3_4) rfl ?_
    refine XS.aloadN X1.here hx rfl (hb hby d3_5) rfl rfl ?_
    exact kt
  obtain ⟨T2, X2, e2, st2⟩ := getF X1 hx hZ hown (host := "") (Or.inl (hw _ (List.mem_of_getElem? (i := 14) rfl))) Via.refl e1 F_last_o0 (g := (mkF m 6 #[.val (.ref o0), .val (.int p1)] [(.ref o0), (.int p1), (.ref B)])) rfl rfl (hb hby d3_6)
  refine own_thr (a := T2.setTop (mkF m 9 #[.val (.ref o0), .val (.int p1)] [(.int la), (.int p1), (.ref B)])) (fun t kt => st2 t kt) ?_
  refine own_thr (a := T2.setTop (mkF m 11 #[.val (.ref o0), .val (.int p1)] [(.int (la + (1 : Int32))), (.int p1), (.ref B)])) (fun t kt => ?_) ?_
  · show Steps p.tables e below (T2.setTop (mkF m 9 #[.val (.ref o0), .val (.int p1)] [(.int la), (.int p1), (.ref B)])) _
    refine XS.iconst X2.here hx rfl (hb hby d3_9) ?_
    refine XS.iadd X2.here hx rfl (hb hby d3_10) rfl ?_
    exact kt
  obtain ⟨cl3, Ar3, S3, M3, H3⟩ := id V_B
  have hin3 : ¬ (p1 < 0 ∨ cl3.slots.size ≤ (p1).toNatClampNeg) := inb_of S3 ⟨hp10, hp11⟩
  obtain ⟨T3, h3, X3, e3, W3, st3⟩ := stI X2 hx hZ e2 Ar3 (j := p1) hin3 (g := (mkF m 11 #[.val (.ref o0), .val (.int p1)] [(.int (la + (1 : Int32))), (.int p1), (.ref B)])) rfl rfl (hb hby d3_11)
  have Z4 : n0 ≤ h3.size := Nat.le_trans Z0 (Nat.le_of_eq W3.size.symm)
  have Z4h : h0.size ≤ h3.size := Nat.le_trans (Nat.le_refl h0.size) (Nat.le_of_eq W3.size.symm)
  have V3 : own_AF Z h3 B n (own_up xB p1 (la + (1 : Int32))) := own_AF.set Ar3 S3 M3 H3 hin3 W3
  obtain ⟨lc3, X3, N3⟩ := own_pack1 X3 N0 g_B
  refine own_thr (a := T3.setTop (mkF m 12 #[.val (.ref o0), .val (.int p1)] [])) (fun t kt => st3 t kt) ?_
  refine own_thr (a := T3.setTop (mkF m 13 #[.val (.ref o0), .val (.int p1)] [(.ref o0)])) (fun t kt => ?_) ?_
  · show Steps p.tables e below (T3.setTop (mkF m 12 #[.val (.ref o0), .val (.int p1)] [])) _
    refine XS.aloadN X3.here hx rfl (hb hby d3_12) rfl rfl ?_
    exact kt
  obtain ⟨T5, X5, e5, st5⟩ := getF X3 hx hZ hown (host := "") (Or.inl (hw _ (List.mem_of_getElem? (i := 18) rfl))) Via.refl e3 (F_after_o0.other W3 (Or.inl ne_o0_B)) (g := (mkF m 13 #[.val (.ref o0), .val (.int p1)] [(.ref o0)])) rfl rfl (hb hby d3_13)
  refine own_thr (a := T5.setTop (mkF m 16 #[.val (.ref o0), .val (.int p1)] [(.ref A)])) (fun t kt => st5 t kt) ?_
  refine own_thr (a := T5.setTop (mkF m 18 #[.val (.ref o0), .val (.int p1)] [(.int (0 : Int32)), (.int p1), (.ref A)])) (fun t kt => ?_) ?_
  · show Steps p.tables e below (T5.setTop (mkF m 16 #[.val (.ref o0), .val (.int p1)] [(.ref A)])) _
    refine XS.iloadN X5.here hx rfl (hb hby d3_16) rfl ?_
    refine XS.iconst X5.here hx rfl (hb hby d3_17) ?_
    exact kt
  obtain ⟨cl6, Ar6, S6, M6, H6⟩ := id (V_A.other W3 (Ne.symm ne_B_A))
  have hin6 : ¬ (p1 < 0 ∨ cl6.slots.size ≤ (p1).toNatClampNeg) := inb_of S6 ⟨hp10, hp11⟩
  obtain ⟨T6, h6, X6, e6, W6, st6⟩ := stI X5 hx hZ e5 Ar6 (j := p1) hin6 (g := (mkF m 18 #[.val (.ref o0), .val (.int p1)] [(.int (0 : Int32)), (.int p1), (.ref A)])) rfl rfl (hb hby d3_18)
  have Z7 : n0 ≤ h6.size := Nat.le_trans Z4 (Nat.le_of_eq W6.size.symm)
  have Z7h : h0.size ≤ h6.size := Nat.le_trans Z4h (Nat.le_of_eq W6.size.symm)
  have V6 : own_AF Z h6 A n (own_up xA p1 (0 : Int32)) := own_AF.set Ar6 S6 M6 H6 hin6 W6
  obtain ⟨lc6, X6, N6⟩ := own_pack1 X6 N3 g_A
  refine own_thr (a := T6.setTop (mkF m 19 #[.val (.ref o0), .val (.int p1)] [])) (fun t kt => st6 t kt) ?_
  refine own_thr (a := T6.setTop (mkF m 20 #[.val (.ref o0), .val (.int p1)] [(.ref o0)])) (fun t kt => ?_) ?_
  · show Steps p.tables e below (T6.setTop (mkF m 19 #[.val (.ref o0), .val (.int p1)] [])) _
    refine XS.aloadN X6.here hx rfl (hb hby d3_19) rfl rfl ?_
    exact kt
  have c8 := ((F_last_o0.other W3 (Or.inl ne_o0_B)).other W6 (Or.inl ne_o0_A))
  obtain ⟨T9, X9, e9, st9⟩ := getF X6 hx hZ hown (host := "") (Or.inl (hw _ (List.mem_of_getElem? (i := 14) rfl))) Via.refl e6 c8 (g := (mkF m 20 #[.val (.ref o0), .val (.int p1)] [(.ref o0)])) rfl rfl (hb hby d3_20)
  refine own_thr (a := T9.setTop (mkF m 23 #[.val (.ref o0), .val (.int p1)] [(.int la)])) (fun t kt => st9 t kt) ?_
  refine own_thr (a := T9.setTop (mkF m 36 #[.val (.ref o0), .val (.int p1)] [(.ref o0)])) (fun t kt => ?_) ?_
  · show Steps p.tables e below (T9.setTop (mkF m 23 #[.val (.ref o0), .val (.int p1)] [(.int la)])) _
    refine XS.iconst X9.here hx rfl (hb hby d3_23) ?_
    refine XS.icmpYes X9.here hx rfl (pc0 := 24) (pc' := 35) rfl (hb hby d3_24) rfl (feq (own_ge0 hla0)).2 (by decide) (by decide) ?_
    refine XS.aloadN X9.here hx rfl (hb hby d3_35) rfl rfl ?_
    exact kt
  have c10 := ((F_after_o0.other W3 (Or.inl ne_o0_B)).other W6 (Or.inl ne_o0_A))
  obtain ⟨T11, X11, e11, st11⟩ := getF X9 hx hZ hown (host := "") (Or.inl (hw _ (List.mem_of_getElem? (i := 18) rfl))) Via.refl e9 c10 (g := (mkF m 36 #[.val (.ref o0), .val (.int p1)] [(.ref o0)])) rfl rfl (hb hby d3_36)
  refine own_thr (a := T11.setTop (mkF m 39 #[.val (.ref o0), .val (.int p1)] [(.ref A)])) (fun t kt => st11 t kt) ?_
  refine own_thr (a := T11.setTop (mkF m 40 #[.val (.ref o0), .val (.int p1)] [(.ref o0), (.ref A)])) (fun t kt => ?_) ?_
  · show Steps p.tables e below (T11.setTop (mkF m 39 #[.val (.ref o0), .val (.int p1)] [(.ref A)])) _
    refine XS.aloadN X11.here hx rfl (hb hby d3_39) rfl rfl ?_
    exact kt
  obtain ⟨T12, X12, e12, st12⟩ := getF X11 hx hZ hown (host := "") (Or.inl (hw _ (List.mem_of_getElem? (i := 14) rfl))) Via.refl e11 c8 (g := (mkF m 40 #[.val (.ref o0), .val (.int p1)] [(.ref o0), (.ref A)])) rfl rfl (hb hby d3_40)
  refine own_thr (a := T12.setTop (mkF m 43 #[.val (.ref o0), .val (.int p1)] [(.int la), (.ref A)])) (fun t kt => st12 t kt) ?_
  refine own_thr (a := T12.setTop (mkF m 46 #[.val (.ref o0), .val (.int p1)] [(.int (p1 + (1 : Int32))), (.int la), (.ref A)])) (fun t kt => ?_) ?_
  · show Steps p.tables e below (T12.setTop (mkF m 43 #[.val (.ref o0), .val (.int p1)] [(.int la), (.ref A)])) _
    refine XS.iloadN X12.here hx rfl (hb hby d3_43) rfl ?_
    refine XS.iconst X12.here hx rfl (hb hby d3_44) ?_
    refine XS.iadd X12.here hx rfl (hb hby d3_45) rfl ?_
    exact kt
  obtain ⟨cl13, Ar13, S13, M13, H13⟩ := id V6
  have hin13 : ¬ (la < 0 ∨ cl13.slots.size ≤ (la).toNatClampNeg) := inb_of S13 ⟨hla0, hla1⟩
  obtain ⟨T13, h13, X13, e13, W13, st13⟩ := stI X12 hx hZ e12 Ar13 (j := la) hin13 (g := (mkF m 46 #[.val (.ref o0), .val (.int p1)] [(.int (p1 + (1 : Int32))), (.int la), (.ref A)])) rfl rfl (hb hby d3_46)
  have Z14 : n0 ≤ h13.size := Nat.le_trans Z7 (Nat.le_of_eq W13.size.symm)
  have Z14h : h0.size ≤ h13.size := Nat.le_trans Z7h (Nat.le_of_eq W13.size.symm)
  have V13 : own_AF Z h13 A n (own_up (own_up xA p1 (0 : Int32)) la (p1 + (1 : Int32))) := own_AF.set Ar13 S13 M13 H13 hin13 W13
  obtain ⟨lc13, X13, N13⟩ := own_pack1 X13 N6 g_A
  refine own_thr (a := T13.setTop (mkF m 47 #[.val (.ref o0), .val (.int p1)] [])) (fun t kt => st13 t kt) ?_
  refine own_thr (a := T13.setTop (mkF m 49 #[.val (.ref o0), .val (.int p1)] [(.int p1), (.ref o0)])) (fun t kt => ?_) ?_
  · show Steps p.tables e below (T13.setTop (mkF m 47 #[.val (.ref o0), .val (.int p1)] [])) _
    refine XS.aloadN X13.here hx rfl (hb hby d3_47) rfl rfl ?_
    refine XS.iloadN X13.here hx rfl (hb hby d3_48) rfl ?_
    exact kt
  obtain ⟨T15, h15, X15, e15, W15, st15⟩ := putF X13 hx hZ hown (host := "") (Or.inl (hw _ (List.mem_of_getElem? (i := 14) rfl))) Via.refl e13 (c8.other W13 (Or.inl ne_o0_A)) (((E_o0.wr W3).wr W6).wr W13) (Or.inl (hw _ (List.mem_of_getElem? (i := 15) rfl))) (hw _ (List.mem_of_getElem? (i := 4) rfl)) (ty := .int) (by decide) rfl rfl (g := (mkF m 49 #[.val (.ref o0), .val (.int p1)] [(.int p1), (.ref o0)])) rfl rfl (hb hby d3_49)
  have Fw15 := (c8.other W13 (Or.inl ne_o0_A)).same W15
  have Z16 : n0 ≤ h15.size := Nat.le_trans Z14 (Nat.le_of_eq W15.size.symm)
  have Z16h : h0.size ≤ h15.size := Nat.le_trans Z14h (Nat.le_of_eq W15.size.symm)
  obtain ⟨lc15, X15, N15⟩ := own_pack1 X15 N13 g_o0
  refine own_thr (a := T15.setTop (mkF m 52 #[.val (.ref o0), .val (.int p1)] [])) (fun t kt => st15 t kt) ?_
  have c17 := ((((F_first_o0.other W3 (Or.inl ne_o0_B)).other W6 (Or.inl ne_o0_A)).other W13 (Or.inl ne_o0_A)).other W15 (Or.inr (slot_ne (Or.inl (hw _ (List.mem_of_getElem? (i := 13) rfl))) (Or.inl (hw _ (List.mem_of_getElem? (i := 15) rfl))) (by decide) (t := .int) (t' := .int) (by decide) (by decide))))
  have c18 := ((((F_before_o0.other W3 (Or.inl ne_o0_B)).other W6 (Or.inl ne_o0_A)).other W13 (Or.inl ne_o0_A)).other W15 (Or.inr (slot_ne (Or.inl (hw _ (List.mem_of_getElem? (i := 17) rfl))) (Or.inl (hw _ (List.mem_of_getElem? (i := 15) rfl))) (by decide) (t := (.array .int)) (t' := .int) (by decide) (by decide))))
  have c19 := ((c10.other W13 (Or.inl ne_o0_A)).other W15 (Or.inr (slot_ne (Or.inl (hw _ (List.mem_of_getElem? (i := 19) rfl))) (Or.inl (hw _ (List.mem_of_getElem? (i := 15) rfl))) (by decide) (t := (.array .int)) (t' := .int) (by decide) (by decide))))
  have c20 := (((V3.other W6 ne_B_A).other W13 ne_B_A).other W15 (Ne.symm ne_o0_B))
  exact own_end X15 hlk (v := none) (fun _ => rfl) (fun fs hr => X15.returnOut hx Bd.returns (hb hby d3_52) hr) (by rw [e15]; exact ⟨rfl, N15, (((((Keep.refl h0 [o0, B, A]).wr W3 (Or.inl (List.mem_of_getElem? (i := 1) rfl))).wr W6 (Or.inl (List.mem_of_getElem? (i := 2) rfl))).wr W13 (Or.inl (List.mem_of_getElem? (i := 2) rfl))).wr W15 (Or.inl (List.mem_of_getElem? (i := 0) rfl))), ((((E_o0.wr W3).wr W6).wr W13).wr W15), c17, Fw15, c18, c19, c20, (V13.other W15 (Ne.symm ne_o0_A))⟩) (by decide : 0 ≤ _) (by decide : 0 ≤ _)
theorem own_sel {Z s : State} {a0 args : Array Value} (hZ : Z.Warmed39 s.vm) (hw : ∀ d ∈ tables_1, d.before a0 Z = true) : (Jvm.Cond.selects "dev/chainlatch/bucket/Order" (⟨"dev/chainlatch/bucket/Order", "link", "(II)V"⟩ : MethodName) (⟨"dev/chainlatch/bucket/Order", "link", "(II)V"⟩ : MethodName)).before args s = true := by
  obtain ⟨c, k, h1, h2, h3, h4, -, -⟩ := Cond.instantiable_spec (mvT (args := args) hZ (hw _ (List.mem_of_getElem? (i := 4) rfl)))
  exact selects_self_of_private h1 h2 (by simp only [Bool.or_eq_false_iff] at h4; exact h4.1) (Cond.privateMethod_at (mvP hZ (hw _ (List.mem_of_getElem? (i := 32) rfl)) (args := #[]))) (mvT hZ (hw _ (List.mem_of_getElem? (i := 31) rfl))) (by decide)
theorem d5_0 : decode prog_10_method_10_code 0 = .ok (.iload_n 1, 1) := by decide +kernel
theorem d5_1 : decode prog_10_method_10_code 1 = .ok (.iconst (-1), 1) := by decide +kernel
theorem d5_2 : decode prog_10_method_10_code 2 = .ok (.if_icmp .ne 11, 3) := by decide +kernel
theorem d5_5 : decode prog_10_method_10_code 5 = .ok (.aload_n 0, 1) := by decide +kernel
theorem d5_6 : decode prog_10_method_10_code 6 = .ok (.iload_n 2, 1) := by decide +kernel
theorem d5_7 : decode prog_10_method_10_code 7 = .ok (.putfield 9, 3) := by decide +kernel
theorem d5_10 : decode prog_10_method_10_code 10 = .ok (.goto 12, 3) := by decide +kernel
theorem d5_22 : decode prog_10_method_10_code 22 = .ok (.iload_n 2, 1) := by decide +kernel
theorem d5_23 : decode prog_10_method_10_code 23 = .ok (.iconst (-1), 1) := by decide +kernel
theorem d5_24 : decode prog_10_method_10_code 24 = .ok (.if_icmp .ne 11, 3) := by decide +kernel
theorem d5_27 : decode prog_10_method_10_code 27 = .ok (.aload_n 0, 1) := by decide +kernel
theorem d5_28 : decode prog_10_method_10_code 28 = .ok (.iload_n 1, 1) := by decide +kernel
theorem d5_29 : decode prog_10_method_10_code 29 = .ok (.putfield 15, 3) := by decide +kernel
theorem d5_32 : decode prog_10_method_10_code 32 = .ok (.goto 12, 3) := by decide +kernel
theorem d5_44 : decode prog_10_method_10_code 44 = .ok (.return_, 1) := by decide +kernel
theorem ef_rmL00 (m : MethodId) (o0 : Addr) (p1 : Int32) (p2 : Int32)  : entryFrame m #[(.ref o0), (.int p1), (.int p2)] 3 = mkF m 0 #[.val (.ref o0), .val (.int p1), .val (.int p2)] [] := by first |  (simp [entryFrame, mkF, argsToLocals, Value.category]; done) | rfl
def Q_rmL00 (Z : State) (o0 : Addr) (p1 : Int32) (p2 : Int32) (B : Addr) (A : Addr) (n : Int32) (f : Int32) (la : Int32) (xB : Int32 → Int32) (xA : Int32 → Int32) (h0 : Heap) (n0 : Nat) (v : Option Value) (h : Heap) (L : List Loc) : Prop := v = none ∧ Fr n0 L ∧ Keep h0 h [o0, B, A] ∧ Exa Z h o0 "dev/chainlatch/bucket/Order" ∧ Fld Z h o0 "dev/chainlatch/bucket/Order" "first" "I" (.int p2) ∧ Fld Z h o0 "dev/chainlatch/bucket/Order" "last" "I" (.int p1) ∧ Fld Z h o0 "dev/chainlatch/bucket/Order" "before" "[I" (.ref B) ∧ Fld Z h o0 "dev/chainlatch/bucket/Order" "after" "[I" (.ref A) ∧ own_AF Z h B n xB ∧ own_AF Z h A n xA
set_option maxRecDepth 65536 in
set_option maxHeartbeats 40000000 in
theorem rmL00 (l : Launch) (Z : State) (a0 : Array Value) (hw : ∀ d ∈ tables_1, d.before a0 Z = true) (ws : List Jvm.Cond) (o0 : Addr) (p1 : Int32) (p2 : Int32) (B : Addr) (A : Addr) (n : Int32) (f : Int32) (la : Int32) (xB : Int32 → Int32) (xA : Int32 → Int32) (h0 : Heap) (n0 : Nat) (Z0 : n0 ≤ h0.size) (E_o0 : Exa Z h0 o0 "dev/chainlatch/bucket/Order") (F_first_o0 : Fld Z h0 o0 "dev/chainlatch/bucket/Order" "first" "I" (.int f)) (F_last_o0 : Fld Z h0 o0 "dev/chainlatch/bucket/Order" "last" "I" (.int la)) (F_before_o0 : Fld Z h0 o0 "dev/chainlatch/bucket/Order" "before" "[I" (.ref B)) (F_after_o0 : Fld Z h0 o0 "dev/chainlatch/bucket/Order" "after" "[I" (.ref A)) (V_B : own_AF Z h0 B n xB) (V_A : own_AF Z h0 A n xA) (g_o0 : n0 ≤ o0) (g_B : n0 ≤ B) (g_A : n0 ≤ A) (ne_o0_B : o0 ≠ B) (ne_o0_A : o0 ≠ A) (ne_B_A : B ≠ A) (hp : p1 = (-1 : Int32)) (hq : p2 = (-1 : Int32)) :
    MetFree l (⟨"dev/chainlatch/bucket/Order", "link", "(II)V"⟩ : MethodName) (head1 (Jvm.Cond.code (⟨"dev/chainlatch/bucket/Order", "link", "(II)V"⟩ : MethodName) prog_10_method_10_code 3 none :: ws) ({ frames := 0, cells := 0, slots := 0, locals := 0 } : Room)) (fun a U => a = #[(.ref o0), (.int p1), (.int p2)] ∧ Z.Warmed39 U.vm ∧ U.heap = h0) (fun _ _ _ _ _ => True) (fun _ U o U' => ∃ v L, o = .returned v ∧ Q_rmL00 Z o0 p1 p2 B A n f la xB xA h0 n0 v U'.heap L ∧ FrameEnd U o U' L ({ frames := 0, cells := 0, slots := 0, locals := 0 } : Room).cells ({ frames := 0, cells := 0, slots := 0, locals := 0 } : Room).slots) := by
  refine MetFree.of_bodySF (plainFor_of_name pn_dev_chainlatch_bucket_Order) hisR ?_
  intro p e s m args below meth c s₁ Bd hml0 hP hK
  obtain ⟨rfl, hZ, hh⟩ := hP
  have hx := Bd.exec
  have hby := Bd.bytes
  have hml : c.maxLocals = 3 := hml0
  have hown : s.vm.findClass "dev/chainlatch/bucket/Order" = some m.cls := findClass_of_methodNamed Bd.named
  have hnm := (name_of_methodNamed Bd.named Bd.method).1
  have hlk := Bd.notSynchronized
  have X0 : Stand p l e ({ frames := 0, cells := 0, slots := 0, locals := 0 } : Room) s m #[(.ref o0), (.int p1), (.int p2)] below meth c s₁ [] 0 0 := Stand.of_body Bd
  have e0 : s₁.heap = h0 := by rw [← hh, Bd.state]; rfl
  have N0 := Fr.nil n0
  show own_G p.tables e below s (Q_rmL00 Z o0 p1 p2 B A n f la xB xA h0 n0) ({ frames := 0, cells := 0, slots := 0, locals := 0 } : Room).cells ({ frames := 0, cells := 0, slots := 0, locals := 0 } : Room).slots _
  refine own_thr (a := s₁.setTop (mkF m 0 #[.val (.ref o0), .val (.int p1), .val (.int p2)] [])) (fun t kt => castTop (ef_rmL00 m o0 p1 p2) kt) ?_
  refine own_thr (a := s₁.setTop (mkF m 7 #[.val (.ref o0), .val (.int p1), .val (.int p2)] [(.int p2), (.ref o0)])) (fun t kt => ?_) ?_
  · show Steps p.tables e below (s₁.setTop (mkF m 0 #[.val (.ref o0), .val (.int p1), .val (.int p2)] [])) _
    refine XS.iloadN X0.here hx rfl (hb hby d5_0) rfl ?_
    refine XS.iconst X0.here hx rfl (hb hby d5_1) ?_
    refine XS.icmpNo X0.here hx rfl (hb hby d5_2) rfl (teq hp).2 ?_
    refine XS.aloadN X0.here hx rfl (hb hby d5_5) rfl rfl ?_
    refine XS.iloadN X0.here hx rfl (hb hby d5_6) rfl ?_
    exact kt
  obtain ⟨T1, h1, X1, e1, W1, st1⟩ := putF X0 hx hZ hown (host := "") (Or.inl (hw _ (List.mem_of_getElem? (i := 12) rfl))) Via.refl e0 F_first_o0 E_o0 (Or.inl (hw _ (List.mem_of_getElem? (i := 13) rfl))) (hw _ (List.mem_of_getElem? (i := 4) rfl)) (ty := .int) (by decide) rfl rfl (g := (mkF m 7 #[.val (.ref o0), .val (.int p1), .val (.int p2)] [(.int p2), (.ref o0)])) rfl rfl (hb hby d5_7)
  have Fw1 := F_first_o0.same W1
  have Z2 : n0 ≤ h1.size := Nat.le_trans Z0 (Nat.le_of_eq W1.size.symm)
  have Z2h : h0.size ≤ h1.size := Nat.le_trans (Nat.le_refl h0.size) (Nat.le_of_eq W1.size.symm)
  obtain ⟨lc1, X1, N1⟩ := own_pack1 X1 N0 g_o0
  refine own_thr (a := T1.setTop (mkF m 10 #[.val (.ref o0), .val (.int p1), .val (.int p2)] [])) (fun t kt => st1 t kt) ?_
  refine own_thr (a := T1.setTop (mkF m 29 #[.val (.ref o0), .val (.int p1), .val (.int p2)] [(.int p1), (.ref o0)])) (fun t kt => ?_) ?_
  · show Steps p.tables e below (T1.setTop (mkF m 10 #[.val (.ref o0), .val (.int p1), .val (.int p2)] [])) _
    refine XS.goto X1.here hx rfl (pc0 := 10) (pc' := 22) rfl (hb hby d5_10) (by decide) (by decide) ?_
    refine XS.iloadN X1.here hx rfl (hb hby d5_22) rfl ?_
    refine XS.iconst X1.here hx rfl (hb hby d5_23) ?_
    refine XS.icmpNo X1.here hx rfl (hb hby d5_24) rfl (teq hq).2 ?_
    refine XS.aloadN X1.here hx rfl (hb hby d5_27) rfl rfl ?_
    refine XS.iloadN X1.here hx rfl (hb hby d5_28) rfl ?_
    exact kt
  have c3 := (F_last_o0.other W1 (Or.inr (slot_ne (Or.inl (hw _ (List.mem_of_getElem? (i := 15) rfl))) (Or.inl (hw _ (List.mem_of_getElem? (i := 13) rfl))) (by decide) (t := .int) (t' := .int) (by decide) (by decide))))
  obtain ⟨T4, h4, X4, e4, W4, st4⟩ := putF X1 hx hZ hown (host := "") (Or.inl (hw _ (List.mem_of_getElem? (i := 14) rfl))) Via.refl e1 c3 (E_o0.wr W1) (Or.inl (hw _ (List.mem_of_getElem? (i := 15) rfl))) (hw _ (List.mem_of_getElem? (i := 4) rfl)) (ty := .int) (by decide) rfl rfl (g := (mkF m 29 #[.val (.ref o0), .val (.int p1), .val (.int p2)] [(.int p1), (.ref o0)])) rfl rfl (hb hby d5_29)
  have Fw4 := c3.same W4
  have Z5 : n0 ≤ h4.size := Nat.le_trans Z2 (Nat.le_of_eq W4.size.symm)
  have Z5h : h0.size ≤ h4.size := Nat.le_trans Z2h (Nat.le_of_eq W4.size.symm)
  obtain ⟨lc4, X4, N4⟩ := own_pack1 X4 N1 g_o0
  refine own_thr (a := T4.setTop (mkF m 32 #[.val (.ref o0), .val (.int p1), .val (.int p2)] [])) (fun t kt => st4 t kt) ?_
  refine own_thr (a := T4.setTop (mkF m 44 #[.val (.ref o0), .val (.int p1), .val (.int p2)] [])) (fun t kt => ?_) ?_
  · show Steps p.tables e below (T4.setTop (mkF m 32 #[.val (.ref o0), .val (.int p1), .val (.int p2)] [])) _
    refine XS.goto X4.here hx rfl (pc0 := 32) (pc' := 44) rfl (hb hby d5_32) (by decide) (by decide) ?_
    exact kt
  have c6 := (Fw1.other W4 (Or.inr (slot_ne (Or.inl (hw _ (List.mem_of_getElem? (i := 13) rfl))) (Or.inl (hw _ (List.mem_of_getElem? (i := 15) rfl))) (by decide) (t := .int) (t' := .int) (by decide) (by decide))))
  have c7 := ((F_before_o0.other W1 (Or.inr (slot_ne (Or.inl (hw _ (List.mem_of_getElem? (i := 17) rfl))) (Or.inl (hw _ (List.mem_of_getElem? (i := 13) rfl))) (by decide) (t := (.array .int)) (t' := .int) (by decide) (by decide)))).other W4 (Or.inr (slot_ne (Or.inl (hw _ (List.mem_of_getElem? (i := 17) rfl))) (Or.inl (hw _ (List.mem_of_getElem? (i := 15) rfl))) (by decide) (t := (.array .int)) (t' := .int) (by decide) (by decide))))
  have c8 := ((F_after_o0.other W1 (Or.inr (slot_ne (Or.inl (hw _ (List.mem_of_getElem? (i := 19) rfl))) (Or.inl (hw _ (List.mem_of_getElem? (i := 13) rfl))) (by decide) (t := (.array .int)) (t' := .int) (by decide) (by decide)))).other W4 (Or.inr (slot_ne (Or.inl (hw _ (List.mem_of_getElem? (i := 19) rfl))) (Or.inl (hw _ (List.mem_of_getElem? (i := 15) rfl))) (by decide) (t := (.array .int)) (t' := .int) (by decide) (by decide))))
  have c9 := ((V_B.other W1 (Ne.symm ne_o0_B)).other W4 (Ne.symm ne_o0_B))
  have c10 := ((V_A.other W1 (Ne.symm ne_o0_A)).other W4 (Ne.symm ne_o0_A))
  exact own_end X4 hlk (v := none) (fun _ => rfl) (fun fs hr => X4.returnOut hx Bd.returns (hb hby d5_44) hr) (by rw [e4]; exact ⟨rfl, N4, (((Keep.refl h0 [o0, B, A]).wr W1 (Or.inl (List.mem_of_getElem? (i := 0) rfl))).wr W4 (Or.inl (List.mem_of_getElem? (i := 0) rfl))), ((E_o0.wr W1).wr W4), c6, Fw4, c7, c8, c9, c10⟩) (by decide : 0 ≤ _) (by decide : 0 ≤ _)
theorem d5_35 : decode prog_10_method_10_code 35 = .ok (.aload_n 0, 1) := by decide +kernel
theorem d5_36 : decode prog_10_method_10_code 36 = .ok (.getfield 18, 3) := by decide +kernel
theorem d5_39 : decode prog_10_method_10_code 39 = .ok (.iload_n 2, 1) := by decide +kernel
theorem d5_40 : decode prog_10_method_10_code 40 = .ok (.iload_n 1, 1) := by decide +kernel
theorem d5_41 : decode prog_10_method_10_code 41 = .ok (.iconst 1, 1) := by decide +kernel
theorem d5_42 : decode prog_10_method_10_code 42 = .ok (.iadd, 1) := by decide +kernel
theorem d5_43 : decode prog_10_method_10_code 43 = .ok (.iastore, 1) := by decide +kernel
theorem ef_rmL01 (m : MethodId) (o0 : Addr) (p1 : Int32) (p2 : Int32)  : entryFrame m #[(.ref o0), (.int p1), (.int p2)] 3 = mkF m 0 #[.val (.ref o0), .val (.int p1), .val (.int p2)] [] := by first |  (simp [entryFrame, mkF, argsToLocals, Value.category]; done) | rfl
def Q_rmL01 (Z : State) (o0 : Addr) (p1 : Int32) (p2 : Int32) (B : Addr) (A : Addr) (n : Int32) (f : Int32) (la : Int32) (xB : Int32 → Int32) (xA : Int32 → Int32) (h0 : Heap) (n0 : Nat) (v : Option Value) (h : Heap) (L : List Loc) : Prop := v = none ∧ Fr n0 L ∧ Keep h0 h [o0, B, A] ∧ Exa Z h o0 "dev/chainlatch/bucket/Order" ∧ Fld Z h o0 "dev/chainlatch/bucket/Order" "first" "I" (.int p2) ∧ Fld Z h o0 "dev/chainlatch/bucket/Order" "last" "I" (.int la) ∧ Fld Z h o0 "dev/chainlatch/bucket/Order" "before" "[I" (.ref B) ∧ Fld Z h o0 "dev/chainlatch/bucket/Order" "after" "[I" (.ref A) ∧ own_AF Z h B n (own_up xB p2 (p1 + (1 : Int32))) ∧ own_AF Z h A n xA
set_option maxRecDepth 65536 in
set_option maxHeartbeats 40000000 in
theorem rmL01 (l : Launch) (Z : State) (a0 : Array Value) (hw : ∀ d ∈ tables_1, d.before a0 Z = true) (ws : List Jvm.Cond) (o0 : Addr) (p1 : Int32) (p2 : Int32) (B : Addr) (A : Addr) (n : Int32) (f : Int32) (la : Int32) (xB : Int32 → Int32) (xA : Int32 → Int32) (h0 : Heap) (n0 : Nat) (Z0 : n0 ≤ h0.size) (E_o0 : Exa Z h0 o0 "dev/chainlatch/bucket/Order") (F_first_o0 : Fld Z h0 o0 "dev/chainlatch/bucket/Order" "first" "I" (.int f)) (F_last_o0 : Fld Z h0 o0 "dev/chainlatch/bucket/Order" "last" "I" (.int la)) (F_before_o0 : Fld Z h0 o0 "dev/chainlatch/bucket/Order" "before" "[I" (.ref B)) (F_after_o0 : Fld Z h0 o0 "dev/chainlatch/bucket/Order" "after" "[I" (.ref A)) (V_B : own_AF Z h0 B n xB) (V_A : own_AF Z h0 A n xA) (g_o0 : n0 ≤ o0) (g_B : n0 ≤ B) (g_A : n0 ≤ A) (ne_o0_B : o0 ≠ B) (ne_o0_A : o0 ≠ A) (ne_B_A : B ≠ A) (hp : p1 = (-1 : Int32)) (hp20 : ¬ p2 < 0) (hp21 : p2 < n) :
    MetFree l (⟨"dev/chainlatch/bucket/Order", "link", "(II)V"⟩ : MethodName) (head1 (Jvm.Cond.code (⟨"dev/chainlatch/bucket/Order", "link", "(II)V"⟩ : MethodName) prog_10_method_10_code 3 none :: ws) ({ frames := 0, cells := 0, slots := 0, locals := 0 } : Room)) (fun a U => a = #[(.ref o0), (.int p1), (.int p2)] ∧ Z.Warmed39 U.vm ∧ U.heap = h0) (fun _ _ _ _ _ => True) (fun _ U o U' => ∃ v L, o = .returned v ∧ Q_rmL01 Z o0 p1 p2 B A n f la xB xA h0 n0 v U'.heap L ∧ FrameEnd U o U' L ({ frames := 0, cells := 0, slots := 0, locals := 0 } : Room).cells ({ frames := 0, cells := 0, slots := 0, locals := 0 } : Room).slots) := by
  refine MetFree.of_bodySF (plainFor_of_name pn_dev_chainlatch_bucket_Order) hisR ?_
  intro p e s m args below meth c s₁ Bd hml0 hP hK
  obtain ⟨rfl, hZ, hh⟩ := hP
  have hx := Bd.exec
  have hby := Bd.bytes
  have hml : c.maxLocals = 3 := hml0
  have hown : s.vm.findClass "dev/chainlatch/bucket/Order" = some m.cls := findClass_of_methodNamed Bd.named
  have hnm := (name_of_methodNamed Bd.named Bd.method).1
  have hlk := Bd.notSynchronized
  have X0 : Stand p l e ({ frames := 0, cells := 0, slots := 0, locals := 0 } : Room) s m #[(.ref o0), (.int p1), (.int p2)] below meth c s₁ [] 0 0 := Stand.of_body Bd
  have e0 : s₁.heap = h0 := by rw [← hh, Bd.state]; rfl
  have N0 := Fr.nil n0
  show own_G p.tables e below s (Q_rmL01 Z o0 p1 p2 B A n f la xB xA h0 n0) ({ frames := 0, cells := 0, slots := 0, locals := 0 } : Room).cells ({ frames := 0, cells := 0, slots := 0, locals := 0 } : Room).slots _
  refine own_thr (a := s₁.setTop (mkF m 0 #[.val (.ref o0), .val (.int p1), .val (.int p2)] [])) (fun t kt => castTop (ef_rmL01 m o0 p1 p2) kt) ?_
  refine own_thr (a := s₁.setTop (mkF m 7 #[.val (.ref o0), .val (.int p1), .val (.int p2)] [(.int p2), (.ref o0)])) (fun t kt => ?_) ?_
  · show Steps p.tables e below (s₁.setTop (mkF m 0 #[.val (.ref o0), .val (.int p1), .val (.int p2)] [])) _
    refine XS.iloadN X0.here hx rfl (hb hby d5_0) rfl ?_
    refine XS.iconst X0.here hx rfl (hb hby d5_1) ?_
    refine XS.icmpNo X0.here hx rfl (hb hby d5_2) rfl (teq hp).2 ?_
    refine XS.aloadN X0.here hx rfl (hb hby d5_5) rfl rfl ?_
    refine XS.iloadN X0.here hx rfl (hb hby d5_6) rfl ?_
    exact kt
  obtain ⟨T1, h1, X1, e1, W1, st1⟩ := putF X0 hx hZ hown (host := "") (Or.inl (hw _ (List.mem_of_getElem? (i := 12) rfl))) Via.refl e0 F_first_o0 E_o0 (Or.inl (hw _ (List.mem_of_getElem? (i := 13) rfl))) (hw _ (List.mem_of_getElem? (i := 4) rfl)) (ty := .int) (by decide) rfl rfl (g := (mkF m 7 #[.val (.ref o0), .val (.int p1), .val (.int p2)] [(.int p2), (.ref o0)])) rfl rfl (hb hby d5_7)
  have Fw1 := F_first_o0.same W1
  have Z2 : n0 ≤ h1.size := Nat.le_trans Z0 (Nat.le_of_eq W1.size.symm)
  have Z2h : h0.size ≤ h1.size := Nat.le_trans (Nat.le_refl h0.size) (Nat.le_of_eq W1.size.symm)
  obtain ⟨lc1, X1, N1⟩ := own_pack1 X1 N0 g_o0
  refine own_thr (a := T1.setTop (mkF m 10 #[.val (.ref o0), .val (.int p1), .val (.int p2)] [])) (fun t kt => st1 t kt) ?_
  refine own_thr (a := T1.setTop (mkF m 36 #[.val (.ref o0), .val (.int p1), .val (.int p2)] [(.ref o0)])) (fun t kt => ?_) ?_
  · show Steps p.tables e below (T1.setTop (mkF m 10 #[.val (.ref o0), .val (.int p1), .val (.int p2)] [])) _
    refine XS.goto X1.here hx rfl (pc0 := 10) (pc' := 22) rfl (hb hby d5_10) (by decide) (by decide) ?_
    refine XS.iloadN X1.here hx rfl (hb hby d5_22) rfl ?_
    refine XS.iconst X1.here hx rfl (hb hby d5_23) ?_
    refine XS.icmpYes X1.here hx rfl (pc0 := 24) (pc' := 35) rfl (hb hby d5_24) rfl (feq (own_ge0 hp20)).2 (by decide) (by decide) ?_
    refine XS.aloadN X1.here hx rfl (hb hby d5_35) rfl rfl ?_
    exact kt
  have c3 := (F_before_o0.other W1 (Or.inr (slot_ne (Or.inl (hw _ (List.mem_of_getElem? (i := 17) rfl))) (Or.inl (hw _ (List.mem_of_getElem? (i := 13) rfl))) (by decide) (t := (.array .int)) (t' := .int) (by decide) (by decide))))
  obtain ⟨T4, X4, e4, st4⟩ := getF X1 hx hZ hown (host := "") (Or.inl (hw _ (List.mem_of_getElem? (i := 16) rfl))) Via.refl e1 c3 (g := (mkF m 36 #[.val (.ref o0), .val (.int p1), .val (.int p2)] [(.ref o0)])) rfl rfl (hb hby d5_36)
  refine own_thr (a := T4.setTop (mkF m 39 #[.val (.ref o0), .val (.int p1), .val (.int p2)] [(.ref B)])) (fun t kt => st4 t kt) ?_
  refine own_thr (a := T4.setTop (mkF m 43 #[.val (.ref o0), .val (.int p1), .val (.int p2)] [(.int (p1 + (1 : Int32))), (.int p2), (.ref B)])) (fun t kt => ?_) ?_
  · show Steps p.tables e below (T4.setTop (mkF m 39 #[.val (.ref o0), .val (.int p1), .val (.int p2)] [(.ref B)])) _
    refine XS.iloadN X4.here hx rfl (hb hby d5_39) rfl ?_
    refine XS.iloadN X4.here hx rfl (hb hby d5_40) rfl ?_
    refine XS.iconst X4.here hx rfl (hb hby d5_41) ?_
    refine XS.iadd X4.here hx rfl (hb hby d5_42) rfl ?_
    exact kt
  obtain ⟨cl5, Ar5, S5, M5, H5⟩ := id (V_B.other W1 (Ne.symm ne_o0_B))
  have hin5 : ¬ (p2 < 0 ∨ cl5.slots.size ≤ (p2).toNatClampNeg) := inb_of S5 ⟨hp20, hp21⟩
  obtain ⟨T5, h5, X5, e5, W5, st5⟩ := stI X4 hx hZ e4 Ar5 (j := p2) hin5 (g := (mkF m 43 #[.val (.ref o0), .val (.int p1), .val (.int p2)] [(.int (p1 + (1 : Int32))), (.int p2), (.ref B)])) rfl rfl (hb hby d5_43)
  have Z6 : n0 ≤ h5.size := Nat.le_trans Z2 (Nat.le_of_eq W5.size.symm)
  have Z6h : h0.size ≤ h5.size := Nat.le_trans Z2h (Nat.le_of_eq W5.size.symm)
  have V5 : own_AF Z h5 B n (own_up xB p2 (p1 + (1 : Int32))) := own_AF.set Ar5 S5 M5 H5 hin5 W5
  obtain ⟨lc5, X5, N5⟩ := own_pack1 X5 N1 g_B
  refine own_thr (a := T5.setTop (mkF m 44 #[.val (.ref o0), .val (.int p1), .val (.int p2)] [])) (fun t kt => st5 t kt) ?_
  have c7 := ((F_last_o0.other W1 (Or.inr (slot_ne (Or.inl (hw _ (List.mem_of_getElem? (i := 15) rfl))) (Or.inl (hw _ (List.mem_of_getElem? (i := 13) rfl))) (by decide) (t := .int) (t' := .int) (by decide) (by decide)))).other W5 (Or.inl ne_o0_B))
  have c8 := ((F_after_o0.other W1 (Or.inr (slot_ne (Or.inl (hw _ (List.mem_of_getElem? (i := 19) rfl))) (Or.inl (hw _ (List.mem_of_getElem? (i := 13) rfl))) (by decide) (t := (.array .int)) (t' := .int) (by decide) (by decide)))).other W5 (Or.inl ne_o0_B))
  exact own_end X5 hlk (v := none) (fun _ => rfl) (fun fs hr => X5.returnOut hx Bd.returns (hb hby d5_44) hr) (by rw [e5]; exact ⟨rfl, N5, (((Keep.refl h0 [o0, B, A]).wr W1 (Or.inl (List.mem_of_getElem? (i := 0) rfl))).wr W5 (Or.inl (List.mem_of_getElem? (i := 1) rfl))), ((E_o0.wr W1).wr W5), (Fw1.other W5 (Or.inl ne_o0_B)), c7, (c3.other W5 (Or.inl ne_o0_B)), c8, V5, ((V_A.other W1 (Ne.symm ne_o0_A)).other W5 (Ne.symm ne_B_A))⟩) (by decide : 0 ≤ _) (by decide : 0 ≤ _)
theorem d5_13 : decode prog_10_method_10_code 13 = .ok (.aload_n 0, 1) := by decide +kernel
theorem d5_14 : decode prog_10_method_10_code 14 = .ok (.getfield 22, 3) := by decide +kernel
theorem d5_17 : decode prog_10_method_10_code 17 = .ok (.iload_n 1, 1) := by decide +kernel
theorem d5_18 : decode prog_10_method_10_code 18 = .ok (.iload_n 2, 1) := by decide +kernel
theorem d5_19 : decode prog_10_method_10_code 19 = .ok (.iconst 1, 1) := by decide +kernel
theorem d5_20 : decode prog_10_method_10_code 20 = .ok (.iadd, 1) := by decide +kernel
theorem d5_21 : decode prog_10_method_10_code 21 = .ok (.iastore, 1) := by decide +kernel
theorem ef_rmL10 (m : MethodId) (o0 : Addr) (p1 : Int32) (p2 : Int32)  : entryFrame m #[(.ref o0), (.int p1), (.int p2)] 3 = mkF m 0 #[.val (.ref o0), .val (.int p1), .val (.int p2)] [] := by first |  (simp [entryFrame, mkF, argsToLocals, Value.category]; done) | rfl
def Q_rmL10 (Z : State) (o0 : Addr) (p1 : Int32) (p2 : Int32) (B : Addr) (A : Addr) (n : Int32) (f : Int32) (la : Int32) (xB : Int32 → Int32) (xA : Int32 → Int32) (h0 : Heap) (n0 : Nat) (v : Option Value) (h : Heap) (L : List Loc) : Prop := v = none ∧ Fr n0 L ∧ Keep h0 h [o0, B, A] ∧ Exa Z h o0 "dev/chainlatch/bucket/Order" ∧ Fld Z h o0 "dev/chainlatch/bucket/Order" "first" "I" (.int f) ∧ Fld Z h o0 "dev/chainlatch/bucket/Order" "last" "I" (.int p1) ∧ Fld Z h o0 "dev/chainlatch/bucket/Order" "before" "[I" (.ref B) ∧ Fld Z h o0 "dev/chainlatch/bucket/Order" "after" "[I" (.ref A) ∧ own_AF Z h B n xB ∧ own_AF Z h A n (own_up xA p1 (p2 + (1 : Int32)))
set_option maxRecDepth 65536 in
set_option maxHeartbeats 40000000 in
theorem rmL10 (l : Launch) (Z : State) (a0 : Array Value) (hw : ∀ d ∈ tables_1, d.before a0 Z = true) (ws : List Jvm.Cond) (o0 : Addr) (p1 : Int32) (p2 : Int32) (B : Addr) (A : Addr) (n : Int32) (f : Int32) (la : Int32) (xB : Int32 → Int32) (xA : Int32 → Int32) (h0 : Heap) (n0 : Nat) (Z0 : n0 ≤ h0.size) (E_o0 : Exa Z h0 o0 "dev/chainlatch/bucket/Order") (F_first_o0 : Fld Z h0 o0 "dev/chainlatch/bucket/Order" "first" "I" (.int f)) (F_last_o0 : Fld Z h0 o0 "dev/chainlatch/bucket/Order" "last" "I" (.int la)) (F_before_o0 : Fld Z h0 o0 "dev/chainlatch/bucket/Order" "before" "[I" (.ref B)) (F_after_o0 : Fld Z h0 o0 "dev/chainlatch/bucket/Order" "after" "[I" (.ref A)) (V_B : own_AF Z h0 B n xB) (V_A : own_AF Z h0 A n xA) (g_o0 : n0 ≤ o0) (g_B : n0 ≤ B) (g_A : n0 ≤ A) (ne_o0_B : o0 ≠ B) (ne_o0_A : o0 ≠ A) (ne_B_A : B ≠ A) (hp10 : ¬ p1 < 0) (hp11 : p1 < n) (hq : p2 = (-1 : Int32)) :
    MetFree l (⟨"dev/chainlatch/bucket/Order", "link", "(II)V"⟩ : MethodName) (head1 (Jvm.Cond.code (⟨"dev/chainlatch/bucket/Order", "link", "(II)V"⟩ : MethodName) prog_10_method_10_code 3 none :: ws) ({ frames := 0, cells := 0, slots := 0, locals := 0 } : Room)) (fun a U => a = #[(.ref o0), (.int p1), (.int p2)] ∧ Z.Warmed39 U.vm ∧ U.heap = h0) (fun _ _ _ _ _ => True) (fun _ U o U' => ∃ v L, o = .returned v ∧ Q_rmL10 Z o0 p1 p2 B A n f la xB xA h0 n0 v U'.heap L ∧ FrameEnd U o U' L ({ frames := 0, cells := 0, slots := 0, locals := 0 } : Room).cells ({ frames := 0, cells := 0, slots := 0, locals := 0 } : Room).slots) := by
  refine MetFree.of_bodySF (plainFor_of_name pn_dev_chainlatch_bucket_Order) hisR ?_
  intro p e s m args below meth c s₁ Bd hml0 hP hK
  obtain ⟨rfl, hZ, hh⟩ := hP
  have hx := Bd.exec
  have hby := Bd.bytes
  have hml : c.maxLocals = 3 := hml0
  have hown : s.vm.findClass "dev/chainlatch/bucket/Order" = some m.cls := findClass_of_methodNamed Bd.named
  have hnm := (name_of_methodNamed Bd.named Bd.method).1
  have hlk := Bd.notSynchronized
  have X0 : Stand p l e ({ frames := 0, cells := 0, slots := 0, locals := 0 } : Room) s m #[(.ref o0), (.int p1), (.int p2)] below meth c s₁ [] 0 0 := Stand.of_body Bd
  have e0 : s₁.heap = h0 := by rw [← hh, Bd.state]; rfl
  have N0 := Fr.nil n0
  show own_G p.tables e below s (Q_rmL10 Z o0 p1 p2 B A n f la xB xA h0 n0) ({ frames := 0, cells := 0, slots := 0, locals := 0 } : Room).cells ({ frames := 0, cells := 0, slots := 0, locals := 0 } : Room).slots _
  refine own_thr (a := s₁.setTop (mkF m 0 #[.val (.ref o0), .val (.int p1), .val (.int p2)] [])) (fun t kt => castTop (ef_rmL10 m o0 p1 p2) kt) ?_
  refine own_thr (a := s₁.setTop (mkF m 14 #[.val (.ref o0), .val (.int p1), .val (.int p2)] [(.ref o0)])) (fun t kt => ?_) ?_
  · show Steps p.tables e below (s₁.setTop (mkF m 0 #[.val (.ref o0), .val (.int p1), .val (.int p2)] [])) _
    refine XS.iloadN X0.here hx rfl (hb hby d5_0) rfl ?_
    refine XS.iconst X0.here hx rfl (hb hby d5_1) ?_
    refine XS.icmpYes X0.here hx rfl (pc0 := 2) (pc' := 13) rfl (hb hby d5_2) rfl (feq (own_ge0 hp10)).2 (by decide) (by decide) ?_
    refine XS.aloadN X0.here hx rfl (hb hby d5_13) rfl rfl ?_
    exact kt
  obtain ⟨T1, X1, e1, st1⟩ := getF X0 hx hZ hown (host := "") (Or.inl (hw _ (List.mem_of_getElem? (i := 18) rfl))) Via.refl e0 F_after_o0 (g := (mkF m 14 #[.val (.ref o0), .val (.int p1), .val (.int p2)] [(.ref o0)])) rfl rfl (hb hby d5_14)
  refine own_thr (a := T1.setTop (mkF m 17 #[.val (.ref o0), .val (.int p1), .val (.int p2)] [(.ref A)])) (fun t kt => st1 t kt) ?_
  refine own_thr (a := T1.setTop (mkF m 21 #[.val (.ref o0), .val (.int p1), .val (.int p2)] [(.int (p2 + (1 : Int32))), (.int p1), (.ref A)])) (fun t kt => ?_) ?_
  · show Steps p.tables e below (T1.setTop (mkF m 17 #[.val (.ref o0), .val (.int p1), .val (.int p2)] [(.ref A)])) _
    refine XS.iloadN X1.here hx rfl (hb hby d5_17) rfl ?_
    refine XS.iloadN X1.here hx rfl (hb hby d5_18) rfl ?_
    refine XS.iconst X1.here hx rfl (hb hby d5_19) ?_
    refine XS.iadd X1.here hx rfl (hb hby d5_20) rfl ?_
    exact kt
  obtain ⟨cl2, Ar2, S2, M2, H2⟩ := id V_A
  have hin2 : ¬ (p1 < 0 ∨ cl2.slots.size ≤ (p1).toNatClampNeg) := inb_of S2 ⟨hp10, hp11⟩
  obtain ⟨T2, h2, X2, e2, W2, st2⟩ := stI X1 hx hZ e1 Ar2 (j := p1) hin2 (g := (mkF m 21 #[.val (.ref o0), .val (.int p1), .val (.int p2)] [(.int (p2 + (1 : Int32))), (.int p1), (.ref A)])) rfl rfl (hb hby d5_21)
  have Z3 : n0 ≤ h2.size := Nat.le_trans Z0 (Nat.le_of_eq W2.size.symm)
  have Z3h : h0.size ≤ h2.size := Nat.le_trans (Nat.le_refl h0.size) (Nat.le_of_eq W2.size.symm)
  have V2 : own_AF Z h2 A n (own_up xA p1 (p2 + (1 : Int32))) := own_AF.set Ar2 S2 M2 H2 hin2 W2
  obtain ⟨lc2, X2, N2⟩ := own_pack1 X2 N0 g_A
  refine own_thr (a := T2.setTop (mkF m 22 #[.val (.ref o0), .val (.int p1), .val (.int p2)] [])) (fun t kt => st2 t kt) ?_
  refine own_thr (a := T2.setTop (mkF m 29 #[.val (.ref o0), .val (.int p1), .val (.int p2)] [(.int p1), (.ref o0)])) (fun t kt => ?_) ?_
  · show Steps p.tables e below (T2.setTop (mkF m 22 #[.val (.ref o0), .val (.int p1), .val (.int p2)] [])) _
    refine XS.iloadN X2.here hx rfl (hb hby d5_22) rfl ?_
    refine XS.iconst X2.here hx rfl (hb hby d5_23) ?_
    refine XS.icmpNo X2.here hx rfl (hb hby d5_24) rfl (teq hq).2 ?_
    refine XS.aloadN X2.here hx rfl (hb hby d5_27) rfl rfl ?_
    refine XS.iloadN X2.here hx rfl (hb hby d5_28) rfl ?_
    exact kt
  obtain ⟨T4, h4, X4, e4, W4, st4⟩ := putF X2 hx hZ hown (host := "") (Or.inl (hw _ (List.mem_of_getElem? (i := 14) rfl))) Via.refl e2 (F_last_o0.other W2 (Or.inl ne_o0_A)) (E_o0.wr W2) (Or.inl (hw _ (List.mem_of_getElem? (i := 15) rfl))) (hw _ (List.mem_of_getElem? (i := 4) rfl)) (ty := .int) (by decide) rfl rfl (g := (mkF m 29 #[.val (.ref o0), .val (.int p1), .val (.int p2)] [(.int p1), (.ref o0)])) rfl rfl (hb hby d5_29)
  have Fw4 := (F_last_o0.other W2 (Or.inl ne_o0_A)).same W4
  have Z5 : n0 ≤ h4.size := Nat.le_trans Z3 (Nat.le_of_eq W4.size.symm)
  have Z5h : h0.size ≤ h4.size := Nat.le_trans Z3h (Nat.le_of_eq W4.size.symm)
  obtain ⟨lc4, X4, N4⟩ := own_pack1 X4 N2 g_o0
  refine own_thr (a := T4.setTop (mkF m 32 #[.val (.ref o0), .val (.int p1), .val (.int p2)] [])) (fun t kt => st4 t kt) ?_
  refine own_thr (a := T4.setTop (mkF m 44 #[.val (.ref o0), .val (.int p1), .val (.int p2)] [])) (fun t kt => ?_) ?_
  · show Steps p.tables e below (T4.setTop (mkF m 32 #[.val (.ref o0), .val (.int p1), .val (.int p2)] [])) _
    refine XS.goto X4.here hx rfl (pc0 := 32) (pc' := 44) rfl (hb hby d5_32) (by decide) (by decide) ?_
    exact kt
  have c6 := ((F_first_o0.other W2 (Or.inl ne_o0_A)).other W4 (Or.inr (slot_ne (Or.inl (hw _ (List.mem_of_getElem? (i := 13) rfl))) (Or.inl (hw _ (List.mem_of_getElem? (i := 15) rfl))) (by decide) (t := .int) (t' := .int) (by decide) (by decide))))
  have c7 := ((F_before_o0.other W2 (Or.inl ne_o0_A)).other W4 (Or.inr (slot_ne (Or.inl (hw _ (List.mem_of_getElem? (i := 17) rfl))) (Or.inl (hw _ (List.mem_of_getElem? (i := 15) rfl))) (by decide) (t := (.array .int)) (t' := .int) (by decide) (by decide))))
  have c8 := ((F_after_o0.other W2 (Or.inl ne_o0_A)).other W4 (Or.inr (slot_ne (Or.inl (hw _ (List.mem_of_getElem? (i := 19) rfl))) (Or.inl (hw _ (List.mem_of_getElem? (i := 15) rfl))) (by decide) (t := (.array .int)) (t' := .int) (by decide) (by decide))))
  exact own_end X4 hlk (v := none) (fun _ => rfl) (fun fs hr => X4.returnOut hx Bd.returns (hb hby d5_44) hr) (by rw [e4]; exact ⟨rfl, N4, (((Keep.refl h0 [o0, B, A]).wr W2 (Or.inl (List.mem_of_getElem? (i := 2) rfl))).wr W4 (Or.inl (List.mem_of_getElem? (i := 0) rfl))), ((E_o0.wr W2).wr W4), c6, Fw4, c7, c8, ((V_B.other W2 ne_B_A).other W4 (Ne.symm ne_o0_B)), (V2.other W4 (Ne.symm ne_o0_A))⟩) (by decide : 0 ≤ _) (by decide : 0 ≤ _)
theorem ef_rmL11 (m : MethodId) (o0 : Addr) (p1 : Int32) (p2 : Int32)  : entryFrame m #[(.ref o0), (.int p1), (.int p2)] 3 = mkF m 0 #[.val (.ref o0), .val (.int p1), .val (.int p2)] [] := by first |  (simp [entryFrame, mkF, argsToLocals, Value.category]; done) | rfl
def Q_rmL11 (Z : State) (o0 : Addr) (p1 : Int32) (p2 : Int32) (B : Addr) (A : Addr) (n : Int32) (f : Int32) (la : Int32) (xB : Int32 → Int32) (xA : Int32 → Int32) (h0 : Heap) (n0 : Nat) (v : Option Value) (h : Heap) (L : List Loc) : Prop := v = none ∧ Fr n0 L ∧ Keep h0 h [o0, B, A] ∧ Exa Z h o0 "dev/chainlatch/bucket/Order" ∧ Fld Z h o0 "dev/chainlatch/bucket/Order" "first" "I" (.int f) ∧ Fld Z h o0 "dev/chainlatch/bucket/Order" "last" "I" (.int la) ∧ Fld Z h o0 "dev/chainlatch/bucket/Order" "before" "[I" (.ref B) ∧ Fld Z h o0 "dev/chainlatch/bucket/Order" "after" "[I" (.ref A) ∧ own_AF Z h B n (own_up xB p2 (p1 + (1 : Int32))) ∧ own_AF Z h A n (own_up xA p1 (p2 + (1 : Int32)))
set_option maxRecDepth 65536 in
set_option maxHeartbeats 40000000 in
theorem rmL11 (l : Launch) (Z : State) (a0 : Array Value) (hw : ∀ d ∈ tables_1, d.before a0 Z = true) (ws : List Jvm.Cond) (o0 : Addr) (p1 : Int32) (p2 : Int32) (B : Addr) (A : Addr) (n : Int32) (f : Int32) (la : Int32) (xB : Int32 → Int32) (xA : Int32 → Int32) (h0 : Heap) (n0 : Nat) (Z0 : n0 ≤ h0.size) (E_o0 : Exa Z h0 o0 "dev/chainlatch/bucket/Order") (F_first_o0 : Fld Z h0 o0 "dev/chainlatch/bucket/Order" "first" "I" (.int f)) (F_last_o0 : Fld Z h0 o0 "dev/chainlatch/bucket/Order" "last" "I" (.int la)) (F_before_o0 : Fld Z h0 o0 "dev/chainlatch/bucket/Order" "before" "[I" (.ref B)) (F_after_o0 : Fld Z h0 o0 "dev/chainlatch/bucket/Order" "after" "[I" (.ref A)) (V_B : own_AF Z h0 B n xB) (V_A : own_AF Z h0 A n xA) (g_o0 : n0 ≤ o0) (g_B : n0 ≤ B) (g_A : n0 ≤ A) (ne_o0_B : o0 ≠ B) (ne_o0_A : o0 ≠ A) (ne_B_A : B ≠ A) (hp10 : ¬ p1 < 0) (hp11 : p1 < n) (hp20 : ¬ p2 < 0) (hp21 : p2 < n) :
    MetFree l (⟨"dev/chainlatch/bucket/Order", "link", "(II)V"⟩ : MethodName) (head1 (Jvm.Cond.code (⟨"dev/chainlatch/bucket/Order", "link", "(II)V"⟩ : MethodName) prog_10_method_10_code 3 none :: ws) ({ frames := 0, cells := 0, slots := 0, locals := 0 } : Room)) (fun a U => a = #[(.ref o0), (.int p1), (.int p2)] ∧ Z.Warmed39 U.vm ∧ U.heap = h0) (fun _ _ _ _ _ => True) (fun _ U o U' => ∃ v L, o = .returned v ∧ Q_rmL11 Z o0 p1 p2 B A n f la xB xA h0 n0 v U'.heap L ∧ FrameEnd U o U' L ({ frames := 0, cells := 0, slots := 0, locals := 0 } : Room).cells ({ frames := 0, cells := 0, slots := 0, locals := 0 } : Room).slots) := by
  refine MetFree.of_bodySF (plainFor_of_name pn_dev_chainlatch_bucket_Order) hisR ?_
  intro p e s m args below meth c s₁ Bd hml0 hP hK
  obtain ⟨rfl, hZ, hh⟩ := hP
  have hx := Bd.exec
  have hby := Bd.bytes
  have hml : c.maxLocals = 3 := hml0
  have hown : s.vm.findClass "dev/chainlatch/bucket/Order" = some m.cls := findClass_of_methodNamed Bd.named
  have hnm := (name_of_methodNamed Bd.named Bd.method).1
  have hlk := Bd.notSynchronized
  have X0 : Stand p l e ({ frames := 0, cells := 0, slots := 0, locals := 0 } : Room) s m #[(.ref o0), (.int p1), (.int p2)] below meth c s₁ [] 0 0 := Stand.of_body Bd
  have e0 : s₁.heap = h0 := by rw [← hh, Bd.state]; rfl
  have N0 := Fr.nil n0
  show own_G p.tables e below s (Q_rmL11 Z o0 p1 p2 B A n f la xB xA h0 n0) ({ frames := 0, cells := 0, slots := 0, locals := 0 } : Room).cells ({ frames := 0, cells := 0, slots := 0, locals := 0 } : Room).slots _
  refine own_thr (a := s₁.setTop (mkF m 0 #[.val (.ref o0), .val (.int p1), .val (.int p2)] [])) (fun t kt => castTop (ef_rmL11 m o0 p1 p2) kt) ?_
  refine own_thr (a := s₁.setTop (mkF m 14 #[.val (.ref o0), .val (.int p1), .val (.int p2)] [(.ref o0)])) (fun t kt => ?_) ?_
  · show Steps p.tables e below (s₁.setTop (mkF m 0 #[.val (.ref o0), .val (.int p1), .val (.int p2)] [])) _
    refine XS.iloadN X0.here hx rfl (hb hby d5_0) rfl ?_
    refine XS.iconst X0.here hx rfl (hb hby d5_1) ?_
    refine XS.icmpYes X0.here hx rfl (pc0 := 2) (pc' := 13) rfl (hb hby d5_2) rfl (feq (own_ge0 hp10)).2 (by decide) (by decide) ?_
    refine XS.aloadN X0.here hx rfl (hb hby d5_13) rfl rfl ?_
    exact kt
  obtain ⟨T1, X1, e1, st1⟩ := getF X0 hx hZ hown (host := "") (Or.inl (hw _ (List.mem_of_getElem? (i := 18) rfl))) Via.refl e0 F_after_o0 (g := (mkF m 14 #[.val (.ref o0), .val (.int p1), .val (.int p2)] [(.ref o0)])) rfl rfl (hb hby d5_14)
  refine own_thr (a := T1.setTop (mkF m 17 #[.val (.ref o0), .val (.int p1), .val (.int p2)] [(.ref A)])) (fun t kt => st1 t kt) ?_
  refine own_thr (a := T1.setTop (mkF m 21 #[.val (.ref o0), .val (.int p1), .val (.int p2)] [(.int (p2 + (1 : Int32))), (.int p1), (.ref A)])) (fun t kt => ?_) ?_
  · show Steps p.tables e below (T1.setTop (mkF m 17 #[.val (.ref o0), .val (.int p1), .val (.int p2)] [(.ref A)])) _
    refine XS.iloadN X1.here hx rfl (hb hby d5_17) rfl ?_
    refine XS.iloadN X1.here hx rfl (hb hby d5_18) rfl ?_
    refine XS.iconst X1.here hx rfl (hb hby d5_19) ?_
    refine XS.iadd X1.here hx rfl (hb hby d5_20) rfl ?_
    exact kt
  obtain ⟨cl2, Ar2, S2, M2, H2⟩ := id V_A
  have hin2 : ¬ (p1 < 0 ∨ cl2.slots.size ≤ (p1).toNatClampNeg) := inb_of S2 ⟨hp10, hp11⟩
  obtain ⟨T2, h2, X2, e2, W2, st2⟩ := stI X1 hx hZ e1 Ar2 (j := p1) hin2 (g := (mkF m 21 #[.val (.ref o0), .val (.int p1), .val (.int p2)] [(.int (p2 + (1 : Int32))), (.int p1), (.ref A)])) rfl rfl (hb hby d5_21)
  have Z3 : n0 ≤ h2.size := Nat.le_trans Z0 (Nat.le_of_eq W2.size.symm)
  have Z3h : h0.size ≤ h2.size := Nat.le_trans (Nat.le_refl h0.size) (Nat.le_of_eq W2.size.symm)
  have V2 : own_AF Z h2 A n (own_up xA p1 (p2 + (1 : Int32))) := own_AF.set Ar2 S2 M2 H2 hin2 W2
  obtain ⟨lc2, X2, N2⟩ := own_pack1 X2 N0 g_A
  refine own_thr (a := T2.setTop (mkF m 22 #[.val (.ref o0), .val (.int p1), .val (.int p2)] [])) (fun t kt => st2 t kt) ?_
  refine own_thr (a := T2.setTop (mkF m 36 #[.val (.ref o0), .val (.int p1), .val (.int p2)] [(.ref o0)])) (fun t kt => ?_) ?_
  · show Steps p.tables e below (T2.setTop (mkF m 22 #[.val (.ref o0), .val (.int p1), .val (.int p2)] [])) _
    refine XS.iloadN X2.here hx rfl (hb hby d5_22) rfl ?_
    refine XS.iconst X2.here hx rfl (hb hby d5_23) ?_
    refine XS.icmpYes X2.here hx rfl (pc0 := 24) (pc' := 35) rfl (hb hby d5_24) rfl (feq (own_ge0 hp20)).2 (by decide) (by decide) ?_
    refine XS.aloadN X2.here hx rfl (hb hby d5_35) rfl rfl ?_
    exact kt
  obtain ⟨T4, X4, e4, st4⟩ := getF X2 hx hZ hown (host := "") (Or.inl (hw _ (List.mem_of_getElem? (i := 16) rfl))) Via.refl e2 (F_before_o0.other W2 (Or.inl ne_o0_A)) (g := (mkF m 36 #[.val (.ref o0), .val (.int p1), .val (.int p2)] [(.ref o0)])) rfl rfl (hb hby d5_36)
  refine own_thr (a := T4.setTop (mkF m 39 #[.val (.ref o0), .val (.int p1), .val (.int p2)] [(.ref B)])) (fun t kt => st4 t kt) ?_
  refine own_thr (a := T4.setTop (mkF m 43 #[.val (.ref o0), .val (.int p1), .val (.int p2)] [(.int (p1 + (1 : Int32))), (.int p2), (.ref B)])) (fun t kt => ?_) ?_
  · show Steps p.tables e below (T4.setTop (mkF m 39 #[.val (.ref o0), .val (.int p1), .val (.int p2)] [(.ref B)])) _
    refine XS.iloadN X4.here hx rfl (hb hby d5_39) rfl ?_
    refine XS.iloadN X4.here hx rfl (hb hby d5_40) rfl ?_
    refine XS.iconst X4.here hx rfl (hb hby d5_41) ?_
    refine XS.iadd X4.here hx rfl (hb hby d5_42) rfl ?_
    exact kt
  obtain ⟨cl5, Ar5, S5, M5, H5⟩ := id (V_B.other W2 ne_B_A)
  have hin5 : ¬ (p2 < 0 ∨ cl5.slots.size ≤ (p2).toNatClampNeg) := inb_of S5 ⟨hp20, hp21⟩
  obtain ⟨T5, h5, X5, e5, W5, st5⟩ := stI X4 hx hZ e4 Ar5 (j := p2) hin5 (g := (mkF m 43 #[.val (.ref o0), .val (.int p1), .val (.int p2)] [(.int (p1 + (1 : Int32))), (.int p2), (.ref B)])) rfl rfl (hb hby d5_43)
  have Z6 : n0 ≤ h5.size := Nat.le_trans Z3 (Nat.le_of_eq W5.size.symm)
  have Z6h : h0.size ≤ h5.size := Nat.le_trans Z3h (Nat.le_of_eq W5.size.symm)
  have V5 : own_AF Z h5 B n (own_up xB p2 (p1 + (1 : Int32))) := own_AF.set Ar5 S5 M5 H5 hin5 W5
  obtain ⟨lc5, X5, N5⟩ := own_pack1 X5 N2 g_B
  refine own_thr (a := T5.setTop (mkF m 44 #[.val (.ref o0), .val (.int p1), .val (.int p2)] [])) (fun t kt => st5 t kt) ?_
  have c7 := ((F_first_o0.other W2 (Or.inl ne_o0_A)).other W5 (Or.inl ne_o0_B))
  have c8 := ((F_last_o0.other W2 (Or.inl ne_o0_A)).other W5 (Or.inl ne_o0_B))
  have c9 := ((F_before_o0.other W2 (Or.inl ne_o0_A)).other W5 (Or.inl ne_o0_B))
  have c10 := ((F_after_o0.other W2 (Or.inl ne_o0_A)).other W5 (Or.inl ne_o0_B))
  exact own_end X5 hlk (v := none) (fun _ => rfl) (fun fs hr => X5.returnOut hx Bd.returns (hb hby d5_44) hr) (by rw [e5]; exact ⟨rfl, N5, (((Keep.refl h0 [o0, B, A]).wr W2 (Or.inl (List.mem_of_getElem? (i := 2) rfl))).wr W5 (Or.inl (List.mem_of_getElem? (i := 1) rfl))), ((E_o0.wr W2).wr W5), c7, c8, c9, c10, V5, (V2.other W5 (Ne.symm ne_B_A))⟩) (by decide : 0 ≤ _) (by decide : 0 ≤ _)
theorem d4_0 : decode prog_10_method_6_code 0 = .ok (.aload_n 0, 1) := by decide +kernel
theorem d4_1 : decode prog_10_method_6_code 1 = .ok (.aload_n 0, 1) := by decide +kernel
theorem d4_2 : decode prog_10_method_6_code 2 = .ok (.getfield 18, 3) := by decide +kernel
theorem d4_5 : decode prog_10_method_6_code 5 = .ok (.iload_n 1, 1) := by decide +kernel
theorem d4_6 : decode prog_10_method_6_code 6 = .ok (.iaload, 1) := by decide +kernel
theorem d4_7 : decode prog_10_method_6_code 7 = .ok (.iconst 1, 1) := by decide +kernel
theorem d4_8 : decode prog_10_method_6_code 8 = .ok (.isub, 1) := by decide +kernel
theorem d4_9 : decode prog_10_method_6_code 9 = .ok (.aload_n 0, 1) := by decide +kernel
theorem d4_10 : decode prog_10_method_6_code 10 = .ok (.getfield 22, 3) := by decide +kernel
theorem d4_13 : decode prog_10_method_6_code 13 = .ok (.iload_n 1, 1) := by decide +kernel
theorem d4_14 : decode prog_10_method_6_code 14 = .ok (.iaload, 1) := by decide +kernel
theorem d4_15 : decode prog_10_method_6_code 15 = .ok (.iconst 1, 1) := by decide +kernel
theorem d4_16 : decode prog_10_method_6_code 16 = .ok (.isub, 1) := by decide +kernel
theorem pd__28II_29V : parseMethodDescriptor "(II)V" = some ⟨[.int, .int], none⟩ := by decide +kernel
theorem d4_17 : decode prog_10_method_6_code 17 = .ok (.invokevirtual 33, 3) := by decide +kernel
theorem d4_20 : decode prog_10_method_6_code 20 = .ok (.aload_n 0, 1) := by decide +kernel
theorem d4_21 : decode prog_10_method_6_code 21 = .ok (.getfield 18, 3) := by decide +kernel
theorem d4_24 : decode prog_10_method_6_code 24 = .ok (.iload_n 1, 1) := by decide +kernel
theorem d4_25 : decode prog_10_method_6_code 25 = .ok (.iconst 0, 1) := by decide +kernel
theorem d4_26 : decode prog_10_method_6_code 26 = .ok (.iastore, 1) := by decide +kernel
theorem d4_27 : decode prog_10_method_6_code 27 = .ok (.aload_n 0, 1) := by decide +kernel
theorem d4_28 : decode prog_10_method_6_code 28 = .ok (.getfield 22, 3) := by decide +kernel
theorem d4_31 : decode prog_10_method_6_code 31 = .ok (.iload_n 1, 1) := by decide +kernel
theorem d4_32 : decode prog_10_method_6_code 32 = .ok (.iconst 0, 1) := by decide +kernel
theorem d4_33 : decode prog_10_method_6_code 33 = .ok (.iastore, 1) := by decide +kernel
theorem d4_34 : decode prog_10_method_6_code 34 = .ok (.return_, 1) := by decide +kernel
theorem ef_rmR00 (m : MethodId) (o0 : Addr) (p1 : Int32)  : entryFrame m #[(.ref o0), (.int p1)] 2 = mkF m 0 #[.val (.ref o0), .val (.int p1)] [] := by first |  (simp [entryFrame, mkF, argsToLocals, Value.category]; done) | rfl
def Q_rmR00 (Z : State) (o0 : Addr) (p1 : Int32) (B : Addr) (A : Addr) (n : Int32) (f : Int32) (la : Int32) (xB : Int32 → Int32) (xA : Int32 → Int32) (h0 : Heap) (n0 : Nat) (v : Option Value) (h : Heap) (L : List Loc) : Prop := v = none ∧ Fr n0 L ∧ Keep h0 h [o0, B, A] ∧ Exa Z h o0 "dev/chainlatch/bucket/Order" ∧ Fld Z h o0 "dev/chainlatch/bucket/Order" "first" "I" (.int ((xA p1) - (1 : Int32))) ∧ Fld Z h o0 "dev/chainlatch/bucket/Order" "last" "I" (.int ((xB p1) - (1 : Int32))) ∧ Fld Z h o0 "dev/chainlatch/bucket/Order" "before" "[I" (.ref B) ∧ Fld Z h o0 "dev/chainlatch/bucket/Order" "after" "[I" (.ref A) ∧ own_AF Z h B n (own_up xB p1 (0 : Int32)) ∧ own_AF Z h A n (own_up xA p1 (0 : Int32))
set_option maxRecDepth 65536 in
set_option maxHeartbeats 40000000 in
theorem rmR00 (l : Launch) (Z : State) (a0 : Array Value) (hw : ∀ d ∈ tables_1, d.before a0 Z = true) (ws : List Jvm.Cond) (o0 : Addr) (p1 : Int32) (B : Addr) (A : Addr) (n : Int32) (f : Int32) (la : Int32) (xB : Int32 → Int32) (xA : Int32 → Int32) (h0 : Heap) (n0 : Nat) (Z0 : n0 ≤ h0.size) (E_o0 : Exa Z h0 o0 "dev/chainlatch/bucket/Order") (F_first_o0 : Fld Z h0 o0 "dev/chainlatch/bucket/Order" "first" "I" (.int f)) (F_last_o0 : Fld Z h0 o0 "dev/chainlatch/bucket/Order" "last" "I" (.int la)) (F_before_o0 : Fld Z h0 o0 "dev/chainlatch/bucket/Order" "before" "[I" (.ref B)) (F_after_o0 : Fld Z h0 o0 "dev/chainlatch/bucket/Order" "after" "[I" (.ref A)) (V_B : own_AF Z h0 B n xB) (V_A : own_AF Z h0 A n xA) (g_o0 : n0 ≤ o0) (g_B : n0 ≤ B) (g_A : n0 ≤ A) (ne_o0_B : o0 ≠ B) (ne_o0_A : o0 ≠ A) (ne_B_A : B ≠ A) (hp10 : ¬ p1 < 0) (hp11 : p1 < n) (hP : ((xB p1) - (1 : Int32)) = (-1 : Int32)) (hQ : ((xA p1) - (1 : Int32)) = (-1 : Int32)) :
    MetFree l (⟨"dev/chainlatch/bucket/Order", "remove", "(I)V"⟩ : MethodName) (head1 (Jvm.Cond.code (⟨"dev/chainlatch/bucket/Order", "remove", "(I)V"⟩ : MethodName) prog_10_method_6_code 2 none :: ws) ({ frames := 1, cells := 0, slots := 0, locals := 14 } : Room)) (fun a U => a = #[(.ref o0), (.int p1)] ∧ Z.Warmed39 U.vm ∧ U.heap = h0) (fun _ _ _ _ _ => True) (fun _ U o U' => ∃ v L, o = .returned v ∧ Q_rmR00 Z o0 p1 B A n f la xB xA h0 n0 v U'.heap L ∧ FrameEnd U o U' L ({ frames := 1, cells := 0, slots := 0, locals := 14 } : Room).cells ({ frames := 1, cells := 0, slots := 0, locals := 14 } : Room).slots) := by
  refine MetFree.of_bodySF (plainFor_of_name pn_dev_chainlatch_bucket_Order) hisR ?_
  intro p e s m args below meth c s₁ Bd hml0 hP hK
  obtain ⟨rfl, hZ, hh⟩ := hP
  have hx := Bd.exec
  have hby := Bd.bytes
  have hml : c.maxLocals = 2 := hml0
  have hown : s.vm.findClass "dev/chainlatch/bucket/Order" = some m.cls := findClass_of_methodNamed Bd.named
  have hnm := (name_of_methodNamed Bd.named Bd.method).1
  have hlk := Bd.notSynchronized
  have X0 : Stand p l e ({ frames := 1, cells := 0, slots := 0, locals := 14 } : Room) s m #[(.ref o0), (.int p1)] below meth c s₁ [] 0 0 := Stand.of_body Bd
  have e0 : s₁.heap = h0 := by rw [← hh, Bd.state]; rfl
  have N0 := Fr.nil n0
  show own_G p.tables e below s (Q_rmR00 Z o0 p1 B A n f la xB xA h0 n0) ({ frames := 1, cells := 0, slots := 0, locals := 14 } : Room).cells ({ frames := 1, cells := 0, slots := 0, locals := 14 } : Room).slots _
  refine own_thr (a := s₁.setTop (mkF m 0 #[.val (.ref o0), .val (.int p1)] [])) (fun t kt => castTop (ef_rmR00 m o0 p1) kt) ?_
  refine own_thr (a := s₁.setTop (mkF m 2 #[.val (.ref o0), .val (.int p1)] [(.ref o0), (.ref o0)])) (fun t kt => ?_) ?_
  · show Steps p.tables e below (s₁.setTop (mkF m 0 #[.val (.ref o0), .val (.int p1)] [])) _
    refine XS.aloadN X0.here hx rfl (hb hby d4_0) rfl rfl ?_
    refine XS.aloadN X0.here hx rfl (hb hby d4_1) rfl rfl ?_
    exact kt
  obtain ⟨T1, X1, e1, st1⟩ := getF X0 hx hZ hown (host := "") (Or.inl (hw _ (List.mem_of_getElem? (i := 16) rfl))) Via.refl e0 F_before_o0 (g := (mkF m 2 #[.val (.ref o0), .val (.int p1)] [(.ref o0), (.ref o0)])) rfl rfl (hb hby d4_2)
  refine own_thr (a := T1.setTop (mkF m 5 #[.val (.ref o0), .val (.int p1)] [(.ref B), (.ref o0)])) (fun t kt => st1 t kt) ?_
  refine own_thr (a := T1.setTop (mkF m 6 #[.val (.ref o0), .val (.int p1)] [(.int p1), (.ref B), (.ref o0)])) (fun t kt => ?_) ?_
  · show Steps p.tables e below (T1.setTop (mkF m 5 #[.val (.ref o0), .val (.int p1)] [(.ref B), (.ref o0)])) _
    refine XS.iloadN X1.here hx rfl (hb hby d4_5) rfl ?_
    exact kt
  obtain ⟨cl2, Ar2, S2, M2, H2⟩ := id V_B
  have hin2 : ¬ (p1 < 0 ∨ cl2.slots.size ≤ (p1).toNatClampNeg) := inb_of S2 ⟨hp10, hp11⟩
  refine own_thr (a := T1.setTop (mkF m 10 #[.val (.ref o0), .val (.int p1)] [(.ref o0), (.int ((xB p1) - (1 : Int32))), (.ref o0)])) (fun t kt => ?_) ?_
  · show Steps p.tables e below (T1.setTop (mkF m 6 #[.val (.ref o0), .val (.int p1)] [(.int p1), (.ref B), (.ref o0)])) _
    refine X1.iaload hx (j := p1) (v := (.int (xB p1))) (by rw [e1]; exact Ar2.1) (State.isArrayOf_alike hZ.alike Ar2.2.1) Ar2.2.2 hin2 (H2 p1 hp10 hp11) (g := (mkF m 6 #[.val (.ref o0), .val (.int p1)] [(.int p1), (.ref B), (.ref o0)])) rfl rfl (hb hby d4_6) _ ?_
    refine XS.iconst X1.here hx rfl (hb hby d4_7) ?_
    refine XS.isub X1.here hx rfl (hb hby d4_8) rfl ?_
    refine XS.aloadN X1.here hx rfl (hb hby d4_9) rfl rfl ?_
    exact kt
  obtain ⟨T3, X3, e3, st3⟩ := getF X1 hx hZ hown (host := "") (Or.inl (hw _ (List.mem_of_getElem? (i := 18) rfl))) Via.refl e1 F_after_o0 (g := (mkF m 10 #[.val (.ref o0), .val (.int p1)] [(.ref o0), (.int ((xB p1) - (1 : Int32))), (.ref o0)])) rfl rfl (hb hby d4_10)
  refine own_thr (a := T3.setTop (mkF m 13 #[.val (.ref o0), .val (.int p1)] [(.ref A), (.int ((xB p1) - (1 : Int32))), (.ref o0)])) (fun t kt => st3 t kt) ?_
  refine own_thr (a := T3.setTop (mkF m 14 #[.val (.ref o0), .val (.int p1)] [(.int p1), (.ref A), (.int ((xB p1) - (1 : Int32))), (.ref o0)])) (fun t kt => ?_) ?_
  · show Steps p.tables e below (T3.setTop (mkF m 13 #[.val (.ref o0), .val (.int p1)] [(.ref A), (.int ((xB p1) - (1 : Int32))), (.ref o0)])) _
    refine XS.iloadN X3.here hx rfl (hb hby d4_13) rfl ?_
    exact kt
  obtain ⟨cl4, Ar4, S4, M4, H4⟩ := id V_A
  have hin4 : ¬ (p1 < 0 ∨ cl4.slots.size ≤ (p1).toNatClampNeg) := inb_of S4 ⟨hp10, hp11⟩
  refine own_thr (a := T3.setTop (mkF m 17 #[.val (.ref o0), .val (.int p1)] [(.int ((xA p1) - (1 : Int32))), (.int ((xB p1) - (1 : Int32))), (.ref o0)])) (fun t kt => ?_) ?_
  · show Steps p.tables e below (T3.setTop (mkF m 14 #[.val (.ref o0), .val (.int p1)] [(.int p1), (.ref A), (.int ((xB p1) - (1 : Int32))), (.ref o0)])) _
    refine X3.iaload hx (j := p1) (v := (.int (xA p1))) (by rw [e3]; exact Ar4.1) (State.isArrayOf_alike hZ.alike Ar4.2.1) Ar4.2.2 hin4 (H4 p1 hp10 hp11) (g := (mkF m 14 #[.val (.ref o0), .val (.int p1)] [(.int p1), (.ref A), (.int ((xB p1) - (1 : Int32))), (.ref o0)])) rfl rfl (hb hby d4_14) _ ?_
    refine XS.iconst X3.here hx rfl (hb hby d4_15) ?_
    refine XS.isub X3.here hx rfl (hb hby d4_16) rfl ?_
    exact kt
  obtain ⟨cq5, q5, q5'⟩ := E_o0.cell
  obtain ⟨_, _, ⟨T5, L5, k5, n5⟩, -, X5, ⟨Lc5, hQ5, l5, y5, z5⟩, st5⟩ := X3.privateBack hx (y := (⟨"dev/chainlatch/bucket/Order", "link", "(II)V"⟩ : MethodName)) hown (mvT hZ (hw _ (List.mem_of_getElem? (i := 30) rfl))) (mvT hZ (hw _ (List.mem_of_getElem? (i := 31) rfl))) (own_sel hZ hw) (Cond.privateMethod_at (mvP hZ (hw _ (List.mem_of_getElem? (i := 32) rfl)) (args := #[]))) (mvT hZ (hw _ (List.mem_of_getElem? (i := 33) rfl))) (by decide) (backOf (W := 0) (rmL00 l Z a0 hw [] o0 ((xB p1) - (1 : Int32)) ((xA p1) - (1 : Int32)) B A n f la xB xA h0 n0 Z0 E_o0 F_first_o0 F_last_o0 F_before_o0 F_after_o0 V_B V_A g_o0 g_B g_A ne_o0_B ne_o0_A ne_B_A hP hQ) hZ (hw _ (List.mem_of_getElem? (i := 33) rfl)) (hw _ (List.mem_of_getElem? (i := 5) rfl)) (by decide) (by decide)) (g := (mkF m 17 #[.val (.ref o0), .val (.int p1)] [(.int ((xA p1) - (1 : Int32))), (.int ((xB p1) - (1 : Int32))), (.ref o0)])) rfl (by rw [hml]; rfl) (Steps.refl _) (a := o0) (by rw [e3]; exact q5) q5' (argsL := [(.int ((xB p1) - (1 : Int32))), (.int ((xA p1) - (1 : Int32)))]) (rest := []) (lenOf pd__28II_29V rfl) rfl (by show 2 * 0 + _ ≤ _; exact Nat.le_of_eq rfl) (hb hby d4_17) (fun _ _ => ⟨rfl, e3, (by decide : 0 + 0 ≤ _), (by decide : 0 + 0 ≤ _)⟩)
  dsimp only [Pt.U, Pt.locs, Pt.cells, Pt.slots] at X5 l5 y5 z5 st5 hQ5
  obtain ⟨rfl, N5q, K5, o5_0, o5_1, o5_2, o5_3, o5_4, o5_5, o5_6⟩ := hQ5
  have Z6 : n0 ≤ T5.heap.size := Nat.le_trans Z0 K5.1
  have Z6h : h0.size ≤ T5.heap.size := Nat.le_trans (Nat.le_refl h0.size) K5.1
  obtain ⟨lc5, X5, N5⟩ := own_pack X5 l5 y5 z5 N0 N5q (C := 0) (S' := 0) rfl rfl
  refine own_thr (a := T5.setTop (mkF m 20 #[.val (.ref o0), .val (.int p1)] [])) (fun t kt => st5.trans kt) ?_
  refine own_thr (a := T5.setTop (mkF m 21 #[.val (.ref o0), .val (.int p1)] [(.ref o0)])) (fun t kt => ?_) ?_
  · show Steps p.tables e below (T5.setTop (mkF m 20 #[.val (.ref o0), .val (.int p1)] [])) _
    refine XS.aloadN X5.here hx rfl (hb hby d4_20) rfl rfl ?_
    exact kt
  obtain ⟨T7, X7, e7, st7⟩ := getF X5 hx hZ hown (host := "") (Or.inl (hw _ (List.mem_of_getElem? (i := 16) rfl))) Via.refl rfl o5_3 (g := (mkF m 21 #[.val (.ref o0), .val (.int p1)] [(.ref o0)])) rfl rfl (hb hby d4_21)
  refine own_thr (a := T7.setTop (mkF m 24 #[.val (.ref o0), .val (.int p1)] [(.ref B)])) (fun t kt => st7 t kt) ?_
  refine own_thr (a := T7.setTop (mkF m 26 #[.val (.ref o0), .val (.int p1)] [(.int (0 : Int32)), (.int p1), (.ref B)])) (fun t kt => ?_) ?_
  · show Steps p.tables e below (T7.setTop (mkF m 24 #[.val (.ref o0), .val (.int p1)] [(.ref B)])) _
    refine XS.iloadN X7.here hx rfl (hb hby d4_24) rfl ?_
    refine XS.iconst X7.here hx rfl (hb hby d4_25) ?_
    exact kt
  obtain ⟨cl8, Ar8, S8, M8, H8⟩ := id o5_5
  have hin8 : ¬ (p1 < 0 ∨ cl8.slots.size ≤ (p1).toNatClampNeg) := inb_of S8 ⟨hp10, hp11⟩
  obtain ⟨T8, h8, X8, e8, W8, st8⟩ := stI X7 hx hZ e7 Ar8 (j := p1) hin8 (g := (mkF m 26 #[.val (.ref o0), .val (.int p1)] [(.int (0 : Int32)), (.int p1), (.ref B)])) rfl rfl (hb hby d4_26)
  have Z9 : n0 ≤ h8.size := Nat.le_trans Z6 (Nat.le_of_eq W8.size.symm)
  have Z9h : h0.size ≤ h8.size := Nat.le_trans Z6h (Nat.le_of_eq W8.size.symm)
  have V8 : own_AF Z h8 B n (own_up xB p1 (0 : Int32)) := own_AF.set Ar8 S8 M8 H8 hin8 W8
  obtain ⟨lc8, X8, N8⟩ := own_pack1 X8 N5 g_B
  refine own_thr (a := T8.setTop (mkF m 27 #[.val (.ref o0), .val (.int p1)] [])) (fun t kt => st8 t kt) ?_
  refine own_thr (a := T8.setTop (mkF m 28 #[.val (.ref o0), .val (.int p1)] [(.ref o0)])) (fun t kt => ?_) ?_
  · show Steps p.tables e below (T8.setTop (mkF m 27 #[.val (.ref o0), .val (.int p1)] [])) _
    refine XS.aloadN X8.here hx rfl (hb hby d4_27) rfl rfl ?_
    exact kt
  obtain ⟨T10, X10, e10, st10⟩ := getF X8 hx hZ hown (host := "") (Or.inl (hw _ (List.mem_of_getElem? (i := 18) rfl))) Via.refl e8 (o5_4.other W8 (Or.inl ne_o0_B)) (g := (mkF m 28 #[.val (.ref o0), .val (.int p1)] [(.ref o0)])) rfl rfl (hb hby d4_28)
  refine own_thr (a := T10.setTop (mkF m 31 #[.val (.ref o0), .val (.int p1)] [(.ref A)])) (fun t kt => st10 t kt) ?_
  refine own_thr (a := T10.setTop (mkF m 33 #[.val (.ref o0), .val (.int p1)] [(.int (0 : Int32)), (.int p1), (.ref A)])) (fun t kt => ?_) ?_
  · show Steps p.tables e below (T10.setTop (mkF m 31 #[.val (.ref o0), .val (.int p1)] [(.ref A)])) _
    refine XS.iloadN X10.here hx rfl (hb hby d4_31) rfl ?_
    refine XS.iconst X10.here hx rfl (hb hby d4_32) ?_
    exact kt
  obtain ⟨cl11, Ar11, S11, M11, H11⟩ := id (o5_6.other W8 (Ne.symm ne_B_A))
  have hin11 : ¬ (p1 < 0 ∨ cl11.slots.size ≤ (p1).toNatClampNeg) := inb_of S11 ⟨hp10, hp11⟩
  obtain ⟨T11, h11, X11, e11, W11, st11⟩ := stI X10 hx hZ e10 Ar11 (j := p1) hin11 (g := (mkF m 33 #[.val (.ref o0), .val (.int p1)] [(.int (0 : Int32)), (.int p1), (.ref A)])) rfl rfl (hb hby d4_33)
  have Z12 : n0 ≤ h11.size := Nat.le_trans Z9 (Nat.le_of_eq W11.size.symm)
  have Z12h : h0.size ≤ h11.size := Nat.le_trans Z9h (Nat.le_of_eq W11.size.symm)
  have V11 : own_AF Z h11 A n (own_up xA p1 (0 : Int32)) := own_AF.set Ar11 S11 M11 H11 hin11 W11
  obtain ⟨lc11, X11, N11⟩ := own_pack1 X11 N8 g_A
  refine own_thr (a := T11.setTop (mkF m 34 #[.val (.ref o0), .val (.int p1)] [])) (fun t kt => st11 t kt) ?_
  have c13 := ((o5_1.other W8 (Or.inl ne_o0_B)).other W11 (Or.inl ne_o0_A))
  have c14 := ((o5_2.other W8 (Or.inl ne_o0_B)).other W11 (Or.inl ne_o0_A))
  have c15 := ((o5_3.other W8 (Or.inl ne_o0_B)).other W11 (Or.inl ne_o0_A))
  have c16 := ((o5_4.other W8 (Or.inl ne_o0_B)).other W11 (Or.inl ne_o0_A))
  exact own_end X11 hlk (v := none) (fun _ => rfl) (fun fs hr => X11.returnOut hx Bd.returns (hb hby d4_34) hr) (by rw [e11]; exact ⟨rfl, N11, ((((Keep.refl h0 [o0, B, A]).trans K5 (allS (Or.inl (List.mem_of_getElem? (i := 0) rfl)) (allS (Or.inl (List.mem_of_getElem? (i := 1) rfl)) (allS (Or.inl (List.mem_of_getElem? (i := 2) rfl)) all0)))).wr W8 (Or.inl (List.mem_of_getElem? (i := 1) rfl))).wr W11 (Or.inl (List.mem_of_getElem? (i := 2) rfl))), ((o5_0.wr W8).wr W11), c13, c14, c15, c16, (V8.other W11 ne_B_A), V11⟩) (by decide : 0 ≤ _) (by decide : 0 ≤ _)
theorem ef_rmR01 (m : MethodId) (o0 : Addr) (p1 : Int32)  : entryFrame m #[(.ref o0), (.int p1)] 2 = mkF m 0 #[.val (.ref o0), .val (.int p1)] [] := by first |  (simp [entryFrame, mkF, argsToLocals, Value.category]; done) | rfl
def Q_rmR01 (Z : State) (o0 : Addr) (p1 : Int32) (B : Addr) (A : Addr) (n : Int32) (f : Int32) (la : Int32) (xB : Int32 → Int32) (xA : Int32 → Int32) (h0 : Heap) (n0 : Nat) (v : Option Value) (h : Heap) (L : List Loc) : Prop := v = none ∧ Fr n0 L ∧ Keep h0 h [o0, B, A] ∧ Exa Z h o0 "dev/chainlatch/bucket/Order" ∧ Fld Z h o0 "dev/chainlatch/bucket/Order" "first" "I" (.int ((xA p1) - (1 : Int32))) ∧ Fld Z h o0 "dev/chainlatch/bucket/Order" "last" "I" (.int la) ∧ Fld Z h o0 "dev/chainlatch/bucket/Order" "before" "[I" (.ref B) ∧ Fld Z h o0 "dev/chainlatch/bucket/Order" "after" "[I" (.ref A) ∧ own_AF Z h B n (own_up (own_up xB ((xA p1) - (1 : Int32)) (((xB p1) - (1 : Int32)) + (1 : Int32))) p1 (0 : Int32)) ∧ own_AF Z h A n (own_up xA p1 (0 : Int32))
set_option maxRecDepth 65536 in
set_option maxHeartbeats 40000000 in
theorem rmR01 (l : Launch) (Z : State) (a0 : Array Value) (hw : ∀ d ∈ tables_1, d.before a0 Z = true) (ws : List Jvm.Cond) (o0 : Addr) (p1 : Int32) (B : Addr) (A : Addr) (n : Int32) (f : Int32) (la : Int32) (xB : Int32 → Int32) (xA : Int32 → Int32) (h0 : Heap) (n0 : Nat) (Z0 : n0 ≤ h0.size) (E_o0 : Exa Z h0 o0 "dev/chainlatch/bucket/Order") (F_first_o0 : Fld Z h0 o0 "dev/chainlatch/bucket/Order" "first" "I" (.int f)) (F_last_o0 : Fld Z h0 o0 "dev/chainlatch/bucket/Order" "last" "I" (.int la)) (F_before_o0 : Fld Z h0 o0 "dev/chainlatch/bucket/Order" "before" "[I" (.ref B)) (F_after_o0 : Fld Z h0 o0 "dev/chainlatch/bucket/Order" "after" "[I" (.ref A)) (V_B : own_AF Z h0 B n xB) (V_A : own_AF Z h0 A n xA) (g_o0 : n0 ≤ o0) (g_B : n0 ≤ B) (g_A : n0 ≤ A) (ne_o0_B : o0 ≠ B) (ne_o0_A : o0 ≠ A) (ne_B_A : B ≠ A) (hp10 : ¬ p1 < 0) (hp11 : p1 < n) (hP : ((xB p1) - (1 : Int32)) = (-1 : Int32)) (hQ0 : ¬ ((xA p1) - (1 : Int32)) < 0) (hQ1 : ((xA p1) - (1 : Int32)) < n) :
    MetFree l (⟨"dev/chainlatch/bucket/Order", "remove", "(I)V"⟩ : MethodName) (head1 (Jvm.Cond.code (⟨"dev/chainlatch/bucket/Order", "remove", "(I)V"⟩ : MethodName) prog_10_method_6_code 2 none :: ws) ({ frames := 1, cells := 0, slots := 0, locals := 14 } : Room)) (fun a U => a = #[(.ref o0), (.int p1)] ∧ Z.Warmed39 U.vm ∧ U.heap = h0) (fun _ _ _ _ _ => True) (fun _ U o U' => ∃ v L, o = .returned v ∧ Q_rmR01 Z o0 p1 B A n f la xB xA h0 n0 v U'.heap L ∧ FrameEnd U o U' L ({ frames := 1, cells := 0, slots := 0, locals := 14 } : Room).cells ({ frames := 1, cells := 0, slots := 0, locals := 14 } : Room).slots) := by
  refine MetFree.of_bodySF (plainFor_of_name pn_dev_chainlatch_bucket_Order) hisR ?_
  intro p e s m args below meth c s₁ Bd hml0 hP hK
  obtain ⟨rfl, hZ, hh⟩ := hP
  have hx := Bd.exec
  have hby := Bd.bytes
  have hml : c.maxLocals = 2 := hml0
  have hown : s.vm.findClass "dev/chainlatch/bucket/Order" = some m.cls := findClass_of_methodNamed Bd.named
  have hnm := (name_of_methodNamed Bd.named Bd.method).1
  have hlk := Bd.notSynchronized
  have X0 : Stand p l e ({ frames := 1, cells := 0, slots := 0, locals := 14 } : Room) s m #[(.ref o0), (.int p1)] below meth c s₁ [] 0 0 := Stand.of_body Bd
  have e0 : s₁.heap = h0 := by rw [← hh, Bd.state]; rfl
  have N0 := Fr.nil n0
  show own_G p.tables e below s (Q_rmR01 Z o0 p1 B A n f la xB xA h0 n0) ({ frames := 1, cells := 0, slots := 0, locals := 14 } : Room).cells ({ frames := 1, cells := 0, slots := 0, locals := 14 } : Room).slots _
  refine own_thr (a := s₁.setTop (mkF m 0 #[.val (.ref o0), .val (.int p1)] [])) (fun t kt => castTop (ef_rmR01 m o0 p1) kt) ?_
  refine own_thr (a := s₁.setTop (mkF m 2 #[.val (.ref o0), .val (.int p1)] [(.ref o0), (.ref o0)])) (fun t kt => ?_) ?_
  · show Steps p.tables e below (s₁.setTop (mkF m 0 #[.val (.ref o0), .val (.int p1)] [])) _
    refine XS.aloadN X0.here hx rfl (hb hby d4_0) rfl rfl ?_
    refine XS.aloadN X0.here hx rfl (hb hby d4_1) rfl rfl ?_
    exact kt
  obtain ⟨T1, X1, e1, st1⟩ := getF X0 hx hZ hown (host := "") (Or.inl (hw _ (List.mem_of_getElem? (i := 16) rfl))) Via.refl e0 F_before_o0 (g := (mkF m 2 #[.val (.ref o0), .val (.int p1)] [(.ref o0), (.ref o0)])) rfl rfl (hb hby d4_2)
  refine own_thr (a := T1.setTop (mkF m 5 #[.val (.ref o0), .val (.int p1)] [(.ref B), (.ref o0)])) (fun t kt => st1 t kt) ?_
  refine own_thr (a := T1.setTop (mkF m 6 #[.val (.ref o0), .val (.int p1)] [(.int p1), (.ref B), (.ref o0)])) (fun t kt => ?_) ?_
  · show Steps p.tables e below (T1.setTop (mkF m 5 #[.val (.ref o0), .val (.int p1)] [(.ref B), (.ref o0)])) _
    refine XS.iloadN X1.here hx rfl (hb hby d4_5) rfl ?_
    exact kt
  obtain ⟨cl2, Ar2, S2, M2, H2⟩ := id V_B
  have hin2 : ¬ (p1 < 0 ∨ cl2.slots.size ≤ (p1).toNatClampNeg) := inb_of S2 ⟨hp10, hp11⟩
  refine own_thr (a := T1.setTop (mkF m 10 #[.val (.ref o0), .val (.int p1)] [(.ref o0), (.int ((xB p1) - (1 : Int32))), (.ref o0)])) (fun t kt => ?_) ?_
  · show Steps p.tables e below (T1.setTop (mkF m 6 #[.val (.ref o0), .val (.int p1)] [(.int p1), (.ref B), (.ref o0)])) _
    refine X1.iaload hx (j := p1) (v := (.int (xB p1))) (by rw [e1]; exact Ar2.1) (State.isArrayOf_alike hZ.alike Ar2.2.1) Ar2.2.2 hin2 (H2 p1 hp10 hp11) (g := (mkF m 6 #[.val (.ref o0), .val (.int p1)] [(.int p1), (.ref B), (.ref o0)])) rfl rfl (hb hby d4_6) _ ?_
    refine XS.iconst X1.here hx rfl (hb hby d4_7) ?_
    refine XS.isub X1.here hx rfl (hb hby d4_8) rfl ?_
    refine XS.aloadN X1.here hx rfl (hb hby d4_9) rfl rfl ?_
    exact kt
  obtain ⟨T3, X3, e3, st3⟩ := getF X1 hx hZ hown (host := "") (Or.inl (hw _ (List.mem_of_getElem? (i := 18) rfl))) Via.refl e1 F_after_o0 (g := (mkF m 10 #[.val (.ref o0), .val (.int p1)] [(.ref o0), (.int ((xB p1) - (1 : Int32))), (.ref o0)])) rfl rfl (hb hby d4_10)
  refine own_thr (a := T3.setTop (mkF m 13 #[.val (.ref o0), .val (.int p1)] [(.ref A), (.int ((xB p1) - (1 : Int32))), (.ref o0)])) (fun t kt => st3 t kt) ?_
  refine own_thr (a := T3.setTop (mkF m 14 #[.val (.ref o0), .val (.int p1)] [(.int p1), (.ref A), (.int ((xB p1) - (1 : Int32))), (.ref o0)])) (fun t kt => ?_) ?_
  · show Steps p.tables e below (T3.setTop (mkF m 13 #[.val (.ref o0), .val (.int p1)] [(.ref A), (.int ((xB p1) - (1 : Int32))), (.ref o0)])) _
    refine XS.iloadN X3.here hx rfl (hb hby d4_13) rfl ?_
    exact kt
  obtain ⟨cl4, Ar4, S4, M4, H4⟩ := id V_A
  have hin4 : ¬ (p1 < 0 ∨ cl4.slots.size ≤ (p1).toNatClampNeg) := inb_of S4 ⟨hp10, hp11⟩
  refine own_thr (a := T3.setTop (mkF m 17 #[.val (.ref o0), .val (.int p1)] [(.int ((xA p1) - (1 : Int32))), (.int ((xB p1) - (1 : Int32))), (.ref o0)])) (fun t kt => ?_) ?_
  · show Steps p.tables e below (T3.setTop (mkF m 14 #[.val (.ref o0), .val (.int p1)] [(.int p1), (.ref A), (.int ((xB p1) - (1 : Int32))), (.ref o0)])) _
    refine X3.iaload hx (j := p1) (v := (.int (xA p1))) (by rw [e3]; exact Ar4.1) (State.isArrayOf_alike hZ.alike Ar4.2.1) Ar4.2.2 hin4 (H4 p1 hp10 hp11) (g := (mkF m 14 #[.val (.ref o0), .val (.int p1)] [(.int p1), (.ref A), (.int ((xB p1) - (1 : Int32))), (.ref o0)])) rfl rfl (hb hby d4_14) _ ?_
    refine XS.iconst X3.here hx rfl (hb hby d4_15) ?_
    refine XS.isub X3.here hx rfl (hb hby d4_16) rfl ?_
    exact kt
  obtain ⟨cq5, q5, q5'⟩ := E_o0.cell
  obtain ⟨_, _, ⟨T5, L5, k5, n5⟩, -, X5, ⟨Lc5, hQ5, l5, y5, z5⟩, st5⟩ := X3.privateBack hx (y := (⟨"dev/chainlatch/bucket/Order", "link", "(II)V"⟩ : MethodName)) hown (mvT hZ (hw _ (List.mem_of_getElem? (i := 30) rfl))) (mvT hZ (hw _ (List.mem_of_getElem? (i := 31) rfl))) (own_sel hZ hw) (Cond.privateMethod_at (mvP hZ (hw _ (List.mem_of_getElem? (i := 32) rfl)) (args := #[]))) (mvT hZ (hw _ (List.mem_of_getElem? (i := 33) rfl))) (by decide) (backOf (W := 0) (rmL01 l Z a0 hw [] o0 ((xB p1) - (1 : Int32)) ((xA p1) - (1 : Int32)) B A n f la xB xA h0 n0 Z0 E_o0 F_first_o0 F_last_o0 F_before_o0 F_after_o0 V_B V_A g_o0 g_B g_A ne_o0_B ne_o0_A ne_B_A hP hQ0 hQ1) hZ (hw _ (List.mem_of_getElem? (i := 33) rfl)) (hw _ (List.mem_of_getElem? (i := 5) rfl)) (by decide) (by decide)) (g := (mkF m 17 #[.val (.ref o0), .val (.int p1)] [(.int ((xA p1) - (1 : Int32))), (.int ((xB p1) - (1 : Int32))), (.ref o0)])) rfl (by rw [hml]; rfl) (Steps.refl _) (a := o0) (by rw [e3]; exact q5) q5' (argsL := [(.int ((xB p1) - (1 : Int32))), (.int ((xA p1) - (1 : Int32)))]) (rest := []) (lenOf pd__28II_29V rfl) rfl (by show 2 * 0 + _ ≤ _; exact Nat.le_of_eq rfl) (hb hby d4_17) (fun _ _ => ⟨rfl, e3, (by decide : 0 + 0 ≤ _), (by decide : 0 + 0 ≤ _)⟩)
  dsimp only [Pt.U, Pt.locs, Pt.cells, Pt.slots] at X5 l5 y5 z5 st5 hQ5
  obtain ⟨rfl, N5q, K5, o5_0, o5_1, o5_2, o5_3, o5_4, o5_5, o5_6⟩ := hQ5
  have Z6 : n0 ≤ T5.heap.size := Nat.le_trans Z0 K5.1
  have Z6h : h0.size ≤ T5.heap.size := Nat.le_trans (Nat.le_refl h0.size) K5.1
  obtain ⟨lc5, X5, N5⟩ := own_pack X5 l5 y5 z5 N0 N5q (C := 0) (S' := 0) rfl rfl
  refine own_thr (a := T5.setTop (mkF m 20 #[.val (.ref o0), .val (.int p1)] [])) (fun t kt => st5.trans kt) ?_
  refine own_thr (a := T5.setTop (mkF m 21 #[.val (.ref o0), .val (.int p1)] [(.ref o0)])) (fun t kt => ?_) ?_
  · show Steps p.tables e below (T5.setTop (mkF m 20 #[.val (.ref o0), .val (.int p1)] [])) _
    refine XS.aloadN X5.here hx rfl (hb hby d4_20) rfl rfl ?_
    exact kt
  obtain ⟨T7, X7, e7, st7⟩ := getF X5 hx hZ hown (host := "") (Or.inl (hw _ (List.mem_of_getElem? (i := 16) rfl))) Via.refl rfl o5_3 (g := (mkF m 21 #[.val (.ref o0), .val (.int p1)] [(.ref o0)])) rfl rfl (hb hby d4_21)
  refine own_thr (a := T7.setTop (mkF m 24 #[.val (.ref o0), .val (.int p1)] [(.ref B)])) (fun t kt => st7 t kt) ?_
  refine own_thr (a := T7.setTop (mkF m 26 #[.val (.ref o0), .val (.int p1)] [(.int (0 : Int32)), (.int p1), (.ref B)])) (fun t kt => ?_) ?_
  · show Steps p.tables e below (T7.setTop (mkF m 24 #[.val (.ref o0), .val (.int p1)] [(.ref B)])) _
    refine XS.iloadN X7.here hx rfl (hb hby d4_24) rfl ?_
    refine XS.iconst X7.here hx rfl (hb hby d4_25) ?_
    exact kt
  obtain ⟨cl8, Ar8, S8, M8, H8⟩ := id o5_5
  have hin8 : ¬ (p1 < 0 ∨ cl8.slots.size ≤ (p1).toNatClampNeg) := inb_of S8 ⟨hp10, hp11⟩
  obtain ⟨T8, h8, X8, e8, W8, st8⟩ := stI X7 hx hZ e7 Ar8 (j := p1) hin8 (g := (mkF m 26 #[.val (.ref o0), .val (.int p1)] [(.int (0 : Int32)), (.int p1), (.ref B)])) rfl rfl (hb hby d4_26)
  have Z9 : n0 ≤ h8.size := Nat.le_trans Z6 (Nat.le_of_eq W8.size.symm)
  have Z9h : h0.size ≤ h8.size := Nat.le_trans Z6h (Nat.le_of_eq W8.size.symm)
  have V8 : own_AF Z h8 B n (own_up (own_up xB ((xA p1) - (1 : Int32)) (((xB p1) - (1 : Int32)) + (1 : Int32))) p1 (0 : Int32)) := own_AF.set Ar8 S8 M8 H8 hin8 W8
  obtain ⟨lc8, X8, N8⟩ := own_pack1 X8 N5 g_B
  refine own_thr (a := T8.setTop (mkF m 27 #[.val (.ref o0), .val (.int p1)] [])) (fun t kt => st8 t kt) ?_
  refine own_thr (a := T8.setTop (mkF m 28 #[.val (.ref o0), .val (.int p1)] [(.ref o0)])) (fun t kt => ?_) ?_
  · show Steps p.tables e below (T8.setTop (mkF m 27 #[.val (.ref o0), .val (.int p1)] [])) _
    refine XS.aloadN X8.here hx rfl (hb hby d4_27) rfl rfl ?_
    exact kt
  obtain ⟨T10, X10, e10, st10⟩ := getF X8 hx hZ hown (host := "") (Or.inl (hw _ (List.mem_of_getElem? (i := 18) rfl))) Via.refl e8 (o5_4.other W8 (Or.inl ne_o0_B)) (g := (mkF m 28 #[.val (.ref o0), .val (.int p1)] [(.ref o0)])) rfl rfl (hb hby d4_28)
  refine own_thr (a := T10.setTop (mkF m 31 #[.val (.ref o0), .val (.int p1)] [(.ref A)])) (fun t kt => st10 t kt) ?_
  refine own_thr (a := T10.setTop (mkF m 33 #[.val (.ref o0), .val (.int p1)] [(.int (0 : Int32)), (.int p1), (.ref A)])) (fun t kt => ?_) ?_
  · show Steps p.tables e below (T10.setTop (mkF m 31 #[.val (.ref o0), .val (.int p1)] [(.ref A)])) _
    refine XS.iloadN X10.here hx rfl (hb hby d4_31) rfl ?_
    refine XS.iconst X10.here hx rfl (hb hby d4_32) ?_
    exact kt
  obtain ⟨cl11, Ar11, S11, M11, H11⟩ := id (o5_6.other W8 (Ne.symm ne_B_A))
  have hin11 : ¬ (p1 < 0 ∨ cl11.slots.size ≤ (p1).toNatClampNeg) := inb_of S11 ⟨hp10, hp11⟩
  obtain ⟨T11, h11, X11, e11, W11, st11⟩ := stI X10 hx hZ e10 Ar11 (j := p1) hin11 (g := (mkF m 33 #[.val (.ref o0), .val (.int p1)] [(.int (0 : Int32)), (.int p1), (.ref A)])) rfl rfl (hb hby d4_33)
  have Z12 : n0 ≤ h11.size := Nat.le_trans Z9 (Nat.le_of_eq W11.size.symm)
  have Z12h : h0.size ≤ h11.size := Nat.le_trans Z9h (Nat.le_of_eq W11.size.symm)
  have V11 : own_AF Z h11 A n (own_up xA p1 (0 : Int32)) := own_AF.set Ar11 S11 M11 H11 hin11 W11
  obtain ⟨lc11, X11, N11⟩ := own_pack1 X11 N8 g_A
  refine own_thr (a := T11.setTop (mkF m 34 #[.val (.ref o0), .val (.int p1)] [])) (fun t kt => st11 t kt) ?_
  have c13 := ((o5_1.other W8 (Or.inl ne_o0_B)).other W11 (Or.inl ne_o0_A))
  have c14 := ((o5_2.other W8 (Or.inl ne_o0_B)).other W11 (Or.inl ne_o0_A))
  have c15 := ((o5_3.other W8 (Or.inl ne_o0_B)).other W11 (Or.inl ne_o0_A))
  have c16 := ((o5_4.other W8 (Or.inl ne_o0_B)).other W11 (Or.inl ne_o0_A))
  exact own_end X11 hlk (v := none) (fun _ => rfl) (fun fs hr => X11.returnOut hx Bd.returns (hb hby d4_34) hr) (by rw [e11]; exact ⟨rfl, N11, ((((Keep.refl h0 [o0, B, A]).trans K5 (allS (Or.inl (List.mem_of_getElem? (i := 0) rfl)) (allS (Or.inl (List.mem_of_getElem? (i := 1) rfl)) (allS (Or.inl (List.mem_of_getElem? (i := 2) rfl)) all0)))).wr W8 (Or.inl (List.mem_of_getElem? (i := 1) rfl))).wr W11 (Or.inl (List.mem_of_getElem? (i := 2) rfl))), ((o5_0.wr W8).wr W11), c13, c14, c15, c16, (V8.other W11 ne_B_A), V11⟩) (by decide : 0 ≤ _) (by decide : 0 ≤ _)
theorem ef_rmR10 (m : MethodId) (o0 : Addr) (p1 : Int32)  : entryFrame m #[(.ref o0), (.int p1)] 2 = mkF m 0 #[.val (.ref o0), .val (.int p1)] [] := by first |  (simp [entryFrame, mkF, argsToLocals, Value.category]; done) | rfl
def Q_rmR10 (Z : State) (o0 : Addr) (p1 : Int32) (B : Addr) (A : Addr) (n : Int32) (f : Int32) (la : Int32) (xB : Int32 → Int32) (xA : Int32 → Int32) (h0 : Heap) (n0 : Nat) (v : Option Value) (h : Heap) (L : List Loc) : Prop := v = none ∧ Fr n0 L ∧ Keep h0 h [o0, B, A] ∧ Exa Z h o0 "dev/chainlatch/bucket/Order" ∧ Fld Z h o0 "dev/chainlatch/bucket/Order" "first" "I" (.int f) ∧ Fld Z h o0 "dev/chainlatch/bucket/Order" "last" "I" (.int ((xB p1) - (1 : Int32))) ∧ Fld Z h o0 "dev/chainlatch/bucket/Order" "before" "[I" (.ref B) ∧ Fld Z h o0 "dev/chainlatch/bucket/Order" "after" "[I" (.ref A) ∧ own_AF Z h B n (own_up xB p1 (0 : Int32)) ∧ own_AF Z h A n (own_up (own_up xA ((xB p1) - (1 : Int32)) (((xA p1) - (1 : Int32)) + (1 : Int32))) p1 (0 : Int32))
set_option maxRecDepth 65536 in
set_option maxHeartbeats 40000000 in
theorem rmR10 (l : Launch) (Z : State) (a0 : Array Value) (hw : ∀ d ∈ tables_1, d.before a0 Z = true) (ws : List Jvm.Cond) (o0 : Addr) (p1 : Int32) (B : Addr) (A : Addr) (n : Int32) (f : Int32) (la : Int32) (xB : Int32 → Int32) (xA : Int32 → Int32) (h0 : Heap) (n0 : Nat) (Z0 : n0 ≤ h0.size) (E_o0 : Exa Z h0 o0 "dev/chainlatch/bucket/Order") (F_first_o0 : Fld Z h0 o0 "dev/chainlatch/bucket/Order" "first" "I" (.int f)) (F_last_o0 : Fld Z h0 o0 "dev/chainlatch/bucket/Order" "last" "I" (.int la)) (F_before_o0 : Fld Z h0 o0 "dev/chainlatch/bucket/Order" "before" "[I" (.ref B)) (F_after_o0 : Fld Z h0 o0 "dev/chainlatch/bucket/Order" "after" "[I" (.ref A)) (V_B : own_AF Z h0 B n xB) (V_A : own_AF Z h0 A n xA) (g_o0 : n0 ≤ o0) (g_B : n0 ≤ B) (g_A : n0 ≤ A) (ne_o0_B : o0 ≠ B) (ne_o0_A : o0 ≠ A) (ne_B_A : B ≠ A) (hp10 : ¬ p1 < 0) (hp11 : p1 < n) (hP0 : ¬ ((xB p1) - (1 : Int32)) < 0) (hP1 : ((xB p1) - (1 : Int32)) < n) (hQ : ((xA p1) - (1 : Int32)) = (-1 : Int32)) :
    MetFree l (⟨"dev/chainlatch/bucket/Order", "remove", "(I)V"⟩ : MethodName) (head1 (Jvm.Cond.code (⟨"dev/chainlatch/bucket/Order", "remove", "(I)V"⟩ : MethodName) prog_10_method_6_code 2 none :: ws) ({ frames := 1, cells := 0, slots := 0, locals := 14 } : Room)) (fun a U => a = #[(.ref o0), (.int p1)] ∧ Z.Warmed39 U.vm ∧ U.heap = h0) (fun _ _ _ _ _ => True) (fun _ U o U' => ∃ v L, o = .returned v ∧ Q_rmR10 Z o0 p1 B A n f la xB xA h0 n0 v U'.heap L ∧ FrameEnd U o U' L ({ frames := 1, cells := 0, slots := 0, locals := 14 } : Room).cells ({ frames := 1, cells := 0, slots := 0, locals := 14 } : Room).slots) := by
  refine MetFree.of_bodySF (plainFor_of_name pn_dev_chainlatch_bucket_Order) hisR ?_
  intro p e s m args below meth c s₁ Bd hml0 hP hK
  obtain ⟨rfl, hZ, hh⟩ := hP
  have hx := Bd.exec
  have hby := Bd.bytes
  have hml : c.maxLocals = 2 := hml0
  have hown : s.vm.findClass "dev/chainlatch/bucket/Order" = some m.cls := findClass_of_methodNamed Bd.named
  have hnm := (name_of_methodNamed Bd.named Bd.method).1
  have hlk := Bd.notSynchronized
  have X0 : Stand p l e ({ frames := 1, cells := 0, slots := 0, locals := 14 } : Room) s m #[(.ref o0), (.int p1)] below meth c s₁ [] 0 0 := Stand.of_body Bd
  have e0 : s₁.heap = h0 := by rw [← hh, Bd.state]; rfl
  have N0 := Fr.nil n0
  show own_G p.tables e below s (Q_rmR10 Z o0 p1 B A n f la xB xA h0 n0) ({ frames := 1, cells := 0, slots := 0, locals := 14 } : Room).cells ({ frames := 1, cells := 0, slots := 0, locals := 14 } : Room).slots _
  refine own_thr (a := s₁.setTop (mkF m 0 #[.val (.ref o0), .val (.int p1)] [])) (fun t kt => castTop (ef_rmR10 m o0 p1) kt) ?_
  refine own_thr (a := s₁.setTop (mkF m 2 #[.val (.ref o0), .val (.int p1)] [(.ref o0), (.ref o0)])) (fun t kt => ?_) ?_
  · show Steps p.tables e below (s₁.setTop (mkF m 0 #[.val (.ref o0), .val (.int p1)] [])) _
    refine XS.aloadN X0.here hx rfl (hb hby d4_0) rfl rfl ?_
    refine XS.aloadN X0.here hx rfl (hb hby d4_1) rfl rfl ?_
    exact kt
  obtain ⟨T1, X1, e1, st1⟩ := getF X0 hx hZ hown (host := "") (Or.inl (hw _ (List.mem_of_getElem? (i := 16) rfl))) Via.refl e0 F_before_o0 (g := (mkF m 2 #[.val (.ref o0), .val (.int p1)] [(.ref o0), (.ref o0)])) rfl rfl (hb hby d4_2)
  refine own_thr (a := T1.setTop (mkF m 5 #[.val (.ref o0), .val (.int p1)] [(.ref B), (.ref o0)])) (fun t kt => st1 t kt) ?_
  refine own_thr (a := T1.setTop (mkF m 6 #[.val (.ref o0), .val (.int p1)] [(.int p1), (.ref B), (.ref o0)])) (fun t kt => ?_) ?_
  · show Steps p.tables e below (T1.setTop (mkF m 5 #[.val (.ref o0), .val (.int p1)] [(.ref B), (.ref o0)])) _
    refine XS.iloadN X1.here hx rfl (hb hby d4_5) rfl ?_
    exact kt
  obtain ⟨cl2, Ar2, S2, M2, H2⟩ := id V_B
  have hin2 : ¬ (p1 < 0 ∨ cl2.slots.size ≤ (p1).toNatClampNeg) := inb_of S2 ⟨hp10, hp11⟩
  refine own_thr (a := T1.setTop (mkF m 10 #[.val (.ref o0), .val (.int p1)] [(.ref o0), (.int ((xB p1) - (1 : Int32))), (.ref o0)])) (fun t kt => ?_) ?_
  · show Steps p.tables e below (T1.setTop (mkF m 6 #[.val (.ref o0), .val (.int p1)] [(.int p1), (.ref B), (.ref o0)])) _
    refine X1.iaload hx (j := p1) (v := (.int (xB p1))) (by rw [e1]; exact Ar2.1) (State.isArrayOf_alike hZ.alike Ar2.2.1) Ar2.2.2 hin2 (H2 p1 hp10 hp11) (g := (mkF m 6 #[.val (.ref o0), .val (.int p1)] [(.int p1), (.ref B), (.ref o0)])) rfl rfl (hb hby d4_6) _ ?_
    refine XS.iconst X1.here hx rfl (hb hby d4_7) ?_
    refine XS.isub X1.here hx rfl (hb hby d4_8) rfl ?_
    refine XS.aloadN X1.here hx rfl (hb hby d4_9) rfl rfl ?_
    exact kt
  obtain ⟨T3, X3, e3, st3⟩ := getF X1 hx hZ hown (host := "") (Or.inl (hw _ (List.mem_of_getElem? (i := 18) rfl))) Via.refl e1 F_after_o0 (g := (mkF m 10 #[.val (.ref o0), .val (.int p1)] [(.ref o0), (.int ((xB p1) - (1 : Int32))), (.ref o0)])) rfl rfl (hb hby d4_10)
  refine own_thr (a := T3.setTop (mkF m 13 #[.val (.ref o0), .val (.int p1)] [(.ref A), (.int ((xB p1) - (1 : Int32))), (.ref o0)])) (fun t kt => st3 t kt) ?_
  refine own_thr (a := T3.setTop (mkF m 14 #[.val (.ref o0), .val (.int p1)] [(.int p1), (.ref A), (.int ((xB p1) - (1 : Int32))), (.ref o0)])) (fun t kt => ?_) ?_
  · show Steps p.tables e below (T3.setTop (mkF m 13 #[.val (.ref o0), .val (.int p1)] [(.ref A), (.int ((xB p1) - (1 : Int32))), (.ref o0)])) _
    refine XS.iloadN X3.here hx rfl (hb hby d4_13) rfl ?_
    exact kt
  obtain ⟨cl4, Ar4, S4, M4, H4⟩ := id V_A
  have hin4 : ¬ (p1 < 0 ∨ cl4.slots.size ≤ (p1).toNatClampNeg) := inb_of S4 ⟨hp10, hp11⟩
  refine own_thr (a := T3.setTop (mkF m 17 #[.val (.ref o0), .val (.int p1)] [(.int ((xA p1) - (1 : Int32))), (.int ((xB p1) - (1 : Int32))), (.ref o0)])) (fun t kt => ?_) ?_
  · show Steps p.tables e below (T3.setTop (mkF m 14 #[.val (.ref o0), .val (.int p1)] [(.int p1), (.ref A), (.int ((xB p1) - (1 : Int32))), (.ref o0)])) _
    refine X3.iaload hx (j := p1) (v := (.int (xA p1))) (by rw [e3]; exact Ar4.1) (State.isArrayOf_alike hZ.alike Ar4.2.1) Ar4.2.2 hin4 (H4 p1 hp10 hp11) (g := (mkF m 14 #[.val (.ref o0), .val (.int p1)] [(.int p1), (.ref A), (.int ((xB p1) - (1 : Int32))), (.ref o0)])) rfl rfl (hb hby d4_14) _ ?_
    refine XS.iconst X3.here hx rfl (hb hby d4_15) ?_
    refine XS.isub X3.here hx rfl (hb hby d4_16) rfl ?_
    exact kt
  obtain ⟨cq5, q5, q5'⟩ := E_o0.cell
  obtain ⟨_, _, ⟨T5, L5, k5, n5⟩, -, X5, ⟨Lc5, hQ5, l5, y5, z5⟩, st5⟩ := X3.privateBack hx (y := (⟨"dev/chainlatch/bucket/Order", "link", "(II)V"⟩ : MethodName)) hown (mvT hZ (hw _ (List.mem_of_getElem? (i := 30) rfl))) (mvT hZ (hw _ (List.mem_of_getElem? (i := 31) rfl))) (own_sel hZ hw) (Cond.privateMethod_at (mvP hZ (hw _ (List.mem_of_getElem? (i := 32) rfl)) (args := #[]))) (mvT hZ (hw _ (List.mem_of_getElem? (i := 33) rfl))) (by decide) (backOf (W := 0) (rmL10 l Z a0 hw [] o0 ((xB p1) - (1 : Int32)) ((xA p1) - (1 : Int32)) B A n f la xB xA h0 n0 Z0 E_o0 F_first_o0 F_last_o0 F_before_o0 F_after_o0 V_B V_A g_o0 g_B g_A ne_o0_B ne_o0_A ne_B_A hP0 hP1 hQ) hZ (hw _ (List.mem_of_getElem? (i := 33) rfl)) (hw _ (List.mem_of_getElem? (i := 5) rfl)) (by decide) (by decide)) (g := (mkF m 17 #[.val (.ref o0), .val (.int p1)] [(.int ((xA p1) - (1 : Int32))), (.int ((xB p1) - (1 : Int32))), (.ref o0)])) rfl (by rw [hml]; rfl) (Steps.refl _) (a := o0) (by rw [e3]; exact q5) q5' (argsL := [(.int ((xB p1) - (1 : Int32))), (.int ((xA p1) - (1 : Int32)))]) (rest := []) (lenOf pd__28II_29V rfl) rfl (by show 2 * 0 + _ ≤ _; exact Nat.le_of_eq rfl) (hb hby d4_17) (fun _ _ => ⟨rfl, e3, (by decide : 0 + 0 ≤ _), (by decide : 0 + 0 ≤ _)⟩)
  dsimp only [Pt.U, Pt.locs, Pt.cells, Pt.slots] at X5 l5 y5 z5 st5 hQ5
  obtain ⟨rfl, N5q, K5, o5_0, o5_1, o5_2, o5_3, o5_4, o5_5, o5_6⟩ := hQ5
  have Z6 : n0 ≤ T5.heap.size := Nat.le_trans Z0 K5.1
  have Z6h : h0.size ≤ T5.heap.size := Nat.le_trans (Nat.le_refl h0.size) K5.1
  obtain ⟨lc5, X5, N5⟩ := own_pack X5 l5 y5 z5 N0 N5q (C := 0) (S' := 0) rfl rfl
  refine own_thr (a := T5.setTop (mkF m 20 #[.val (.ref o0), .val (.int p1)] [])) (fun t kt => st5.trans kt) ?_
  refine own_thr (a := T5.setTop (mkF m 21 #[.val (.ref o0), .val (.int p1)] [(.ref o0)])) (fun t kt => ?_) ?_
  · show Steps p.tables e below (T5.setTop (mkF m 20 #[.val (.ref o0), .val (.int p1)] [])) _
    refine XS.aloadN X5.here hx rfl (hb hby d4_20) rfl rfl ?_
    exact kt
  obtain ⟨T7, X7, e7, st7⟩ := getF X5 hx hZ hown (host := "") (Or.inl (hw _ (List.mem_of_getElem? (i := 16) rfl))) Via.refl rfl o5_3 (g := (mkF m 21 #[.val (.ref o0), .val (.int p1)] [(.ref o0)])) rfl rfl (hb hby d4_21)
  refine own_thr (a := T7.setTop (mkF m 24 #[.val (.ref o0), .val (.int p1)] [(.ref B)])) (fun t kt => st7 t kt) ?_
  refine own_thr (a := T7.setTop (mkF m 26 #[.val (.ref o0), .val (.int p1)] [(.int (0 : Int32)), (.int p1), (.ref B)])) (fun t kt => ?_) ?_
  · show Steps p.tables e below (T7.setTop (mkF m 24 #[.val (.ref o0), .val (.int p1)] [(.ref B)])) _
    refine XS.iloadN X7.here hx rfl (hb hby d4_24) rfl ?_
    refine XS.iconst X7.here hx rfl (hb hby d4_25) ?_
    exact kt
  obtain ⟨cl8, Ar8, S8, M8, H8⟩ := id o5_5
  have hin8 : ¬ (p1 < 0 ∨ cl8.slots.size ≤ (p1).toNatClampNeg) := inb_of S8 ⟨hp10, hp11⟩
  obtain ⟨T8, h8, X8, e8, W8, st8⟩ := stI X7 hx hZ e7 Ar8 (j := p1) hin8 (g := (mkF m 26 #[.val (.ref o0), .val (.int p1)] [(.int (0 : Int32)), (.int p1), (.ref B)])) rfl rfl (hb hby d4_26)
  have Z9 : n0 ≤ h8.size := Nat.le_trans Z6 (Nat.le_of_eq W8.size.symm)
  have Z9h : h0.size ≤ h8.size := Nat.le_trans Z6h (Nat.le_of_eq W8.size.symm)
  have V8 : own_AF Z h8 B n (own_up xB p1 (0 : Int32)) := own_AF.set Ar8 S8 M8 H8 hin8 W8
  obtain ⟨lc8, X8, N8⟩ := own_pack1 X8 N5 g_B
  refine own_thr (a := T8.setTop (mkF m 27 #[.val (.ref o0), .val (.int p1)] [])) (fun t kt => st8 t kt) ?_
  refine own_thr (a := T8.setTop (mkF m 28 #[.val (.ref o0), .val (.int p1)] [(.ref o0)])) (fun t kt => ?_) ?_
  · show Steps p.tables e below (T8.setTop (mkF m 27 #[.val (.ref o0), .val (.int p1)] [])) _
    refine XS.aloadN X8.here hx rfl (hb hby d4_27) rfl rfl ?_
    exact kt
  obtain ⟨T10, X10, e10, st10⟩ := getF X8 hx hZ hown (host := "") (Or.inl (hw _ (List.mem_of_getElem? (i := 18) rfl))) Via.refl e8 (o5_4.other W8 (Or.inl ne_o0_B)) (g := (mkF m 28 #[.val (.ref o0), .val (.int p1)] [(.ref o0)])) rfl rfl (hb hby d4_28)
  refine own_thr (a := T10.setTop (mkF m 31 #[.val (.ref o0), .val (.int p1)] [(.ref A)])) (fun t kt => st10 t kt) ?_
  refine own_thr (a := T10.setTop (mkF m 33 #[.val (.ref o0), .val (.int p1)] [(.int (0 : Int32)), (.int p1), (.ref A)])) (fun t kt => ?_) ?_
  · show Steps p.tables e below (T10.setTop (mkF m 31 #[.val (.ref o0), .val (.int p1)] [(.ref A)])) _
    refine XS.iloadN X10.here hx rfl (hb hby d4_31) rfl ?_
    refine XS.iconst X10.here hx rfl (hb hby d4_32) ?_
    exact kt
  obtain ⟨cl11, Ar11, S11, M11, H11⟩ := id (o5_6.other W8 (Ne.symm ne_B_A))
  have hin11 : ¬ (p1 < 0 ∨ cl11.slots.size ≤ (p1).toNatClampNeg) := inb_of S11 ⟨hp10, hp11⟩
  obtain ⟨T11, h11, X11, e11, W11, st11⟩ := stI X10 hx hZ e10 Ar11 (j := p1) hin11 (g := (mkF m 33 #[.val (.ref o0), .val (.int p1)] [(.int (0 : Int32)), (.int p1), (.ref A)])) rfl rfl (hb hby d4_33)
  have Z12 : n0 ≤ h11.size := Nat.le_trans Z9 (Nat.le_of_eq W11.size.symm)
  have Z12h : h0.size ≤ h11.size := Nat.le_trans Z9h (Nat.le_of_eq W11.size.symm)
  have V11 : own_AF Z h11 A n (own_up (own_up xA ((xB p1) - (1 : Int32)) (((xA p1) - (1 : Int32)) + (1 : Int32))) p1 (0 : Int32)) := own_AF.set Ar11 S11 M11 H11 hin11 W11
  obtain ⟨lc11, X11, N11⟩ := own_pack1 X11 N8 g_A
  refine own_thr (a := T11.setTop (mkF m 34 #[.val (.ref o0), .val (.int p1)] [])) (fun t kt => st11 t kt) ?_
  have c13 := ((o5_1.other W8 (Or.inl ne_o0_B)).other W11 (Or.inl ne_o0_A))
  have c14 := ((o5_2.other W8 (Or.inl ne_o0_B)).other W11 (Or.inl ne_o0_A))
  have c15 := ((o5_3.other W8 (Or.inl ne_o0_B)).other W11 (Or.inl ne_o0_A))
  have c16 := ((o5_4.other W8 (Or.inl ne_o0_B)).other W11 (Or.inl ne_o0_A))
  exact own_end X11 hlk (v := none) (fun _ => rfl) (fun fs hr => X11.returnOut hx Bd.returns (hb hby d4_34) hr) (by rw [e11]; exact ⟨rfl, N11, ((((Keep.refl h0 [o0, B, A]).trans K5 (allS (Or.inl (List.mem_of_getElem? (i := 0) rfl)) (allS (Or.inl (List.mem_of_getElem? (i := 1) rfl)) (allS (Or.inl (List.mem_of_getElem? (i := 2) rfl)) all0)))).wr W8 (Or.inl (List.mem_of_getElem? (i := 1) rfl))).wr W11 (Or.inl (List.mem_of_getElem? (i := 2) rfl))), ((o5_0.wr W8).wr W11), c13, c14, c15, c16, (V8.other W11 ne_B_A), V11⟩) (by decide : 0 ≤ _) (by decide : 0 ≤ _)
theorem ef_rmR11 (m : MethodId) (o0 : Addr) (p1 : Int32)  : entryFrame m #[(.ref o0), (.int p1)] 2 = mkF m 0 #[.val (.ref o0), .val (.int p1)] [] := by first |  (simp [entryFrame, mkF, argsToLocals, Value.category]; done) | rfl
def Q_rmR11 (Z : State) (o0 : Addr) (p1 : Int32) (B : Addr) (A : Addr) (n : Int32) (f : Int32) (la : Int32) (xB : Int32 → Int32) (xA : Int32 → Int32) (h0 : Heap) (n0 : Nat) (v : Option Value) (h : Heap) (L : List Loc) : Prop := v = none ∧ Fr n0 L ∧ Keep h0 h [o0, B, A] ∧ Exa Z h o0 "dev/chainlatch/bucket/Order" ∧ Fld Z h o0 "dev/chainlatch/bucket/Order" "first" "I" (.int f) ∧ Fld Z h o0 "dev/chainlatch/bucket/Order" "last" "I" (.int la) ∧ Fld Z h o0 "dev/chainlatch/bucket/Order" "before" "[I" (.ref B) ∧ Fld Z h o0 "dev/chainlatch/bucket/Order" "after" "[I" (.ref A) ∧ own_AF Z h B n (own_up (own_up xB ((xA p1) - (1 : Int32)) (((xB p1) - (1 : Int32)) + (1 : Int32))) p1 (0 : Int32)) ∧ own_AF Z h A n (own_up (own_up xA ((xB p1) - (1 : Int32)) (((xA p1) - (1 : Int32)) + (1 : Int32))) p1 (0 : Int32))
set_option maxRecDepth 65536 in
set_option maxHeartbeats 40000000 in
theorem rmR11 (l : Launch) (Z : State) (a0 : Array Value) (hw : ∀ d ∈ tables_1, d.before a0 Z = true) (ws : List Jvm.Cond) (o0 : Addr) (p1 : Int32) (B : Addr) (A : Addr) (n : Int32) (f : Int32) (la : Int32) (xB : Int32 → Int32) (xA : Int32 → Int32) (h0 : Heap) (n0 : Nat) (Z0 : n0 ≤ h0.size) (E_o0 : Exa Z h0 o0 "dev/chainlatch/bucket/Order") (F_first_o0 : Fld Z h0 o0 "dev/chainlatch/bucket/Order" "first" "I" (.int f)) (F_last_o0 : Fld Z h0 o0 "dev/chainlatch/bucket/Order" "last" "I" (.int la)) (F_before_o0 : Fld Z h0 o0 "dev/chainlatch/bucket/Order" "before" "[I" (.ref B)) (F_after_o0 : Fld Z h0 o0 "dev/chainlatch/bucket/Order" "after" "[I" (.ref A)) (V_B : own_AF Z h0 B n xB) (V_A : own_AF Z h0 A n xA) (g_o0 : n0 ≤ o0) (g_B : n0 ≤ B) (g_A : n0 ≤ A) (ne_o0_B : o0 ≠ B) (ne_o0_A : o0 ≠ A) (ne_B_A : B ≠ A) (hp10 : ¬ p1 < 0) (hp11 : p1 < n) (hP0 : ¬ ((xB p1) - (1 : Int32)) < 0) (hP1 : ((xB p1) - (1 : Int32)) < n) (hQ0 : ¬ ((xA p1) - (1 : Int32)) < 0) (hQ1 : ((xA p1) - (1 : Int32)) < n) :
    MetFree l (⟨"dev/chainlatch/bucket/Order", "remove", "(I)V"⟩ : MethodName) (head1 (Jvm.Cond.code (⟨"dev/chainlatch/bucket/Order", "remove", "(I)V"⟩ : MethodName) prog_10_method_6_code 2 none :: ws) ({ frames := 1, cells := 0, slots := 0, locals := 14 } : Room)) (fun a U => a = #[(.ref o0), (.int p1)] ∧ Z.Warmed39 U.vm ∧ U.heap = h0) (fun _ _ _ _ _ => True) (fun _ U o U' => ∃ v L, o = .returned v ∧ Q_rmR11 Z o0 p1 B A n f la xB xA h0 n0 v U'.heap L ∧ FrameEnd U o U' L ({ frames := 1, cells := 0, slots := 0, locals := 14 } : Room).cells ({ frames := 1, cells := 0, slots := 0, locals := 14 } : Room).slots) := by
  refine MetFree.of_bodySF (plainFor_of_name pn_dev_chainlatch_bucket_Order) hisR ?_
  intro p e s m args below meth c s₁ Bd hml0 hP hK
  obtain ⟨rfl, hZ, hh⟩ := hP
  have hx := Bd.exec
  have hby := Bd.bytes
  have hml : c.maxLocals = 2 := hml0
  have hown : s.vm.findClass "dev/chainlatch/bucket/Order" = some m.cls := findClass_of_methodNamed Bd.named
  have hnm := (name_of_methodNamed Bd.named Bd.method).1
  have hlk := Bd.notSynchronized
  have X0 : Stand p l e ({ frames := 1, cells := 0, slots := 0, locals := 14 } : Room) s m #[(.ref o0), (.int p1)] below meth c s₁ [] 0 0 := Stand.of_body Bd
  have e0 : s₁.heap = h0 := by rw [← hh, Bd.state]; rfl
  have N0 := Fr.nil n0
  show own_G p.tables e below s (Q_rmR11 Z o0 p1 B A n f la xB xA h0 n0) ({ frames := 1, cells := 0, slots := 0, locals := 14 } : Room).cells ({ frames := 1, cells := 0, slots := 0, locals := 14 } : Room).slots _
  refine own_thr (a := s₁.setTop (mkF m 0 #[.val (.ref o0), .val (.int p1)] [])) (fun t kt => castTop (ef_rmR11 m o0 p1) kt) ?_
  refine own_thr (a := s₁.setTop (mkF m 2 #[.val (.ref o0), .val (.int p1)] [(.ref o0), (.ref o0)])) (fun t kt => ?_) ?_
  · show Steps p.tables e below (s₁.setTop (mkF m 0 #[.val (.ref o0), .val (.int p1)] [])) _
    refine XS.aloadN X0.here hx rfl (hb hby d4_0) rfl rfl ?_
    refine XS.aloadN X0.here hx rfl (hb hby d4_1) rfl rfl ?_
    exact kt
  obtain ⟨T1, X1, e1, st1⟩ := getF X0 hx hZ hown (host := "") (Or.inl (hw _ (List.mem_of_getElem? (i := 16) rfl))) Via.refl e0 F_before_o0 (g := (mkF m 2 #[.val (.ref o0), .val (.int p1)] [(.ref o0), (.ref o0)])) rfl rfl (hb hby d4_2)
  refine own_thr (a := T1.setTop (mkF m 5 #[.val (.ref o0), .val (.int p1)] [(.ref B), (.ref o0)])) (fun t kt => st1 t kt) ?_
  refine own_thr (a := T1.setTop (mkF m 6 #[.val (.ref o0), .val (.int p1)] [(.int p1), (.ref B), (.ref o0)])) (fun t kt => ?_) ?_
  · show Steps p.tables e below (T1.setTop (mkF m 5 #[.val (.ref o0), .val (.int p1)] [(.ref B), (.ref o0)])) _
    refine XS.iloadN X1.here hx rfl (hb hby d4_5) rfl ?_
    exact kt
  obtain ⟨cl2, Ar2, S2, M2, H2⟩ := id V_B
  have hin2 : ¬ (p1 < 0 ∨ cl2.slots.size ≤ (p1).toNatClampNeg) := inb_of S2 ⟨hp10, hp11⟩
  refine own_thr (a := T1.setTop (mkF m 10 #[.val (.ref o0), .val (.int p1)] [(.ref o0), (.int ((xB p1) - (1 : Int32))), (.ref o0)])) (fun t kt => ?_) ?_
  · show Steps p.tables e below (T1.setTop (mkF m 6 #[.val (.ref o0), .val (.int p1)] [(.int p1), (.ref B), (.ref o0)])) _
    refine X1.iaload hx (j := p1) (v := (.int (xB p1))) (by rw [e1]; exact Ar2.1) (State.isArrayOf_alike hZ.alike Ar2.2.1) Ar2.2.2 hin2 (H2 p1 hp10 hp11) (g := (mkF m 6 #[.val (.ref o0), .val (.int p1)] [(.int p1), (.ref B), (.ref o0)])) rfl rfl (hb hby d4_6) _ ?_
    refine XS.iconst X1.here hx rfl (hb hby d4_7) ?_
    refine XS.isub X1.here hx rfl (hb hby d4_8) rfl ?_
    refine XS.aloadN X1.here hx rfl (hb hby d4_9) rfl rfl ?_
    exact kt
  obtain ⟨T3, X3, e3, st3⟩ := getF X1 hx hZ hown (host := "") (Or.inl (hw _ (List.mem_of_getElem? (i := 18) rfl))) Via.refl e1 F_after_o0 (g := (mkF m 10 #[.val (.ref o0), .val (.int p1)] [(.ref o0), (.int ((xB p1) - (1 : Int32))), (.ref o0)])) rfl rfl (hb hby d4_10)
  refine own_thr (a := T3.setTop (mkF m 13 #[.val (.ref o0), .val (.int p1)] [(.ref A), (.int ((xB p1) - (1 : Int32))), (.ref o0)])) (fun t kt => st3 t kt) ?_
  refine own_thr (a := T3.setTop (mkF m 14 #[.val (.ref o0), .val (.int p1)] [(.int p1), (.ref A), (.int ((xB p1) - (1 : Int32))), (.ref o0)])) (fun t kt => ?_) ?_
  · show Steps p.tables e below (T3.setTop (mkF m 13 #[.val (.ref o0), .val (.int p1)] [(.ref A), (.int ((xB p1) - (1 : Int32))), (.ref o0)])) _
    refine XS.iloadN X3.here hx rfl (hb hby d4_13) rfl ?_
    exact kt
  obtain ⟨cl4, Ar4, S4, M4, H4⟩ := id V_A
  have hin4 : ¬ (p1 < 0 ∨ cl4.slots.size ≤ (p1).toNatClampNeg) := inb_of S4 ⟨hp10, hp11⟩
  refine own_thr (a := T3.setTop (mkF m 17 #[.val (.ref o0), .val (.int p1)] [(.int ((xA p1) - (1 : Int32))), (.int ((xB p1) - (1 : Int32))), (.ref o0)])) (fun t kt => ?_) ?_
  · show Steps p.tables e below (T3.setTop (mkF m 14 #[.val (.ref o0), .val (.int p1)] [(.int p1), (.ref A), (.int ((xB p1) - (1 : Int32))), (.ref o0)])) _
    refine X3.iaload hx (j := p1) (v := (.int (xA p1))) (by rw [e3]; exact Ar4.1) (State.isArrayOf_alike hZ.alike Ar4.2.1) Ar4.2.2 hin4 (H4 p1 hp10 hp11) (g := (mkF m 14 #[.val (.ref o0), .val (.int p1)] [(.int p1), (.ref A), (.int ((xB p1) - (1 : Int32))), (.ref o0)])) rfl rfl (hb hby d4_14) _ ?_
    refine XS.iconst X3.here hx rfl (hb hby d4_15) ?_
    refine XS.isub X3.here hx rfl (hb hby d4_16) rfl ?_
    exact kt
  obtain ⟨cq5, q5, q5'⟩ := E_o0.cell
  obtain ⟨_, _, ⟨T5, L5, k5, n5⟩, -, X5, ⟨Lc5, hQ5, l5, y5, z5⟩, st5⟩ := X3.privateBack hx (y := (⟨"dev/chainlatch/bucket/Order", "link", "(II)V"⟩ : MethodName)) hown (mvT hZ (hw _ (List.mem_of_getElem? (i := 30) rfl))) (mvT hZ (hw _ (List.mem_of_getElem? (i := 31) rfl))) (own_sel hZ hw) (Cond.privateMethod_at (mvP hZ (hw _ (List.mem_of_getElem? (i := 32) rfl)) (args := #[]))) (mvT hZ (hw _ (List.mem_of_getElem? (i := 33) rfl))) (by decide) (backOf (W := 0) (rmL11 l Z a0 hw [] o0 ((xB p1) - (1 : Int32)) ((xA p1) - (1 : Int32)) B A n f la xB xA h0 n0 Z0 E_o0 F_first_o0 F_last_o0 F_before_o0 F_after_o0 V_B V_A g_o0 g_B g_A ne_o0_B ne_o0_A ne_B_A hP0 hP1 hQ0 hQ1) hZ (hw _ (List.mem_of_getElem? (i := 33) rfl)) (hw _ (List.mem_of_getElem? (i := 5) rfl)) (by decide) (by decide)) (g := (mkF m 17 #[.val (.ref o0), .val (.int p1)] [(.int ((xA p1) - (1 : Int32))), (.int ((xB p1) - (1 : Int32))), (.ref o0)])) rfl (by rw [hml]; rfl) (Steps.refl _) (a := o0) (by rw [e3]; exact q5) q5' (argsL := [(.int ((xB p1) - (1 : Int32))), (.int ((xA p1) - (1 : Int32)))]) (rest := []) (lenOf pd__28II_29V rfl) rfl (by show 2 * 0 + _ ≤ _; exact Nat.le_of_eq rfl) (hb hby d4_17) (fun _ _ => ⟨rfl, e3, (by decide : 0 + 0 ≤ _), (by decide : 0 + 0 ≤ _)⟩)
  dsimp only [Pt.U, Pt.locs, Pt.cells, Pt.slots] at X5 l5 y5 z5 st5 hQ5
  obtain ⟨rfl, N5q, K5, o5_0, o5_1, o5_2, o5_3, o5_4, o5_5, o5_6⟩ := hQ5
  have Z6 : n0 ≤ T5.heap.size := Nat.le_trans Z0 K5.1
  have Z6h : h0.size ≤ T5.heap.size := Nat.le_trans (Nat.le_refl h0.size) K5.1
  obtain ⟨lc5, X5, N5⟩ := own_pack X5 l5 y5 z5 N0 N5q (C := 0) (S' := 0) rfl rfl
  refine own_thr (a := T5.setTop (mkF m 20 #[.val (.ref o0), .val (.int p1)] [])) (fun t kt => st5.trans kt) ?_
  refine own_thr (a := T5.setTop (mkF m 21 #[.val (.ref o0), .val (.int p1)] [(.ref o0)])) (fun t kt => ?_) ?_
  · show Steps p.tables e below (T5.setTop (mkF m 20 #[.val (.ref o0), .val (.int p1)] [])) _
    refine XS.aloadN X5.here hx rfl (hb hby d4_20) rfl rfl ?_
    exact kt
  obtain ⟨T7, X7, e7, st7⟩ := getF X5 hx hZ hown (host := "") (Or.inl (hw _ (List.mem_of_getElem? (i := 16) rfl))) Via.refl rfl o5_3 (g := (mkF m 21 #[.val (.ref o0), .val (.int p1)] [(.ref o0)])) rfl rfl (hb hby d4_21)
  refine own_thr (a := T7.setTop (mkF m 24 #[.val (.ref o0), .val (.int p1)] [(.ref B)])) (fun t kt => st7 t kt) ?_
  refine own_thr (a := T7.setTop (mkF m 26 #[.val (.ref o0), .val (.int p1)] [(.int (0 : Int32)), (.int p1), (.ref B)])) (fun t kt => ?_) ?_
  · show Steps p.tables e below (T7.setTop (mkF m 24 #[.val (.ref o0), .val (.int p1)] [(.ref B)])) _
    refine XS.iloadN X7.here hx rfl (hb hby d4_24) rfl ?_
    refine XS.iconst X7.here hx rfl (hb hby d4_25) ?_
    exact kt
  obtain ⟨cl8, Ar8, S8, M8, H8⟩ := id o5_5
  have hin8 : ¬ (p1 < 0 ∨ cl8.slots.size ≤ (p1).toNatClampNeg) := inb_of S8 ⟨hp10, hp11⟩
  obtain ⟨T8, h8, X8, e8, W8, st8⟩ := stI X7 hx hZ e7 Ar8 (j := p1) hin8 (g := (mkF m 26 #[.val (.ref o0), .val (.int p1)] [(.int (0 : Int32)), (.int p1), (.ref B)])) rfl rfl (hb hby d4_26)
  have Z9 : n0 ≤ h8.size := Nat.le_trans Z6 (Nat.le_of_eq W8.size.symm)
  have Z9h : h0.size ≤ h8.size := Nat.le_trans Z6h (Nat.le_of_eq W8.size.symm)
  have V8 : own_AF Z h8 B n (own_up (own_up xB ((xA p1) - (1 : Int32)) (((xB p1) - (1 : Int32)) + (1 : Int32))) p1 (0 : Int32)) := own_AF.set Ar8 S8 M8 H8 hin8 W8
  obtain ⟨lc8, X8, N8⟩ := own_pack1 X8 N5 g_B
  refine own_thr (a := T8.setTop (mkF m 27 #[.val (.ref o0), .val (.int p1)] [])) (fun t kt => st8 t kt) ?_
  refine own_thr (a := T8.setTop (mkF m 28 #[.val (.ref o0), .val (.int p1)] [(.ref o0)])) (fun t kt => ?_) ?_
  · show Steps p.tables e below (T8.setTop (mkF m 27 #[.val (.ref o0), .val (.int p1)] [])) _
    refine XS.aloadN X8.here hx rfl (hb hby d4_27) rfl rfl ?_
    exact kt
  obtain ⟨T10, X10, e10, st10⟩ := getF X8 hx hZ hown (host := "") (Or.inl (hw _ (List.mem_of_getElem? (i := 18) rfl))) Via.refl e8 (o5_4.other W8 (Or.inl ne_o0_B)) (g := (mkF m 28 #[.val (.ref o0), .val (.int p1)] [(.ref o0)])) rfl rfl (hb hby d4_28)
  refine own_thr (a := T10.setTop (mkF m 31 #[.val (.ref o0), .val (.int p1)] [(.ref A)])) (fun t kt => st10 t kt) ?_
  refine own_thr (a := T10.setTop (mkF m 33 #[.val (.ref o0), .val (.int p1)] [(.int (0 : Int32)), (.int p1), (.ref A)])) (fun t kt => ?_) ?_
  · show Steps p.tables e below (T10.setTop (mkF m 31 #[.val (.ref o0), .val (.int p1)] [(.ref A)])) _
    refine XS.iloadN X10.here hx rfl (hb hby d4_31) rfl ?_
    refine XS.iconst X10.here hx rfl (hb hby d4_32) ?_
    exact kt
  obtain ⟨cl11, Ar11, S11, M11, H11⟩ := id (o5_6.other W8 (Ne.symm ne_B_A))
  have hin11 : ¬ (p1 < 0 ∨ cl11.slots.size ≤ (p1).toNatClampNeg) := inb_of S11 ⟨hp10, hp11⟩
  obtain ⟨T11, h11, X11, e11, W11, st11⟩ := stI X10 hx hZ e10 Ar11 (j := p1) hin11 (g := (mkF m 33 #[.val (.ref o0), .val (.int p1)] [(.int (0 : Int32)), (.int p1), (.ref A)])) rfl rfl (hb hby d4_33)
  have Z12 : n0 ≤ h11.size := Nat.le_trans Z9 (Nat.le_of_eq W11.size.symm)
  have Z12h : h0.size ≤ h11.size := Nat.le_trans Z9h (Nat.le_of_eq W11.size.symm)
  have V11 : own_AF Z h11 A n (own_up (own_up xA ((xB p1) - (1 : Int32)) (((xA p1) - (1 : Int32)) + (1 : Int32))) p1 (0 : Int32)) := own_AF.set Ar11 S11 M11 H11 hin11 W11
  obtain ⟨lc11, X11, N11⟩ := own_pack1 X11 N8 g_A
  refine own_thr (a := T11.setTop (mkF m 34 #[.val (.ref o0), .val (.int p1)] [])) (fun t kt => st11 t kt) ?_
  have c13 := ((o5_1.other W8 (Or.inl ne_o0_B)).other W11 (Or.inl ne_o0_A))
  have c14 := ((o5_2.other W8 (Or.inl ne_o0_B)).other W11 (Or.inl ne_o0_A))
  have c15 := ((o5_3.other W8 (Or.inl ne_o0_B)).other W11 (Or.inl ne_o0_A))
  have c16 := ((o5_4.other W8 (Or.inl ne_o0_B)).other W11 (Or.inl ne_o0_A))
  exact own_end X11 hlk (v := none) (fun _ => rfl) (fun fs hr => X11.returnOut hx Bd.returns (hb hby d4_34) hr) (by rw [e11]; exact ⟨rfl, N11, ((((Keep.refl h0 [o0, B, A]).trans K5 (allS (Or.inl (List.mem_of_getElem? (i := 0) rfl)) (allS (Or.inl (List.mem_of_getElem? (i := 1) rfl)) (allS (Or.inl (List.mem_of_getElem? (i := 2) rfl)) all0)))).wr W8 (Or.inl (List.mem_of_getElem? (i := 1) rfl))).wr W11 (Or.inl (List.mem_of_getElem? (i := 2) rfl))), ((o5_0.wr W8).wr W11), c13, c14, c15, c16, (V8.other W11 ne_B_A), V11⟩) (by decide : 0 ≤ _) (by decide : 0 ≤ _)
theorem d6_0 : decode prog_10_method_3_code 0 = .ok (.aload_n 0, 1) := by decide +kernel
theorem d6_1 : decode prog_10_method_3_code 1 = .ok (.getfield 9, 3) := by decide +kernel
theorem d6_4 : decode prog_10_method_3_code 4 = .ok (.ireturn, 1) := by decide +kernel
theorem ef_rmF (m : MethodId) (o0 : Addr)  : entryFrame m #[(.ref o0)] 1 = mkF m 0 #[.val (.ref o0)] [] := by first |  (simp [entryFrame, mkF, argsToLocals, Value.category]; done) | rfl
def Q_rmF (Z : State) (o0 : Addr) (f : Int32) (h0 : Heap) (n0 : Nat) (v : Option Value) (h : Heap) (L : List Loc) : Prop := v = some (.int f) ∧ Fr n0 L ∧ h = h0
set_option maxRecDepth 65536 in
set_option maxHeartbeats 40000000 in
theorem rmF (l : Launch) (Z : State) (a0 : Array Value) (hw : ∀ d ∈ tables_1, d.before a0 Z = true) (ws : List Jvm.Cond) (o0 : Addr) (f : Int32) (h0 : Heap) (n0 : Nat) (Z0 : n0 ≤ h0.size) (F_first_o0 : Fld Z h0 o0 "dev/chainlatch/bucket/Order" "first" "I" (.int f)) :
    MetFree l (⟨"dev/chainlatch/bucket/Order", "first", "()I"⟩ : MethodName) (head1 (Jvm.Cond.code (⟨"dev/chainlatch/bucket/Order", "first", "()I"⟩ : MethodName) prog_10_method_3_code 1 (some .int) :: ws) ({ frames := 0, cells := 0, slots := 0, locals := 0 } : Room)) (fun a U => a = #[(.ref o0)] ∧ Z.Warmed39 U.vm ∧ U.heap = h0) (fun _ _ _ _ _ => True) (fun _ U o U' => ∃ v L, o = .returned v ∧ Q_rmF Z o0 f h0 n0 v U'.heap L ∧ FrameEnd U o U' L ({ frames := 0, cells := 0, slots := 0, locals := 0 } : Room).cells ({ frames := 0, cells := 0, slots := 0, locals := 0 } : Room).slots) := by
  refine MetFree.of_bodySF (plainFor_of_name pn_dev_chainlatch_bucket_Order) hisR ?_
  intro p e s m args below meth c s₁ Bd hml0 hP hK
  obtain ⟨rfl, hZ, hh⟩ := hP
  have hx := Bd.exec
  have hby := Bd.bytes
  have hml : c.maxLocals = 1 := hml0
  have hown : s.vm.findClass "dev/chainlatch/bucket/Order" = some m.cls := findClass_of_methodNamed Bd.named
  have hnm := (name_of_methodNamed Bd.named Bd.method).1
  have hlk := Bd.notSynchronized
  have X0 : Stand p l e ({ frames := 0, cells := 0, slots := 0, locals := 0 } : Room) s m #[(.ref o0)] below meth c s₁ [] 0 0 := Stand.of_body Bd
  have e0 : s₁.heap = h0 := by rw [← hh, Bd.state]; rfl
  have N0 := Fr.nil n0
  show own_G p.tables e below s (Q_rmF Z o0 f h0 n0) ({ frames := 0, cells := 0, slots := 0, locals := 0 } : Room).cells ({ frames := 0, cells := 0, slots := 0, locals := 0 } : Room).slots _
  refine own_thr (a := s₁.setTop (mkF m 0 #[.val (.ref o0)] [])) (fun t kt => castTop (ef_rmF m o0) kt) ?_
  refine own_thr (a := s₁.setTop (mkF m 1 #[.val (.ref o0)] [(.ref o0)])) (fun t kt => ?_) ?_
  · show Steps p.tables e below (s₁.setTop (mkF m 0 #[.val (.ref o0)] [])) _
    refine XS.aloadN X0.here hx rfl (hb hby d6_0) rfl rfl ?_
    exact kt
  obtain ⟨T1, X1, e1, st1⟩ := getF X0 hx hZ hown (host := "") (Or.inl (hw _ (List.mem_of_getElem? (i := 12) rfl))) Via.refl e0 F_first_o0 (g := (mkF m 1 #[.val (.ref o0)] [(.ref o0)])) rfl rfl (hb hby d6_1)
  refine own_thr (a := T1.setTop (mkF m 4 #[.val (.ref o0)] [(.int f)])) (fun t kt => st1 t kt) ?_
  exact own_end X1 hlk (v := some (.int f)) (fun h => by rw [Bd.returns] at h; cases h) (fun fs hr => retI X1 hx Bd.returns (hb hby d6_4) hr) (by rw [e1]; exact ⟨rfl, N0, rfl⟩) (by decide : 0 ≤ _) (by decide : 0 ≤ _)
theorem d7_0 : decode prog_10_method_4_code 0 = .ok (.aload_n 0, 1) := by decide +kernel
theorem d7_1 : decode prog_10_method_4_code 1 = .ok (.getfield 22, 3) := by decide +kernel
theorem d7_4 : decode prog_10_method_4_code 4 = .ok (.iload_n 1, 1) := by decide +kernel
theorem d7_5 : decode prog_10_method_4_code 5 = .ok (.iaload, 1) := by decide +kernel
theorem d7_6 : decode prog_10_method_4_code 6 = .ok (.iconst 1, 1) := by decide +kernel
theorem d7_7 : decode prog_10_method_4_code 7 = .ok (.isub, 1) := by decide +kernel
theorem d7_8 : decode prog_10_method_4_code 8 = .ok (.ireturn, 1) := by decide +kernel
theorem ef_rmN (m : MethodId) (o0 : Addr) (p1 : Int32)  : entryFrame m #[(.ref o0), (.int p1)] 2 = mkF m 0 #[.val (.ref o0), .val (.int p1)] [] := by first |  (simp [entryFrame, mkF, argsToLocals, Value.category]; done) | rfl
def Q_rmN (Z : State) (o0 : Addr) (p1 : Int32) (A : Addr) (n : Int32) (xA : Int32 → Int32) (h0 : Heap) (n0 : Nat) (v : Option Value) (h : Heap) (L : List Loc) : Prop := v = some (.int ((xA p1) - (1 : Int32))) ∧ Fr n0 L ∧ h = h0
set_option maxRecDepth 65536 in
set_option maxHeartbeats 40000000 in
theorem rmN (l : Launch) (Z : State) (a0 : Array Value) (hw : ∀ d ∈ tables_1, d.before a0 Z = true) (ws : List Jvm.Cond) (o0 : Addr) (p1 : Int32) (A : Addr) (n : Int32) (xA : Int32 → Int32) (h0 : Heap) (n0 : Nat) (Z0 : n0 ≤ h0.size) (F_after_o0 : Fld Z h0 o0 "dev/chainlatch/bucket/Order" "after" "[I" (.ref A)) (V_A : own_AF Z h0 A n xA) (hp10 : ¬ p1 < 0) (hp11 : p1 < n) :
    MetFree l (⟨"dev/chainlatch/bucket/Order", "after", "(I)I"⟩ : MethodName) (head1 (Jvm.Cond.code (⟨"dev/chainlatch/bucket/Order", "after", "(I)I"⟩ : MethodName) prog_10_method_4_code 2 (some .int) :: ws) ({ frames := 0, cells := 0, slots := 0, locals := 0 } : Room)) (fun a U => a = #[(.ref o0), (.int p1)] ∧ Z.Warmed39 U.vm ∧ U.heap = h0) (fun _ _ _ _ _ => True) (fun _ U o U' => ∃ v L, o = .returned v ∧ Q_rmN Z o0 p1 A n xA h0 n0 v U'.heap L ∧ FrameEnd U o U' L ({ frames := 0, cells := 0, slots := 0, locals := 0 } : Room).cells ({ frames := 0, cells := 0, slots := 0, locals := 0 } : Room).slots) := by
  refine MetFree.of_bodySF (plainFor_of_name pn_dev_chainlatch_bucket_Order) hisR ?_
  intro p e s m args below meth c s₁ Bd hml0 hP hK
  obtain ⟨rfl, hZ, hh⟩ := hP
  have hx := Bd.exec
  have hby := Bd.bytes
  have hml : c.maxLocals = 2 := hml0
  have hown : s.vm.findClass "dev/chainlatch/bucket/Order" = some m.cls := findClass_of_methodNamed Bd.named
  have hnm := (name_of_methodNamed Bd.named Bd.method).1
  have hlk := Bd.notSynchronized
  have X0 : Stand p l e ({ frames := 0, cells := 0, slots := 0, locals := 0 } : Room) s m #[(.ref o0), (.int p1)] below meth c s₁ [] 0 0 := Stand.of_body Bd
  have e0 : s₁.heap = h0 := by rw [← hh, Bd.state]; rfl
  have N0 := Fr.nil n0
  show own_G p.tables e below s (Q_rmN Z o0 p1 A n xA h0 n0) ({ frames := 0, cells := 0, slots := 0, locals := 0 } : Room).cells ({ frames := 0, cells := 0, slots := 0, locals := 0 } : Room).slots _
  refine own_thr (a := s₁.setTop (mkF m 0 #[.val (.ref o0), .val (.int p1)] [])) (fun t kt => castTop (ef_rmN m o0 p1) kt) ?_
  refine own_thr (a := s₁.setTop (mkF m 1 #[.val (.ref o0), .val (.int p1)] [(.ref o0)])) (fun t kt => ?_) ?_
  · show Steps p.tables e below (s₁.setTop (mkF m 0 #[.val (.ref o0), .val (.int p1)] [])) _
    refine XS.aloadN X0.here hx rfl (hb hby d7_0) rfl rfl ?_
    exact kt
  obtain ⟨T1, X1, e1, st1⟩ := getF X0 hx hZ hown (host := "") (Or.inl (hw _ (List.mem_of_getElem? (i := 18) rfl))) Via.refl e0 F_after_o0 (g := (mkF m 1 #[.val (.ref o0), .val (.int p1)] [(.ref o0)])) rfl rfl (hb hby d7_1)
  refine own_thr (a := T1.setTop (mkF m 4 #[.val (.ref o0), .val (.int p1)] [(.ref A)])) (fun t kt => st1 t kt) ?_
  refine own_thr (a := T1.setTop (mkF m 5 #[.val (.ref o0), .val (.int p1)] [(.int p1), (.ref A)])) (fun t kt => ?_) ?_
  · show Steps p.tables e below (T1.setTop (mkF m 4 #[.val (.ref o0), .val (.int p1)] [(.ref A)])) _
    refine XS.iloadN X1.here hx rfl (hb hby d7_4) rfl ?_
    exact kt
  obtain ⟨cl2, Ar2, S2, M2, H2⟩ := id V_A
  have hin2 : ¬ (p1 < 0 ∨ cl2.slots.size ≤ (p1).toNatClampNeg) := inb_of S2 ⟨hp10, hp11⟩
  refine own_thr (a := T1.setTop (mkF m 8 #[.val (.ref o0), .val (.int p1)] [(.int ((xA p1) - (1 : Int32)))])) (fun t kt => ?_) ?_
  · show Steps p.tables e below (T1.setTop (mkF m 5 #[.val (.ref o0), .val (.int p1)] [(.int p1), (.ref A)])) _
    refine X1.iaload hx (j := p1) (v := (.int (xA p1))) (by rw [e1]; exact Ar2.1) (State.isArrayOf_alike hZ.alike Ar2.2.1) Ar2.2.2 hin2 (H2 p1 hp10 hp11) (g := (mkF m 5 #[.val (.ref o0), .val (.int p1)] [(.int p1), (.ref A)])) rfl rfl (hb hby d7_5) _ ?_
    refine XS.iconst X1.here hx rfl (hb hby d7_6) ?_
    refine XS.isub X1.here hx rfl (hb hby d7_7) rfl ?_
    exact kt
  exact own_end X1 hlk (v := some (.int ((xA p1) - (1 : Int32)))) (fun h => by rw [Bd.returns] at h; cases h) (fun fs hr => retI X1 hx Bd.returns (hb hby d7_8) hr) (by rw [e1]; exact ⟨rfl, N0, rfl⟩) (by decide : 0 ≤ _) (by decide : 0 ≤ _)
theorem own_n (x : Int32) : 3 ≤ ((3 : Int32) + (x &&& (7 : Int32))).toInt ∧ ((3 : Int32) + (x &&& (7 : Int32))).toInt ≤ 10 := by
  have h := c_mask x 7 3 (by decide) (by decide)
  have a := c_iadd (3 : Int32) (x &&& (7 : Int32))
  have r := rng32 ((3 : Int32) + (x &&& (7 : Int32)))
  have e3 : (3 : Int32).toInt = 3 := rfl
  omega
theorem own_sub {n : Int32} (c : Int32) (Hn : 3 ≤ n.toInt ∧ n.toInt ≤ 10) (hc : 0 ≤ c.toInt ∧ c.toInt ≤ 2) : (n - c).toInt = n.toInt - c.toInt := by
  have a := c_isub n c
  have r := rng32 (n - c)
  omega
theorem own_nz {n : Int32} (Hn : 3 ≤ n.toInt ∧ n.toInt ≤ 10) : n ≠ 0 := fun e => by
  subst e; exact absurd Hn.1 (by decide)
theorem own_nzc {n : Int32} (c : Int32) (Hn : 3 ≤ n.toInt ∧ n.toInt ≤ 10) (hc : 0 ≤ c.toInt ∧ c.toInt ≤ 2) : n - c ≠ 0 := fun e => by
  have h := own_sub c Hn hc
  rw [e] at h
  have h0 : (0 : Int32).toInt = 0 := rfl
  omega
theorem own_md (x m : Int32) (hm : 0 < m.toInt) : 0 ≤ ((x &&& (2147483647 : Int32)) % m).toInt ∧ ((x &&& (2147483647 : Int32)) % m).toInt < m.toInt := by
  have h := c_mask x 2147483647 31 (by decide) (by decide)
  obtain ⟨h1, h2, -⟩ := (c_iremV (x &&& (2147483647 : Int32)) m).1 (by omega) hm
  exact ⟨h1, h2⟩
theorem own_d {n : Int32} (c x : Int32) (Hn : 3 ≤ n.toInt ∧ n.toInt ≤ 10) (hc : 0 ≤ c.toInt ∧ c.toInt ≤ 2) : 1 ≤ ((1 : Int32) + ((x &&& (2147483647 : Int32)) % (n - c))).toInt ∧ ((1 : Int32) + ((x &&& (2147483647 : Int32)) % (n - c))).toInt ≤ n.toInt - c.toInt := by
  have hs := own_sub c Hn hc
  obtain ⟨h1, h2⟩ := own_md x (n - c) (by omega)
  have a := c_iadd (1 : Int32) ((x &&& (2147483647 : Int32)) % (n - c))
  have r := rng32 ((1 : Int32) + ((x &&& (2147483647 : Int32)) % (n - c)))
  have e1 : (1 : Int32).toInt = 1 := rfl
  omega
theorem own_d2 {n d t : Int32} (Hn : 3 ≤ n.toInt ∧ n.toInt ≤ 10) (Hd : 1 ≤ d.toInt ∧ d.toInt ≤ n.toInt - 1) (Ht : 1 ≤ t.toInt ∧ t.toInt ≤ n.toInt - 2) :
    1 ≤ ((1 : Int32) + (((d - (1 : Int32)) + t) % (n - (1 : Int32)))).toInt ∧ ((1 : Int32) + (((d - (1 : Int32)) + t) % (n - (1 : Int32)))).toInt ≤ n.toInt - 1 ∧ ((1 : Int32) + (((d - (1 : Int32)) + t) % (n - (1 : Int32)))).toInt ≠ d.toInt := by
  have hs := own_sub (1 : Int32) Hn (by decide)
  have e1 : (1 : Int32).toInt = 1 := rfl
  have b1 := c_isub d (1 : Int32)
  have b2 := rng32 (d - (1 : Int32))
  have b3 := c_iadd (d - (1 : Int32)) t
  have b4 := rng32 ((d - (1 : Int32)) + t)
  obtain ⟨h1, h2, h3, h4, h5⟩ := (c_iremV ((d - (1 : Int32)) + t) (n - (1 : Int32))).1 (by omega) (by omega)
  have a := c_iadd (1 : Int32) (((d - (1 : Int32)) + t) % (n - (1 : Int32)))
  have r := rng32 ((1 : Int32) + (((d - (1 : Int32)) + t) % (n - (1 : Int32))))
  rcases Int.lt_or_le ((d - (1 : Int32)) + t).toInt (n - (1 : Int32)).toInt with q | q
  · have h6 := h4 q; omega
  · have h6 := h5 q (by omega); omega
theorem own_s {n s d : Int32} (Hn : 3 ≤ n.toInt ∧ n.toInt ≤ 10) (Hs : 0 ≤ s.toInt ∧ s.toInt < n.toInt) (Hd : 1 ≤ d.toInt ∧ d.toInt ≤ n.toInt - 1) :
    (((s + d) % n).toInt = s.toInt + d.toInt ∨ ((s + d) % n).toInt = s.toInt + d.toInt - n.toInt) ∧ 0 ≤ ((s + d) % n).toInt ∧ ((s + d) % n).toInt < n.toInt := by
  have a := c_iadd s d
  have r := rng32 (s + d)
  obtain ⟨h1, h2, h3, h4, h5⟩ := (c_iremV (s + d) n).1 (by omega) (by omega)
  rcases Int.lt_or_le (s + d).toInt n.toInt with q | q
  · have h6 := h4 q; omega
  · have h6 := h5 q (by omega); omega
theorem own_k (x : Int32) : (1 : Int32) + ((x &&& (2147483647 : Int32)) % (3 : Int32)) = 1 ∨ (1 : Int32) + ((x &&& (2147483647 : Int32)) % (3 : Int32)) = 2 ∨ (1 : Int32) + ((x &&& (2147483647 : Int32)) % (3 : Int32)) = 3 := by
  obtain ⟨h1, h2⟩ := own_md x (3 : Int32) (by decide)
  have a := c_iadd (1 : Int32) ((x &&& (2147483647 : Int32)) % (3 : Int32))
  have r := rng32 ((1 : Int32) + ((x &&& (2147483647 : Int32)) % (3 : Int32)))
  have e1 : (1 : Int32).toInt = 1 := rfl
  have e2 : (2 : Int32).toInt = 2 := rfl
  have e3 : (3 : Int32).toInt = 3 := rfl
  simp only [← Int32.toInt_inj]
  omega
theorem own_r (x k : Int32) (hk : 0 < k.toInt) : 0 ≤ ((x &&& (65535 : Int32)) % k).toInt ∧ ((x &&& (65535 : Int32)) % k).toInt < k.toInt := by
  have h := c_mask x 65535 16 (by decide) (by decide)
  obtain ⟨h1, h2, -⟩ := (c_iremV (x &&& (65535 : Int32)) k).1 (by omega) hk
  exact ⟨h1, h2⟩
theorem own_r1 (x : Int32) : (x &&& (65535 : Int32)) % (1 : Int32) = 0 := by
  have h := own_r x 1 (by decide)
  have e1 : (1 : Int32).toInt = 1 := rfl
  have e0 : (0 : Int32).toInt = 0 := rfl
  rw [← Int32.toInt_inj]; omega
theorem own_r2 (x : Int32) : (x &&& (65535 : Int32)) % (2 : Int32) = 0 ∨ (x &&& (65535 : Int32)) % (2 : Int32) = 1 := by
  have h := own_r x 2 (by decide)
  have e2 : (2 : Int32).toInt = 2 := rfl
  have e1 : (1 : Int32).toInt = 1 := rfl
  have e0 : (0 : Int32).toInt = 0 := rfl
  simp only [← Int32.toInt_inj]; omega
theorem own_r3 (x : Int32) : (x &&& (65535 : Int32)) % (3 : Int32) = 0 ∨ (x &&& (65535 : Int32)) % (3 : Int32) = 1 ∨ (x &&& (65535 : Int32)) % (3 : Int32) = 2 := by
  have h := own_r x 3 (by decide)
  have e3 : (3 : Int32).toInt = 3 := rfl
  have e2 : (2 : Int32).toInt = 2 := rfl
  have e1 : (1 : Int32).toInt = 1 := rfl
  have e0 : (0 : Int32).toInt = 0 := rfl
  simp only [← Int32.toInt_inj]; omega
def own_H (n s0 s1 s2 : Int32) : Prop := (¬ n < 0 ∧ n.toNatClampNeg ≤ 10) ∧ (¬ s0 < 0 ∧ s0 < n) ∧ (¬ s1 < 0 ∧ s1 < n) ∧ (¬ s2 < 0 ∧ s2 < n) ∧ ¬ s0 = s1 ∧ ¬ s0 = s2 ∧ ¬ s1 = s2
theorem own_hyp {n s0 s1 s2 d1 d2 : Int32} (Hn : 3 ≤ n.toInt ∧ n.toInt ≤ 10) (H0 : 0 ≤ s0.toInt ∧ s0.toInt < n.toInt) (Hd1 : 1 ≤ d1.toInt ∧ d1.toInt ≤ n.toInt - 1) (Hd2 : 1 ≤ d2.toInt ∧ d2.toInt ≤ n.toInt - 1 ∧ d2.toInt ≠ d1.toInt)
    (H1 : (s1.toInt = s0.toInt + d1.toInt ∨ s1.toInt = s0.toInt + d1.toInt - n.toInt) ∧ 0 ≤ s1.toInt ∧ s1.toInt < n.toInt) (H2 : (s2.toInt = s0.toInt + d2.toInt ∨ s2.toInt = s0.toInt + d2.toInt - n.toInt) ∧ 0 ≤ s2.toInt ∧ s2.toInt < n.toInt) : own_H n s0 s1 s2 := by
  have e0 : (0 : Int32).toInt = 0 := rfl
  refine ⟨⟨?_, ?_⟩, ⟨?_, ?_⟩, ⟨?_, ?_⟩, ⟨?_, ?_⟩, ?_, ?_, ?_⟩
  · rw [Int32.lt_iff_toInt_lt]; omega
  · show n.toInt.toNat ≤ 10; omega
  all_goals first | (rw [Int32.lt_iff_toInt_lt]; omega) | (rw [← Int32.toInt_inj]; omega)
theorem pd__28I_29V : parseMethodDescriptor "(I)V" = some ⟨[.int], none⟩ := by decide +kernel
theorem pd__28_29I : parseMethodDescriptor "()I" = some ⟨[], some .int⟩ := by decide +kernel
theorem pd__28I_29I : parseMethodDescriptor "(I)I" = some ⟨[.int], some .int⟩ := by decide +kernel
def Q0 (Z : State) (p0 : Int32) (p1 : Int32) (p2 : Int32) (p3 : Int32) (p4 : Int32) (p5 : Int32) (h0 : Heap) (n0 : Nat) (v : Option Value) (h : Heap) (L : List Loc) : Prop := v = some (.int (1 : Int32)) ∧ Fr n0 L
set_option maxRecDepth 65536 in
set_option maxHeartbeats 40000000 in
theorem tl10 {p : Program} {l : Launch} {e : Env} {s : State} {m : MethodId} {below : List Frame} {meth : Method} {c : Code} {Z : State} {a0 : Array Value} (p0 : Int32) (p1 : Int32) (p2 : Int32) (p3 : Int32) (p4 : Int32) (p5 : Int32) {h0 : Heap} {n0 : Nat} (Z0 : n0 ≤ h0.size) (hw : ∀ d ∈ tables_1, d.before a0 Z = true) (hx : p.tables.exec = Jvm.exec) (hZ : Z.Warmed39 s.vm) (hby : c.code = code) (hml : c.maxLocals = 20) (hown : s.vm.findClass "dev/chainlatch/bucket/OrderAppendPinLaw" = some m.cls) (hlk : meth.locks = false) (hret : meth.sig.returnType = ret)
    {T0 : State} {lc0 : List Loc} (X0 : Stand p l e room_1 s m #[(.int p0), (.int p1), (.int p2), (.int p3), (.int p4), (.int p5)] below meth c T0 lc0 0 0) (N0 : Fr n0 lc0) (e0 : T0.heap = h0) (n s0 d1 tt d2 s1 s2 r : Int32) (hH : own_H n s0 s1 s2) : own_G p.tables e below s (Q0 Z p0 p1 p2 p3 p4 p5 h0 n0) room_1.cells room_1.slots (T0.setTop (mkF m 116 #[.val (.int p0), .val (.int p1), .val (.int p2), .val (.int p3), .val (.int p4), .val (.int p5), .val (.int n), .val (.int s0), .val (.int d1), .val (.int tt), .val (.int d2), .val (.int s1), .val (.int s2), .val (.int (1 : Int32)), .val (.int (0 : Int32)), .val (.int r), .unset, .unset, .unset, .unset] [])) := by
  obtain ⟨⟨hn0, hn1⟩, ⟨hs00, hs01⟩, ⟨hs10, hs11⟩, ⟨hs20, hs21⟩, n01, n02, n12⟩ := hH
  have n10 : ¬ s1 = s0 := fun q => n01 q.symm
  have n20 : ¬ s2 = s0 := fun q => n02 q.symm
  have n21 : ¬ s2 = s1 := fun q => n12 q.symm
  refine own_thr (a := T0.setTop (mkF m 117 #[.val (.int p0), .val (.int p1), .val (.int p2), .val (.int p3), .val (.int p4), .val (.int p5), .val (.int n), .val (.int s0), .val (.int d1), .val (.int tt), .val (.int d2), .val (.int s1), .val (.int s2), .val (.int (1 : Int32)), .val (.int (0 : Int32)), .val (.int r), .unset, .unset, .unset, .unset] [(.int (3 : Int32))])) (fun t kt => ?_) ?_
  · show Steps p.tables e below (T0.setTop (mkF m 116 #[.val (.int p0), .val (.int p1), .val (.int p2), .val (.int p3), .val (.int p4), .val (.int p5), .val (.int n), .val (.int s0), .val (.int d1), .val (.int tt), .val (.int d2), .val (.int s1), .val (.int s2), .val (.int (1 : Int32)), .val (.int (0 : Int32)), .val (.int r), .unset, .unset, .unset, .unset] [])) _
    refine XS.iconst X0.here hx rfl (hb hby at_116) ?_
    exact kt
  obtain ⟨T1, h1, k1, X1, e1, E1, A1, st1⟩ := newP X0 hx hZ (hw _ (List.mem_of_getElem? (i := 2) rfl)) e0 (g := (mkF m 117 #[.val (.int p0), .val (.int p1), .val (.int p2), .val (.int p3), .val (.int p4), .val (.int p5), .val (.int n), .val (.int s0), .val (.int d1), .val (.int tt), .val (.int d2), .val (.int s1), .val (.int s2), .val (.int (1 : Int32)), .val (.int (0 : Int32)), .val (.int r), .unset, .unset, .unset, .unset] [(.int (3 : Int32))])) rfl (hb hby at_117) rfl (by decide) (cap := 3) (by decide) (by decide) (by decide : 0 + 1 ≤ _) (by decide : 0 + 3 ≤ _)
  obtain ⟨b1, g1⟩ : ∃ z, z = h0.size := ⟨_, rfl⟩
  rw [← g1] at A1 st1
  have g_b1 : n0 ≤ b1 := Nat.le_trans Z0 (Nat.le_of_eq g1.symm)
  have sz_b1 : h0.size ≤ b1 := Nat.le_trans (Nat.le_refl h0.size) (Nat.le_of_eq g1.symm)
  have V_b1 : Arv Z h1 b1 k1 .int (3 : Int32) [(.int (0 : Int32)), (.int (0 : Int32)), (.int (0 : Int32))] (.int (0 : Int32)) := (Arv.new A1 (by decide)).pad (pad_rep [] (.int (0 : Int32)) 3)
  have Z2 : n0 ≤ h1.size := Nat.le_trans Z0 E1.1
  have Z2h : h0.size ≤ h1.size := Nat.le_trans (Nat.le_refl h0.size) E1.1
  refine own_thr (a := T1.setTop (mkF m 119 #[.val (.int p0), .val (.int p1), .val (.int p2), .val (.int p3), .val (.int p4), .val (.int p5), .val (.int n), .val (.int s0), .val (.int d1), .val (.int tt), .val (.int d2), .val (.int s1), .val (.int s2), .val (.int (1 : Int32)), .val (.int (0 : Int32)), .val (.int r), .unset, .unset, .unset, .unset] [(.ref b1)])) (fun t kt => st1 t kt) ?_
  refine own_thr (a := T1.setTop (mkF m 123 #[.val (.int p0), .val (.int p1), .val (.int p2), .val (.int p3), .val (.int p4), .val (.int p5), .val (.int n), .val (.int s0), .val (.int d1), .val (.int tt), .val (.int d2), .val (.int s1), .val (.int s2), .val (.int (1 : Int32)), .val (.int (0 : Int32)), .val (.int r), .unset, .unset, .unset, .unset] [(.int s0), (.int (0 : Int32)), (.ref b1), (.ref b1)])) (fun t kt => ?_) ?_
  · show Steps p.tables e below (T1.setTop (mkF m 119 #[.val (.int p0), .val (.int p1), .val (.int p2), .val (.int p3), .val (.int p4), .val (.int p5), .val (.int n), .val (.int s0), .val (.int d1), .val (.int tt), .val (.int d2), .val (.int s1), .val (.int s2), .val (.int (1 : Int32)), .val (.int (0 : Int32)), .val (.int r), .unset, .unset, .unset, .unset] [(.ref b1)])) _
    refine XS.dup X1.here hx rfl (hb hby at_119) rfl rfl ?_
    refine XS.iconst X1.here hx rfl (hb hby at_120) ?_
    refine XS.iload X1.here hx rfl (hb hby at_121) rfl ?_
    exact kt
  obtain ⟨cl3, Ar3, q3, S3, M3, H3, G3⟩ := id V_b1
  have hin3 : ¬ ((0 : Int32) < 0 ∨ cl3.slots.size ≤ ((0 : Int32)).toNatClampNeg) := inb_of S3 ⟨by decide, by decide⟩
  obtain ⟨T3, h3, X3, e3, W3, st3⟩ := stI X1 hx hZ e1 Ar3 (j := (0 : Int32)) hin3 (g := (mkF m 123 #[.val (.int p0), .val (.int p1), .val (.int p2), .val (.int p3), .val (.int p4), .val (.int p5), .val (.int n), .val (.int s0), .val (.int d1), .val (.int tt), .val (.int d2), .val (.int s1), .val (.int s2), .val (.int (1 : Int32)), .val (.int (0 : Int32)), .val (.int r), .unset, .unset, .unset, .unset] [(.int s0), (.int (0 : Int32)), (.ref b1), (.ref b1)])) rfl rfl (hb hby at_123)
  have Z4 : n0 ≤ h3.size := Nat.le_trans Z2 (Nat.le_of_eq W3.size.symm)
  have Z4h : h0.size ≤ h3.size := Nat.le_trans Z2h (Nat.le_of_eq W3.size.symm)
  have V3 : Arv Z h3 b1 k1 .int (3 : Int32) [(.int s0), (.int (0 : Int32)), (.int (0 : Int32))] (.int (0 : Int32)) := Arv.set Ar3 q3 S3 M3 H3 G3 rfl W3 0 rfl (Nat.le_of_ble_eq_true rfl)
  obtain ⟨lc3, X3, N3⟩ := own_pack1 X3 N0 g_b1
  refine own_thr (a := T3.setTop (mkF m 124 #[.val (.int p0), .val (.int p1), .val (.int p2), .val (.int p3), .val (.int p4), .val (.int p5), .val (.int n), .val (.int s0), .val (.int d1), .val (.int tt), .val (.int d2), .val (.int s1), .val (.int s2), .val (.int (1 : Int32)), .val (.int (0 : Int32)), .val (.int r), .unset, .unset, .unset, .unset] [(.ref b1)])) (fun t kt => st3 t kt) ?_
  refine own_thr (a := T3.setTop (mkF m 128 #[.val (.int p0), .val (.int p1), .val (.int p2), .val (.int p3), .val (.int p4), .val (.int p5), .val (.int n), .val (.int s0), .val (.int d1), .val (.int tt), .val (.int d2), .val (.int s1), .val (.int s2), .val (.int (1 : Int32)), .val (.int (0 : Int32)), .val (.int r), .unset, .unset, .unset, .unset] [(.int s1), (.int (1 : Int32)), (.ref b1), (.ref b1)])) (fun t kt => ?_) ?_
  · show Steps p.tables e below (T3.setTop (mkF m 124 #[.val (.int p0), .val (.int p1), .val (.int p2), .val (.int p3), .val (.int p4), .val (.int p5), .val (.int n), .val (.int s0), .val (.int d1), .val (.int tt), .val (.int d2), .val (.int s1), .val (.int s2), .val (.int (1 : Int32)), .val (.int (0 : Int32)), .val (.int r), .unset, .unset, .unset, .unset] [(.ref b1)])) _
    refine XS.dup X3.here hx rfl (hb hby at_124) rfl rfl ?_
    refine XS.iconst X3.here hx rfl (hb hby at_125) ?_
    refine XS.iload X3.here hx rfl (hb hby at_126) rfl ?_
    exact kt
  obtain ⟨cl5, Ar5, q5, S5, M5, H5, G5⟩ := id V3
  have hin5 : ¬ ((1 : Int32) < 0 ∨ cl5.slots.size ≤ ((1 : Int32)).toNatClampNeg) := inb_of S5 ⟨by decide, by decide⟩
  obtain ⟨T5, h5, X5, e5, W5, st5⟩ := stI X3 hx hZ e3 Ar5 (j := (1 : Int32)) hin5 (g := (mkF m 128 #[.val (.int p0), .val (.int p1), .val (.int p2), .val (.int p3), .val (.int p4), .val (.int p5), .val (.int n), .val (.int s0), .val (.int d1), .val (.int tt), .val (.int d2), .val (.int s1), .val (.int s2), .val (.int (1 : Int32)), .val (.int (0 : Int32)), .val (.int r), .unset, .unset, .unset, .unset] [(.int s1), (.int (1 : Int32)), (.ref b1), (.ref b1)])) rfl rfl (hb hby at_128)
  have Z6 : n0 ≤ h5.size := Nat.le_trans Z4 (Nat.le_of_eq W5.size.symm)
  have Z6h : h0.size ≤ h5.size := Nat.le_trans Z4h (Nat.le_of_eq W5.size.symm)
  have V5 : Arv Z h5 b1 k1 .int (3 : Int32) [(.int s0), (.int s1), (.int (0 : Int32))] (.int (0 : Int32)) := Arv.set Ar5 q5 S5 M5 H5 G5 rfl W5 1 rfl (Nat.le_of_ble_eq_true rfl)
  obtain ⟨lc5, X5, N5⟩ := own_pack1 X5 N3 g_b1
  refine own_thr (a := T5.setTop (mkF m 129 #[.val (.int p0), .val (.int p1), .val (.int p2), .val (.int p3), .val (.int p4), .val (.int p5), .val (.int n), .val (.int s0), .val (.int d1), .val (.int tt), .val (.int d2), .val (.int s1), .val (.int s2), .val (.int (1 : Int32)), .val (.int (0 : Int32)), .val (.int r), .unset, .unset, .unset, .unset] [(.ref b1)])) (fun t kt => st5 t kt) ?_
  refine own_thr (a := T5.setTop (mkF m 133 #[.val (.int p0), .val (.int p1), .val (.int p2), .val (.int p3), .val (.int p4), .val (.int p5), .val (.int n), .val (.int s0), .val (.int d1), .val (.int tt), .val (.int d2), .val (.int s1), .val (.int s2), .val (.int (1 : Int32)), .val (.int (0 : Int32)), .val (.int r), .unset, .unset, .unset, .unset] [(.int s2), (.int (2 : Int32)), (.ref b1), (.ref b1)])) (fun t kt => ?_) ?_
  · show Steps p.tables e below (T5.setTop (mkF m 129 #[.val (.int p0), .val (.int p1), .val (.int p2), .val (.int p3), .val (.int p4), .val (.int p5), .val (.int n), .val (.int s0), .val (.int d1), .val (.int tt), .val (.int d2), .val (.int s1), .val (.int s2), .val (.int (1 : Int32)), .val (.int (0 : Int32)), .val (.int r), .unset, .unset, .unset, .unset] [(.ref b1)])) _
    refine XS.dup X5.here hx rfl (hb hby at_129) rfl rfl ?_
    refine XS.iconst X5.here hx rfl (hb hby at_130) ?_
    refine XS.iload X5.here hx rfl (hb hby at_131) rfl ?_
    exact kt
  obtain ⟨cl7, Ar7, q7, S7, M7, H7, G7⟩ := id V5
  have hin7 : ¬ ((2 : Int32) < 0 ∨ cl7.slots.size ≤ ((2 : Int32)).toNatClampNeg) := inb_of S7 ⟨by decide, by decide⟩
  obtain ⟨T7, h7, X7, e7, W7, st7⟩ := stI X5 hx hZ e5 Ar7 (j := (2 : Int32)) hin7 (g := (mkF m 133 #[.val (.int p0), .val (.int p1), .val (.int p2), .val (.int p3), .val (.int p4), .val (.int p5), .val (.int n), .val (.int s0), .val (.int d1), .val (.int tt), .val (.int d2), .val (.int s1), .val (.int s2), .val (.int (1 : Int32)), .val (.int (0 : Int32)), .val (.int r), .unset, .unset, .unset, .unset] [(.int s2), (.int (2 : Int32)), (.ref b1), (.ref b1)])) rfl rfl (hb hby at_133)
  have Z8 : n0 ≤ h7.size := Nat.le_trans Z6 (Nat.le_of_eq W7.size.symm)
  have Z8h : h0.size ≤ h7.size := Nat.le_trans Z6h (Nat.le_of_eq W7.size.symm)
  have V7 : Arv Z h7 b1 k1 .int (3 : Int32) [(.int s0), (.int s1), (.int s2)] (.int (0 : Int32)) := Arv.set Ar7 q7 S7 M7 H7 G7 rfl W7 2 rfl (Nat.le_of_ble_eq_true rfl)
  obtain ⟨lc7, X7, N7⟩ := own_pack1 X7 N5 g_b1
  refine own_thr (a := T7.setTop (mkF m 134 #[.val (.int p0), .val (.int p1), .val (.int p2), .val (.int p3), .val (.int p4), .val (.int p5), .val (.int n), .val (.int s0), .val (.int d1), .val (.int tt), .val (.int d2), .val (.int s1), .val (.int s2), .val (.int (1 : Int32)), .val (.int (0 : Int32)), .val (.int r), .unset, .unset, .unset, .unset] [(.ref b1)])) (fun t kt => st7 t kt) ?_
  refine own_thr (a := T7.setTop (mkF m 137 #[.val (.int p0), .val (.int p1), .val (.int p2), .val (.int p3), .val (.int p4), .val (.int p5), .val (.int n), .val (.int s0), .val (.int d1), .val (.int tt), .val (.int d2), .val (.int s1), .val (.int s2), .val (.int (1 : Int32)), .val (.int (0 : Int32)), .val (.int r), .val (.ref b1), .unset, .unset, .unset] [(.int (3 : Int32))])) (fun t kt => ?_) ?_
  · show Steps p.tables e below (T7.setTop (mkF m 134 #[.val (.int p0), .val (.int p1), .val (.int p2), .val (.int p3), .val (.int p4), .val (.int p5), .val (.int n), .val (.int s0), .val (.int d1), .val (.int tt), .val (.int d2), .val (.int s1), .val (.int s2), .val (.int (1 : Int32)), .val (.int (0 : Int32)), .val (.int r), .unset, .unset, .unset, .unset] [(.ref b1)])) _
    refine XS.astore X7.here hx rfl (hb hby at_134) rfl rfl (l' := #[.val (.int p0), .val (.int p1), .val (.int p2), .val (.int p3), .val (.int p4), .val (.int p5), .val (.int n), .val (.int s0), .val (.int d1), .val (.int tt), .val (.int d2), .val (.int s1), .val (.int s2), .val (.int (1 : Int32)), .val (.int (0 : Int32)), .val (.int r), .val (.ref b1), .unset, .unset, .unset]) rfl ?_
    refine XS.iconst X7.here hx rfl (hb hby at_136) ?_
    exact kt
  obtain ⟨T9, h9, k9, X9, e9, E9, A9, st9⟩ := newP X7 hx hZ (hw _ (List.mem_of_getElem? (i := 2) rfl)) e7 (g := (mkF m 137 #[.val (.int p0), .val (.int p1), .val (.int p2), .val (.int p3), .val (.int p4), .val (.int p5), .val (.int n), .val (.int s0), .val (.int d1), .val (.int tt), .val (.int d2), .val (.int s1), .val (.int s2), .val (.int (1 : Int32)), .val (.int (0 : Int32)), .val (.int r), .val (.ref b1), .unset, .unset, .unset] [(.int (3 : Int32))])) rfl (hb hby at_137) rfl (by decide) (cap := 3) (by decide) (by decide) (by decide : 1 + 1 ≤ _) (by decide : 3 + 3 ≤ _)
  obtain ⟨b9, g9⟩ : ∃ z, z = h7.size := ⟨_, rfl⟩
  rw [← g9] at A9 st9
  have g_b9 : n0 ≤ b9 := Nat.le_trans Z8 (Nat.le_of_eq g9.symm)
  have sz_b9 : h0.size ≤ b9 := Nat.le_trans Z8h (Nat.le_of_eq g9.symm)
  have lt_b1_b9 : b1 < b9 := Nat.lt_of_lt_of_le V7.lt (Nat.le_of_eq g9.symm)
  have ne_b1_b9 : b1 ≠ b9 := Nat.ne_of_lt lt_b1_b9
  have V_b9 : Arv Z h9 b9 k9 .int (3 : Int32) [(.int (0 : Int32)), (.int (0 : Int32)), (.int (0 : Int32))] (.int (0 : Int32)) := (Arv.new A9 (by decide)).pad (pad_rep [] (.int (0 : Int32)) 3)
  have Z10 : n0 ≤ h9.size := Nat.le_trans Z8 E9.1
  have Z10h : h0.size ≤ h9.size := Nat.le_trans Z8h E9.1
  refine own_thr (a := T9.setTop (mkF m 139 #[.val (.int p0), .val (.int p1), .val (.int p2), .val (.int p3), .val (.int p4), .val (.int p5), .val (.int n), .val (.int s0), .val (.int d1), .val (.int tt), .val (.int d2), .val (.int s1), .val (.int s2), .val (.int (1 : Int32)), .val (.int (0 : Int32)), .val (.int r), .val (.ref b1), .unset, .unset, .unset] [(.ref b9)])) (fun t kt => st9 t kt) ?_
  refine own_thr (a := T9.setTop (mkF m 221 #[.val (.int p0), .val (.int p1), .val (.int p2), .val (.int p3), .val (.int p4), .val (.int p5), .val (.int n), .val (.int s0), .val (.int d1), .val (.int tt), .val (.int d2), .val (.int s1), .val (.int s2), .val (.int (1 : Int32)), .val (.int (0 : Int32)), .val (.int r), .val (.ref b1), .val (.ref b9), .unset, .unset] [(.int (0 : Int32)), (.ref b1), (.int (0 : Int32)), (.ref b9)])) (fun t kt => ?_) ?_
  · show Steps p.tables e below (T9.setTop (mkF m 139 #[.val (.int p0), .val (.int p1), .val (.int p2), .val (.int p3), .val (.int p4), .val (.int p5), .val (.int n), .val (.int s0), .val (.int d1), .val (.int tt), .val (.int d2), .val (.int s1), .val (.int s2), .val (.int (1 : Int32)), .val (.int (0 : Int32)), .val (.int r), .val (.ref b1), .unset, .unset, .unset] [(.ref b9)])) _
    refine XS.astore X9.here hx rfl (hb hby at_139) rfl rfl (l' := #[.val (.int p0), .val (.int p1), .val (.int p2), .val (.int p3), .val (.int p4), .val (.int p5), .val (.int n), .val (.int s0), .val (.int d1), .val (.int tt), .val (.int d2), .val (.int s1), .val (.int s2), .val (.int (1 : Int32)), .val (.int (0 : Int32)), .val (.int r), .val (.ref b1), .val (.ref b9), .unset, .unset]) rfl ?_
    refine XS.iload X9.here hx rfl (hb hby at_141) rfl ?_
    refine XS.ifYes X9.here hx rfl (pc0 := 143) (pc' := 215) rfl (hb hby at_143) rfl ((if0 _ _).trans (teq rfl).1) (by decide) (by decide) ?_
    refine XS.aload X9.here hx rfl (hb hby at_215) rfl rfl ?_
    refine XS.iconst X9.here hx rfl (hb hby at_217) ?_
    refine XS.aload X9.here hx rfl (hb hby at_218) rfl rfl ?_
    refine XS.iconst X9.here hx rfl (hb hby at_220) ?_
    exact kt
  obtain ⟨cl11, Ar11, -, S11, M11, H11, -⟩ := id (V7.ext E9)
  have hin11 : ¬ ((0 : Int32) < 0 ∨ cl11.slots.size ≤ ((0 : Int32)).toNatClampNeg) := inb_of S11 ⟨by decide, by decide⟩
  have hat11 : cl11.slots[((0 : Int32)).toNatClampNeg]? = some (.int s0) := Has.at H11 hin11 rfl
  refine own_thr (a := T9.setTop (mkF m 222 #[.val (.int p0), .val (.int p1), .val (.int p2), .val (.int p3), .val (.int p4), .val (.int p5), .val (.int n), .val (.int s0), .val (.int d1), .val (.int tt), .val (.int d2), .val (.int s1), .val (.int s2), .val (.int (1 : Int32)), .val (.int (0 : Int32)), .val (.int r), .val (.ref b1), .val (.ref b9), .unset, .unset] [(.int s0), (.int (0 : Int32)), (.ref b9)])) (fun t kt => ?_) ?_
  · show Steps p.tables e below (T9.setTop (mkF m 221 #[.val (.int p0), .val (.int p1), .val (.int p2), .val (.int p3), .val (.int p4), .val (.int p5), .val (.int n), .val (.int s0), .val (.int d1), .val (.int tt), .val (.int d2), .val (.int s1), .val (.int s2), .val (.int (1 : Int32)), .val (.int (0 : Int32)), .val (.int r), .val (.ref b1), .val (.ref b9), .unset, .unset] [(.int (0 : Int32)), (.ref b1), (.int (0 : Int32)), (.ref b9)])) _
    refine X9.iaload hx (j := (0 : Int32)) (v := (.int s0)) (by rw [e9]; exact Ar11.1) (State.isArrayOf_alike hZ.alike Ar11.2.1) Ar11.2.2 hin11 hat11 (g := (mkF m 221 #[.val (.int p0), .val (.int p1), .val (.int p2), .val (.int p3), .val (.int p4), .val (.int p5), .val (.int n), .val (.int s0), .val (.int d1), .val (.int tt), .val (.int d2), .val (.int s1), .val (.int s2), .val (.int (1 : Int32)), .val (.int (0 : Int32)), .val (.int r), .val (.ref b1), .val (.ref b9), .unset, .unset] [(.int (0 : Int32)), (.ref b1), (.int (0 : Int32)), (.ref b9)])) rfl rfl (hb hby at_221) _ ?_
    exact kt
  obtain ⟨cl12, Ar12, q12, S12, M12, H12, G12⟩ := id V_b9
  have hin12 : ¬ ((0 : Int32) < 0 ∨ cl12.slots.size ≤ ((0 : Int32)).toNatClampNeg) := inb_of S12 ⟨by decide, by decide⟩
  obtain ⟨T12, h12, X12, e12, W12, st12⟩ := stI X9 hx hZ e9 Ar12 (j := (0 : Int32)) hin12 (g := (mkF m 222 #[.val (.int p0), .val (.int p1), .val (.int p2), .val (.int p3), .val (.int p4), .val (.int p5), .val (.int n), .val (.int s0), .val (.int d1), .val (.int tt), .val (.int d2), .val (.int s1), .val (.int s2), .val (.int (1 : Int32)), .val (.int (0 : Int32)), .val (.int r), .val (.ref b1), .val (.ref b9), .unset, .unset] [(.int s0), (.int (0 : Int32)), (.ref b9)])) rfl rfl (hb hby at_222)
  have Z13 : n0 ≤ h12.size := Nat.le_trans Z10 (Nat.le_of_eq W12.size.symm)
  have Z13h : h0.size ≤ h12.size := Nat.le_trans Z10h (Nat.le_of_eq W12.size.symm)
  have V12 : Arv Z h12 b9 k9 .int (3 : Int32) [(.int s0), (.int (0 : Int32)), (.int (0 : Int32))] (.int (0 : Int32)) := Arv.set Ar12 q12 S12 M12 H12 G12 rfl W12 0 rfl (Nat.le_of_ble_eq_true rfl)
  obtain ⟨lc12, X12, N12⟩ := own_pack1 X12 N7 g_b9
  refine own_thr (a := T12.setTop (mkF m 223 #[.val (.int p0), .val (.int p1), .val (.int p2), .val (.int p3), .val (.int p4), .val (.int p5), .val (.int n), .val (.int s0), .val (.int d1), .val (.int tt), .val (.int d2), .val (.int s1), .val (.int s2), .val (.int (1 : Int32)), .val (.int (0 : Int32)), .val (.int r), .val (.ref b1), .val (.ref b9), .unset, .unset] [])) (fun t kt => st12 t kt) ?_
  refine own_thr (a := T12.setTop (mkF m 229 #[.val (.int p0), .val (.int p1), .val (.int p2), .val (.int p3), .val (.int p4), .val (.int p5), .val (.int n), .val (.int s0), .val (.int d1), .val (.int tt), .val (.int d2), .val (.int s1), .val (.int s2), .val (.int (1 : Int32)), .val (.int (0 : Int32)), .val (.int r), .val (.ref b1), .val (.ref b9), .unset, .unset] [(.int (1 : Int32)), (.ref b1), (.int (1 : Int32)), (.ref b9)])) (fun t kt => ?_) ?_
  · show Steps p.tables e below (T12.setTop (mkF m 223 #[.val (.int p0), .val (.int p1), .val (.int p2), .val (.int p3), .val (.int p4), .val (.int p5), .val (.int n), .val (.int s0), .val (.int d1), .val (.int tt), .val (.int d2), .val (.int s1), .val (.int s2), .val (.int (1 : Int32)), .val (.int (0 : Int32)), .val (.int r), .val (.ref b1), .val (.ref b9), .unset, .unset] [])) _
    refine XS.aload X12.here hx rfl (hb hby at_223) rfl rfl ?_
    refine XS.iconst X12.here hx rfl (hb hby at_225) ?_
    refine XS.aload X12.here hx rfl (hb hby at_226) rfl rfl ?_
    refine XS.iconst X12.here hx rfl (hb hby at_228) ?_
    exact kt
  obtain ⟨cl14, Ar14, -, S14, M14, H14, -⟩ := id ((V7.ext E9).other W12 ne_b1_b9)
  have hin14 : ¬ ((1 : Int32) < 0 ∨ cl14.slots.size ≤ ((1 : Int32)).toNatClampNeg) := inb_of S14 ⟨by decide, by decide⟩
  have hat14 : cl14.slots[((1 : Int32)).toNatClampNeg]? = some (.int s1) := Has.at H14 hin14 rfl
  refine own_thr (a := T12.setTop (mkF m 230 #[.val (.int p0), .val (.int p1), .val (.int p2), .val (.int p3), .val (.int p4), .val (.int p5), .val (.int n), .val (.int s0), .val (.int d1), .val (.int tt), .val (.int d2), .val (.int s1), .val (.int s2), .val (.int (1 : Int32)), .val (.int (0 : Int32)), .val (.int r), .val (.ref b1), .val (.ref b9), .unset, .unset] [(.int s1), (.int (1 : Int32)), (.ref b9)])) (fun t kt => ?_) ?_
  · show Steps p.tables e below (T12.setTop (mkF m 229 #[.val (.int p0), .val (.int p1), .val (.int p2), .val (.int p3), .val (.int p4), .val (.int p5), .val (.int n), .val (.int s0), .val (.int d1), .val (.int tt), .val (.int d2), .val (.int s1), .val (.int s2), .val (.int (1 : Int32)), .val (.int (0 : Int32)), .val (.int r), .val (.ref b1), .val (.ref b9), .unset, .unset] [(.int (1 : Int32)), (.ref b1), (.int (1 : Int32)), (.ref b9)])) _
    refine X12.iaload hx (j := (1 : Int32)) (v := (.int s1)) (by rw [e12]; exact Ar14.1) (State.isArrayOf_alike hZ.alike Ar14.2.1) Ar14.2.2 hin14 hat14 (g := (mkF m 229 #[.val (.int p0), .val (.int p1), .val (.int p2), .val (.int p3), .val (.int p4), .val (.int p5), .val (.int n), .val (.int s0), .val (.int d1), .val (.int tt), .val (.int d2), .val (.int s1), .val (.int s2), .val (.int (1 : Int32)), .val (.int (0 : Int32)), .val (.int r), .val (.ref b1), .val (.ref b9), .unset, .unset] [(.int (1 : Int32)), (.ref b1), (.int (1 : Int32)), (.ref b9)])) rfl rfl (hb hby at_229) _ ?_
    exact kt
  obtain ⟨cl15, Ar15, q15, S15, M15, H15, G15⟩ := id V12
  have hin15 : ¬ ((1 : Int32) < 0 ∨ cl15.slots.size ≤ ((1 : Int32)).toNatClampNeg) := inb_of S15 ⟨by decide, by decide⟩
  obtain ⟨T15, h15, X15, e15, W15, st15⟩ := stI X12 hx hZ e12 Ar15 (j := (1 : Int32)) hin15 (g := (mkF m 230 #[.val (.int p0), .val (.int p1), .val (.int p2), .val (.int p3), .val (.int p4), .val (.int p5), .val (.int n), .val (.int s0), .val (.int d1), .val (.int tt), .val (.int d2), .val (.int s1), .val (.int s2), .val (.int (1 : Int32)), .val (.int (0 : Int32)), .val (.int r), .val (.ref b1), .val (.ref b9), .unset, .unset] [(.int s1), (.int (1 : Int32)), (.ref b9)])) rfl rfl (hb hby at_230)
  have Z16 : n0 ≤ h15.size := Nat.le_trans Z13 (Nat.le_of_eq W15.size.symm)
  have Z16h : h0.size ≤ h15.size := Nat.le_trans Z13h (Nat.le_of_eq W15.size.symm)
  have V15 : Arv Z h15 b9 k9 .int (3 : Int32) [(.int s0), (.int s1), (.int (0 : Int32))] (.int (0 : Int32)) := Arv.set Ar15 q15 S15 M15 H15 G15 rfl W15 1 rfl (Nat.le_of_ble_eq_true rfl)
  obtain ⟨lc15, X15, N15⟩ := own_pack1 X15 N12 g_b9
  refine own_thr (a := T15.setTop (mkF m 231 #[.val (.int p0), .val (.int p1), .val (.int p2), .val (.int p3), .val (.int p4), .val (.int p5), .val (.int n), .val (.int s0), .val (.int d1), .val (.int tt), .val (.int d2), .val (.int s1), .val (.int s2), .val (.int (1 : Int32)), .val (.int (0 : Int32)), .val (.int r), .val (.ref b1), .val (.ref b9), .unset, .unset] [])) (fun t kt => st15 t kt) ?_
  refine own_thr (a := T15.setTop (mkF m 237 #[.val (.int p0), .val (.int p1), .val (.int p2), .val (.int p3), .val (.int p4), .val (.int p5), .val (.int n), .val (.int s0), .val (.int d1), .val (.int tt), .val (.int d2), .val (.int s1), .val (.int s2), .val (.int (1 : Int32)), .val (.int (0 : Int32)), .val (.int r), .val (.ref b1), .val (.ref b9), .unset, .unset] [(.int (2 : Int32)), (.ref b1), (.int (2 : Int32)), (.ref b9)])) (fun t kt => ?_) ?_
  · show Steps p.tables e below (T15.setTop (mkF m 231 #[.val (.int p0), .val (.int p1), .val (.int p2), .val (.int p3), .val (.int p4), .val (.int p5), .val (.int n), .val (.int s0), .val (.int d1), .val (.int tt), .val (.int d2), .val (.int s1), .val (.int s2), .val (.int (1 : Int32)), .val (.int (0 : Int32)), .val (.int r), .val (.ref b1), .val (.ref b9), .unset, .unset] [])) _
    refine XS.aload X15.here hx rfl (hb hby at_231) rfl rfl ?_
    refine XS.iconst X15.here hx rfl (hb hby at_233) ?_
    refine XS.aload X15.here hx rfl (hb hby at_234) rfl rfl ?_
    refine XS.iconst X15.here hx rfl (hb hby at_236) ?_
    exact kt
  obtain ⟨cl17, Ar17, -, S17, M17, H17, -⟩ := id (((V7.ext E9).other W12 ne_b1_b9).other W15 ne_b1_b9)
  have hin17 : ¬ ((2 : Int32) < 0 ∨ cl17.slots.size ≤ ((2 : Int32)).toNatClampNeg) := inb_of S17 ⟨by decide, by decide⟩
  have hat17 : cl17.slots[((2 : Int32)).toNatClampNeg]? = some (.int s2) := Has.at H17 hin17 rfl
  refine own_thr (a := T15.setTop (mkF m 238 #[.val (.int p0), .val (.int p1), .val (.int p2), .val (.int p3), .val (.int p4), .val (.int p5), .val (.int n), .val (.int s0), .val (.int d1), .val (.int tt), .val (.int d2), .val (.int s1), .val (.int s2), .val (.int (1 : Int32)), .val (.int (0 : Int32)), .val (.int r), .val (.ref b1), .val (.ref b9), .unset, .unset] [(.int s2), (.int (2 : Int32)), (.ref b9)])) (fun t kt => ?_) ?_
  · show Steps p.tables e below (T15.setTop (mkF m 237 #[.val (.int p0), .val (.int p1), .val (.int p2), .val (.int p3), .val (.int p4), .val (.int p5), .val (.int n), .val (.int s0), .val (.int d1), .val (.int tt), .val (.int d2), .val (.int s1), .val (.int s2), .val (.int (1 : Int32)), .val (.int (0 : Int32)), .val (.int r), .val (.ref b1), .val (.ref b9), .unset, .unset] [(.int (2 : Int32)), (.ref b1), (.int (2 : Int32)), (.ref b9)])) _
    refine X15.iaload hx (j := (2 : Int32)) (v := (.int s2)) (by rw [e15]; exact Ar17.1) (State.isArrayOf_alike hZ.alike Ar17.2.1) Ar17.2.2 hin17 hat17 (g := (mkF m 237 #[.val (.int p0), .val (.int p1), .val (.int p2), .val (.int p3), .val (.int p4), .val (.int p5), .val (.int n), .val (.int s0), .val (.int d1), .val (.int tt), .val (.int d2), .val (.int s1), .val (.int s2), .val (.int (1 : Int32)), .val (.int (0 : Int32)), .val (.int r), .val (.ref b1), .val (.ref b9), .unset, .unset] [(.int (2 : Int32)), (.ref b1), (.int (2 : Int32)), (.ref b9)])) rfl rfl (hb hby at_237) _ ?_
    exact kt
  obtain ⟨cl18, Ar18, q18, S18, M18, H18, G18⟩ := id V15
  have hin18 : ¬ ((2 : Int32) < 0 ∨ cl18.slots.size ≤ ((2 : Int32)).toNatClampNeg) := inb_of S18 ⟨by decide, by decide⟩
  obtain ⟨T18, h18, X18, e18, W18, st18⟩ := stI X15 hx hZ e15 Ar18 (j := (2 : Int32)) hin18 (g := (mkF m 238 #[.val (.int p0), .val (.int p1), .val (.int p2), .val (.int p3), .val (.int p4), .val (.int p5), .val (.int n), .val (.int s0), .val (.int d1), .val (.int tt), .val (.int d2), .val (.int s1), .val (.int s2), .val (.int (1 : Int32)), .val (.int (0 : Int32)), .val (.int r), .val (.ref b1), .val (.ref b9), .unset, .unset] [(.int s2), (.int (2 : Int32)), (.ref b9)])) rfl rfl (hb hby at_238)
  have Z19 : n0 ≤ h18.size := Nat.le_trans Z16 (Nat.le_of_eq W18.size.symm)
  have Z19h : h0.size ≤ h18.size := Nat.le_trans Z16h (Nat.le_of_eq W18.size.symm)
  have V18 : Arv Z h18 b9 k9 .int (3 : Int32) [(.int s0), (.int s1), (.int s2)] (.int (0 : Int32)) := Arv.set Ar18 q18 S18 M18 H18 G18 rfl W18 2 rfl (Nat.le_of_ble_eq_true rfl)
  obtain ⟨lc18, X18, N18⟩ := own_pack1 X18 N15 g_b9
  refine own_thr (a := T18.setTop (mkF m 239 #[.val (.int p0), .val (.int p1), .val (.int p2), .val (.int p3), .val (.int p4), .val (.int p5), .val (.int n), .val (.int s0), .val (.int d1), .val (.int tt), .val (.int d2), .val (.int s1), .val (.int s2), .val (.int (1 : Int32)), .val (.int (0 : Int32)), .val (.int r), .val (.ref b1), .val (.ref b9), .unset, .unset] [])) (fun t kt => st18 t kt) ?_
  have c21 := ((((V7.ext E9).other W12 ne_b1_b9).other W15 ne_b1_b9).other W18 ne_b1_b9)
  obtain ⟨T20, h20, X20, e20, E20, A20, D20, U20, st20⟩ := newO X18 hx hZ hown (hw _ (List.mem_of_getElem? (i := 3) rfl)) (hw _ (List.mem_of_getElem? (i := 4) rfl)) (hw _ (List.mem_of_getElem? (i := 5) rfl)) e18 (g := (mkF m 239 #[.val (.int p0), .val (.int p1), .val (.int p2), .val (.int p3), .val (.int p4), .val (.int p5), .val (.int n), .val (.int s0), .val (.int d1), .val (.int tt), .val (.int d2), .val (.int s1), .val (.int s2), .val (.int (1 : Int32)), .val (.int (0 : Int32)), .val (.int r), .val (.ref b1), .val (.ref b9), .unset, .unset] [])) rfl (hb hby at_239) (by decide : 2 + 1 ≤ _) (by decide : 6 + 4 ≤ _)
  obtain ⟨b20, g20⟩ : ∃ z, z = h18.size := ⟨_, rfl⟩
  rw [← g20] at A20 D20 st20 U20
  have g_b20 : n0 ≤ b20 := Nat.le_trans Z19 (Nat.le_of_eq g20.symm)
  have sz_b20 : h0.size ≤ b20 := Nat.le_trans Z19h (Nat.le_of_eq g20.symm)
  have lt_b1_b20 : b1 < b20 := Nat.lt_of_lt_of_le c21.lt (Nat.le_of_eq g20.symm)
  have ne_b1_b20 : b1 ≠ b20 := Nat.ne_of_lt lt_b1_b20
  have lt_b9_b20 : b9 < b20 := Nat.lt_of_lt_of_le V18.lt (Nat.le_of_eq g20.symm)
  have ne_b9_b20 : b9 ≠ b20 := Nat.ne_of_lt lt_b9_b20
  have Z22 : n0 ≤ h20.size := Nat.le_trans Z19 E20.1
  have Z22h : h0.size ≤ h20.size := Nat.le_trans Z19h E20.1
  have F_first_b20 : Fld Z h20 b20 "dev/chainlatch/bucket/Order" "first" "I" (.int (0 : Int32)) := D20 (Or.inl (hw _ (List.mem_of_getElem? (i := 13) rfl))) (ty := .int) (by decide)
  have F_last_b20 : Fld Z h20 b20 "dev/chainlatch/bucket/Order" "last" "I" (.int (0 : Int32)) := D20 (Or.inl (hw _ (List.mem_of_getElem? (i := 15) rfl))) (ty := .int) (by decide)
  have F_before_b20 : Fld Z h20 b20 "dev/chainlatch/bucket/Order" "before" "[I" .null := D20 (Or.inl (hw _ (List.mem_of_getElem? (i := 17) rfl))) (ty := (.array .int)) (by decide)
  have F_after_b20 : Fld Z h20 b20 "dev/chainlatch/bucket/Order" "after" "[I" .null := D20 (Or.inl (hw _ (List.mem_of_getElem? (i := 19) rfl))) (ty := (.array .int)) (by decide)
  refine own_thr (a := T20.setTop (mkF m 242 #[.val (.int p0), .val (.int p1), .val (.int p2), .val (.int p3), .val (.int p4), .val (.int p5), .val (.int n), .val (.int s0), .val (.int d1), .val (.int tt), .val (.int d2), .val (.int s1), .val (.int s2), .val (.int (1 : Int32)), .val (.int (0 : Int32)), .val (.int r), .val (.ref b1), .val (.ref b9), .unset, .unset] [(.ref b20)])) (fun t kt => st20 t kt) ?_
  refine own_thr (a := T20.setTop (mkF m 245 #[.val (.int p0), .val (.int p1), .val (.int p2), .val (.int p3), .val (.int p4), .val (.int p5), .val (.int n), .val (.int s0), .val (.int d1), .val (.int tt), .val (.int d2), .val (.int s1), .val (.int s2), .val (.int (1 : Int32)), .val (.int (0 : Int32)), .val (.int r), .val (.ref b1), .val (.ref b9), .unset, .unset] [(.int n), (.ref b20), (.ref b20)])) (fun t kt => ?_) ?_
  · show Steps p.tables e below (T20.setTop (mkF m 242 #[.val (.int p0), .val (.int p1), .val (.int p2), .val (.int p3), .val (.int p4), .val (.int p5), .val (.int n), .val (.int s0), .val (.int d1), .val (.int tt), .val (.int d2), .val (.int s1), .val (.int s2), .val (.int (1 : Int32)), .val (.int (0 : Int32)), .val (.int r), .val (.ref b1), .val (.ref b9), .unset, .unset] [(.ref b20)])) _
    refine XS.dup X20.here hx rfl (hb hby at_242) rfl rfl ?_
    refine XS.iload X20.here hx rfl (hb hby at_243) rfl ?_
    exact kt
  obtain ⟨_, _, ⟨T23, L23, k23, n23⟩, -, X23, ⟨Lc23, hQ23, l23, y23, z23⟩, st23⟩ := X20.specialBack hx (y := (⟨"dev/chainlatch/bucket/Order", "<init>", "(I)V"⟩ : MethodName)) rfl hown (mvT hZ (hw _ (List.mem_of_getElem? (i := 6) rfl))) (mvT hZ (hw _ (List.mem_of_getElem? (i := 7) rfl))) (mvT hZ (hw _ (List.mem_of_getElem? (i := 8) rfl))) (by decide) (backOf (W := 1) (rmI l Z a0 hw [] b20 n h20 n0 Z22 A20 F_first_b20 F_last_b20 F_before_b20 F_after_b20 g_b20 hn0 hn1) hZ (hw _ (List.mem_of_getElem? (i := 8) rfl)) (hw _ (List.mem_of_getElem? (i := 5) rfl)) (by decide) (by decide)) (g := (mkF m 245 #[.val (.int p0), .val (.int p1), .val (.int p2), .val (.int p3), .val (.int p4), .val (.int p5), .val (.int n), .val (.int s0), .val (.int d1), .val (.int tt), .val (.int d2), .val (.int s1), .val (.int s2), .val (.int (1 : Int32)), .val (.int (0 : Int32)), .val (.int r), .val (.ref b1), .val (.ref b9), .unset, .unset] [(.int n), (.ref b20), (.ref b20)])) rfl (by rw [hml]; rfl) (Steps.refl _) (a := b20) (argsL := [(.int n)]) (rest := [(.ref b20)]) (lenOf pd__28I_29V rfl) rfl (by show 2 * 0 + _ ≤ _; exact Nat.le_of_eq rfl) (hb hby at_245) (fun _ _ => ⟨rfl, e20, (by decide : 3 + 2 ≤ _), (by decide : 10 + 20 ≤ _)⟩)
  dsimp only [Pt.U, Pt.locs, Pt.cells, Pt.slots] at X23 l23 y23 z23 st23 hQ23
  obtain ⟨B23, A23, rfl, N23q, K23, o23_e, o23_f, o23_l, o23_b, o23_a, o23_B, o23_A, hB23, hBA23⟩ := hQ23
  have ne_b1_B23 : b1 ≠ B23 := Nat.ne_of_lt (Nat.lt_of_lt_of_le (c21.ext E20).lt hB23)
  have ne_b1_A23 : b1 ≠ A23 := Nat.ne_of_lt (Nat.lt_trans (Nat.lt_of_lt_of_le (c21.ext E20).lt hB23) hBA23)
  have ne_b9_B23 : b9 ≠ B23 := Nat.ne_of_lt (Nat.lt_of_lt_of_le (V18.ext E20).lt hB23)
  have ne_b9_A23 : b9 ≠ A23 := Nat.ne_of_lt (Nat.lt_trans (Nat.lt_of_lt_of_le (V18.ext E20).lt hB23) hBA23)
  have ne_b20_B23 : b20 ≠ B23 := Nat.ne_of_lt (Nat.lt_of_lt_of_le A20.lt hB23)
  have ne_b20_A23 : b20 ≠ A23 := Nat.ne_of_lt (Nat.lt_trans (Nat.lt_of_lt_of_le A20.lt hB23) hBA23)
  have ne_B23_A23 : B23 ≠ A23 := Nat.ne_of_lt hBA23
  have g_B23 : n0 ≤ B23 := Nat.le_trans Z22 hB23
  have g_A23 : n0 ≤ A23 := Nat.le_trans g_B23 (Nat.le_of_lt hBA23)
  have Z24 : n0 ≤ T23.heap.size := Nat.le_trans Z22 K23.1
  have Z24h : h0.size ≤ T23.heap.size := Nat.le_trans Z22h K23.1
  obtain ⟨lc23, X23, N23⟩ := own_pack X23 l23 y23 z23 N18 N23q (C := 5) (S' := 30) rfl rfl
  refine own_thr (a := T23.setTop (mkF m 248 #[.val (.int p0), .val (.int p1), .val (.int p2), .val (.int p3), .val (.int p4), .val (.int p5), .val (.int n), .val (.int s0), .val (.int d1), .val (.int tt), .val (.int d2), .val (.int s1), .val (.int s2), .val (.int (1 : Int32)), .val (.int (0 : Int32)), .val (.int r), .val (.ref b1), .val (.ref b9), .unset, .unset] [(.ref b20)])) (fun t kt => st23.trans kt) ?_
  refine own_thr (a := T23.setTop (mkF m 255 #[.val (.int p0), .val (.int p1), .val (.int p2), .val (.int p3), .val (.int p4), .val (.int p5), .val (.int n), .val (.int s0), .val (.int d1), .val (.int tt), .val (.int d2), .val (.int s1), .val (.int s2), .val (.int (1 : Int32)), .val (.int (0 : Int32)), .val (.int r), .val (.ref b1), .val (.ref b9), .val (.ref b20), .unset] [(.int (0 : Int32)), (.ref b1), (.ref b20)])) (fun t kt => ?_) ?_
  · show Steps p.tables e below (T23.setTop (mkF m 248 #[.val (.int p0), .val (.int p1), .val (.int p2), .val (.int p3), .val (.int p4), .val (.int p5), .val (.int n), .val (.int s0), .val (.int d1), .val (.int tt), .val (.int d2), .val (.int s1), .val (.int s2), .val (.int (1 : Int32)), .val (.int (0 : Int32)), .val (.int r), .val (.ref b1), .val (.ref b9), .unset, .unset] [(.ref b20)])) _
    refine XS.astore X23.here hx rfl (hb hby at_248) rfl rfl (l' := #[.val (.int p0), .val (.int p1), .val (.int p2), .val (.int p3), .val (.int p4), .val (.int p5), .val (.int n), .val (.int s0), .val (.int d1), .val (.int tt), .val (.int d2), .val (.int s1), .val (.int s2), .val (.int (1 : Int32)), .val (.int (0 : Int32)), .val (.int r), .val (.ref b1), .val (.ref b9), .val (.ref b20), .unset]) rfl ?_
    refine XS.aload X23.here hx rfl (hb hby at_250) rfl rfl ?_
    refine XS.aload X23.here hx rfl (hb hby at_252) rfl rfl ?_
    refine XS.iconst X23.here hx rfl (hb hby at_254) ?_
    exact kt
  obtain ⟨cl25, Ar25, -, S25, M25, H25, -⟩ := id ((c21.ext E20).keep K23 (ninS ne_b1_b20 nin0))
  have hin25 : ¬ ((0 : Int32) < 0 ∨ cl25.slots.size ≤ ((0 : Int32)).toNatClampNeg) := inb_of S25 ⟨by decide, by decide⟩
  have hat25 : cl25.slots[((0 : Int32)).toNatClampNeg]? = some (.int s0) := Has.at H25 hin25 rfl
  refine own_thr (a := T23.setTop (mkF m 256 #[.val (.int p0), .val (.int p1), .val (.int p2), .val (.int p3), .val (.int p4), .val (.int p5), .val (.int n), .val (.int s0), .val (.int d1), .val (.int tt), .val (.int d2), .val (.int s1), .val (.int s2), .val (.int (1 : Int32)), .val (.int (0 : Int32)), .val (.int r), .val (.ref b1), .val (.ref b9), .val (.ref b20), .unset] [(.int s0), (.ref b20)])) (fun t kt => ?_) ?_
  · show Steps p.tables e below (T23.setTop (mkF m 255 #[.val (.int p0), .val (.int p1), .val (.int p2), .val (.int p3), .val (.int p4), .val (.int p5), .val (.int n), .val (.int s0), .val (.int d1), .val (.int tt), .val (.int d2), .val (.int s1), .val (.int s2), .val (.int (1 : Int32)), .val (.int (0 : Int32)), .val (.int r), .val (.ref b1), .val (.ref b9), .val (.ref b20), .unset] [(.int (0 : Int32)), (.ref b1), (.ref b20)])) _
    refine X23.iaload hx (j := (0 : Int32)) (v := (.int s0)) Ar25.1 (State.isArrayOf_alike hZ.alike Ar25.2.1) Ar25.2.2 hin25 hat25 (g := (mkF m 255 #[.val (.int p0), .val (.int p1), .val (.int p2), .val (.int p3), .val (.int p4), .val (.int p5), .val (.int n), .val (.int s0), .val (.int d1), .val (.int tt), .val (.int d2), .val (.int s1), .val (.int s2), .val (.int (1 : Int32)), .val (.int (0 : Int32)), .val (.int r), .val (.ref b1), .val (.ref b9), .val (.ref b20), .unset] [(.int (0 : Int32)), (.ref b1), (.ref b20)])) rfl rfl (hb hby at_255) _ ?_
    exact kt
  obtain ⟨cq26, kq26, q26a, q26b, q26c⟩ := isOf hZ rfl o23_e
  obtain ⟨_, _, ⟨T26, L26, k26, n26⟩, -, X26, ⟨Lc26, hQ26, l26, y26, z26⟩, st26⟩ := X23.virtualBack hx (y := (⟨"dev/chainlatch/bucket/Order", "append", "(I)V"⟩ : MethodName)) (z := (⟨"dev/chainlatch/bucket/Order", "append", "(I)V"⟩ : MethodName)) hown (mvT hZ (hw _ (List.mem_of_getElem? (i := 20) rfl))) (mvT hZ (hw _ (List.mem_of_getElem? (i := 21) rfl))) (notFace_of_selects (args := #[]) (mvT hZ (hw _ (List.mem_of_getElem? (i := 23) rfl)))) (mvT hZ (hw _ (List.mem_of_getElem? (i := 23) rfl))) (mvT hZ (hw _ (List.mem_of_getElem? (i := 22) rfl))) (by decide) (backOf (W := 0) (rmA1 l Z a0 hw [] b20 s0 B23 A23 n (-1 : Int32) (-1 : Int32) (fun _ => 0) (fun _ => 0) T23.heap n0 Z24 o23_e o23_f o23_l o23_b o23_a o23_B o23_A g_b20 g_B23 g_A23 ne_b20_B23 ne_b20_A23 ne_B23_A23 hs00 hs01 rfl) hZ (hw _ (List.mem_of_getElem? (i := 24) rfl)) (hw _ (List.mem_of_getElem? (i := 5) rfl)) (by decide) (by decide)) q26a q26c (g := (mkF m 256 #[.val (.int p0), .val (.int p1), .val (.int p2), .val (.int p3), .val (.int p4), .val (.int p5), .val (.int n), .val (.int s0), .val (.int d1), .val (.int tt), .val (.int d2), .val (.int s1), .val (.int s2), .val (.int (1 : Int32)), .val (.int (0 : Int32)), .val (.int r), .val (.ref b1), .val (.ref b9), .val (.ref b20), .unset] [(.int s0), (.ref b20)])) rfl (by rw [hml]; rfl) (Steps.refl _) (argsL := [(.int s0)]) (rest := []) (lenOf pd__28I_29V rfl) rfl (by show 2 * 0 + _ ≤ _; exact Nat.le_of_eq rfl) (hb hby at_256) (fun _ _ => ⟨rfl, rfl, (by decide : 5 + 0 ≤ _), (by decide : 30 + 0 ≤ _)⟩)
  dsimp only [Pt.U, Pt.locs, Pt.cells, Pt.slots] at X26 l26 y26 z26 st26 hQ26
  obtain ⟨rfl, N26q, K26, o26_0, o26_1, o26_2, o26_3, o26_4, o26_5, o26_6⟩ := hQ26
  have Z27 : n0 ≤ T26.heap.size := Nat.le_trans Z24 K26.1
  have Z27h : h0.size ≤ T26.heap.size := Nat.le_trans Z24h K26.1
  obtain ⟨lc26, X26, N26⟩ := own_pack X26 l26 y26 z26 N23 N26q (C := 5) (S' := 30) rfl rfl
  refine own_thr (a := T26.setTop (mkF m 259 #[.val (.int p0), .val (.int p1), .val (.int p2), .val (.int p3), .val (.int p4), .val (.int p5), .val (.int n), .val (.int s0), .val (.int d1), .val (.int tt), .val (.int d2), .val (.int s1), .val (.int s2), .val (.int (1 : Int32)), .val (.int (0 : Int32)), .val (.int r), .val (.ref b1), .val (.ref b9), .val (.ref b20), .unset] [])) (fun t kt => st26.trans kt) ?_
  refine own_thr (a := T26.setTop (mkF m 316 #[.val (.int p0), .val (.int p1), .val (.int p2), .val (.int p3), .val (.int p4), .val (.int p5), .val (.int n), .val (.int s0), .val (.int d1), .val (.int tt), .val (.int d2), .val (.int s1), .val (.int s2), .val (.int (1 : Int32)), .val (.int (0 : Int32)), .val (.int r), .val (.ref b1), .val (.ref b9), .val (.ref b20), .unset] [(.ref b20)])) (fun t kt => ?_) ?_
  · show Steps p.tables e below (T26.setTop (mkF m 259 #[.val (.int p0), .val (.int p1), .val (.int p2), .val (.int p3), .val (.int p4), .val (.int p5), .val (.int n), .val (.int s0), .val (.int d1), .val (.int tt), .val (.int d2), .val (.int s1), .val (.int s2), .val (.int (1 : Int32)), .val (.int (0 : Int32)), .val (.int r), .val (.ref b1), .val (.ref b9), .val (.ref b20), .unset] [])) _
    refine XS.iload X26.here hx rfl (hb hby at_259) rfl ?_
    refine XS.iconst X26.here hx rfl (hb hby at_261) ?_
    refine XS.icmpYes X26.here hx rfl (pc0 := 262) (pc' := 274) rfl (hb hby at_262) rfl (flt (by decide)).2.2.2 (by decide) (by decide) ?_
    refine XS.iload X26.here hx rfl (hb hby at_274) rfl ?_
    refine XS.iconst X26.here hx rfl (hb hby at_276) ?_
    refine XS.icmpYes X26.here hx rfl (pc0 := 277) (pc' := 289) rfl (hb hby at_277) rfl (flt (by decide)).2.2.2 (by decide) (by decide) ?_
    refine XS.iload X26.here hx rfl (hb hby at_289) rfl ?_
    refine XS.ifYes X26.here hx rfl (pc0 := 291) (pc' := 314) rfl (hb hby at_291) rfl ((if0 _ _).trans (teq rfl).1) (by decide) (by decide) ?_
    refine XS.aload X26.here hx rfl (hb hby at_314) rfl rfl ?_
    exact kt
  obtain ⟨cq28, kq28, q28a, q28b, q28c⟩ := isOf hZ rfl o26_0
  obtain ⟨_, _, ⟨T28, L28, k28, n28⟩, -, X28, ⟨Lc28, hQ28, l28, y28, z28⟩, st28⟩ := X26.virtualBack hx (y := (⟨"dev/chainlatch/bucket/Order", "first", "()I"⟩ : MethodName)) (z := (⟨"dev/chainlatch/bucket/Order", "first", "()I"⟩ : MethodName)) hown (mvT hZ (hw _ (List.mem_of_getElem? (i := 34) rfl))) (mvT hZ (hw _ (List.mem_of_getElem? (i := 35) rfl))) (notFace_of_selects (args := #[]) (mvT hZ (hw _ (List.mem_of_getElem? (i := 37) rfl)))) (mvT hZ (hw _ (List.mem_of_getElem? (i := 37) rfl))) (mvT hZ (hw _ (List.mem_of_getElem? (i := 36) rfl))) (by decide) (backOf (W := 0) (rmF l Z a0 hw [] b20 s0 T26.heap n0 Z27 o26_1) hZ (hw _ (List.mem_of_getElem? (i := 38) rfl)) (hw _ (List.mem_of_getElem? (i := 5) rfl)) (by decide) (by decide)) q28a q28c (g := (mkF m 316 #[.val (.int p0), .val (.int p1), .val (.int p2), .val (.int p3), .val (.int p4), .val (.int p5), .val (.int n), .val (.int s0), .val (.int d1), .val (.int tt), .val (.int d2), .val (.int s1), .val (.int s2), .val (.int (1 : Int32)), .val (.int (0 : Int32)), .val (.int r), .val (.ref b1), .val (.ref b9), .val (.ref b20), .unset] [(.ref b20)])) rfl (by rw [hml]; rfl) (Steps.refl _) (argsL := []) (rest := []) (lenOf pd__28_29I rfl) rfl (by show 2 * 0 + _ ≤ _; exact Nat.le_of_eq rfl) (hb hby at_316) (fun _ _ => ⟨rfl, rfl, (by decide : 5 + 0 ≤ _), (by decide : 30 + 0 ≤ _)⟩)
  dsimp only [Pt.U, Pt.locs, Pt.cells, Pt.slots] at X28 l28 y28 z28 st28 hQ28
  obtain ⟨rfl, N28q, e28⟩ := hQ28
  obtain ⟨lc28, X28, N28⟩ := own_pack X28 l28 y28 z28 N26 N28q (C := 5) (S' := 30) rfl rfl
  refine own_thr (a := T28.setTop (mkF m 319 #[.val (.int p0), .val (.int p1), .val (.int p2), .val (.int p3), .val (.int p4), .val (.int p5), .val (.int n), .val (.int s0), .val (.int d1), .val (.int tt), .val (.int d2), .val (.int s1), .val (.int s2), .val (.int (1 : Int32)), .val (.int (0 : Int32)), .val (.int r), .val (.ref b1), .val (.ref b9), .val (.ref b20), .unset] [(.int s0)])) (fun t kt => st28.trans kt) ?_
  refine own_thr (a := T28.setTop (mkF m 322 #[.val (.int p0), .val (.int p1), .val (.int p2), .val (.int p3), .val (.int p4), .val (.int p5), .val (.int n), .val (.int s0), .val (.int d1), .val (.int tt), .val (.int d2), .val (.int s1), .val (.int s2), .val (.int (1 : Int32)), .val (.int (0 : Int32)), .val (.int r), .val (.ref b1), .val (.ref b9), .val (.ref b20), .unset] [(.int (0 : Int32)), (.ref b9), (.int s0)])) (fun t kt => ?_) ?_
  · show Steps p.tables e below (T28.setTop (mkF m 319 #[.val (.int p0), .val (.int p1), .val (.int p2), .val (.int p3), .val (.int p4), .val (.int p5), .val (.int n), .val (.int s0), .val (.int d1), .val (.int tt), .val (.int d2), .val (.int s1), .val (.int s2), .val (.int (1 : Int32)), .val (.int (0 : Int32)), .val (.int r), .val (.ref b1), .val (.ref b9), .val (.ref b20), .unset] [(.int s0)])) _
    refine XS.aload X28.here hx rfl (hb hby at_319) rfl rfl ?_
    refine XS.iconst X28.here hx rfl (hb hby at_321) ?_
    exact kt
  have c30 := (((V18.ext E20).keep K23 (ninS ne_b9_b20 nin0)).keep K26 (ninS ne_b9_b20 (ninS ne_b9_B23 (ninS ne_b9_A23 nin0))))
  obtain ⟨cl29, Ar29, -, S29, M29, H29, -⟩ := id c30
  have hin29 : ¬ ((0 : Int32) < 0 ∨ cl29.slots.size ≤ ((0 : Int32)).toNatClampNeg) := inb_of S29 ⟨by decide, by decide⟩
  have hat29 : cl29.slots[((0 : Int32)).toNatClampNeg]? = some (.int s0) := Has.at H29 hin29 rfl
  refine own_thr (a := T28.setTop (mkF m 343 #[.val (.int p0), .val (.int p1), .val (.int p2), .val (.int p3), .val (.int p4), .val (.int p5), .val (.int n), .val (.int s0), .val (.int d1), .val (.int tt), .val (.int d2), .val (.int s1), .val (.int s2), .val (.int (1 : Int32)), .val (.int (0 : Int32)), .val (.int r), .val (.ref b1), .val (.ref b9), .val (.ref b20), .val (.int (1 : Int32))] [(.int (0 : Int32)), (.ref b9), (.ref b20)])) (fun t kt => ?_) ?_
  · show Steps p.tables e below (T28.setTop (mkF m 322 #[.val (.int p0), .val (.int p1), .val (.int p2), .val (.int p3), .val (.int p4), .val (.int p5), .val (.int n), .val (.int s0), .val (.int d1), .val (.int tt), .val (.int d2), .val (.int s1), .val (.int s2), .val (.int (1 : Int32)), .val (.int (0 : Int32)), .val (.int r), .val (.ref b1), .val (.ref b9), .val (.ref b20), .unset] [(.int (0 : Int32)), (.ref b9), (.int s0)])) _
    refine X28.iaload hx (j := (0 : Int32)) (v := (.int s0)) (by rw [e28]; exact Ar29.1) (State.isArrayOf_alike hZ.alike Ar29.2.1) Ar29.2.2 hin29 hat29 (g := (mkF m 322 #[.val (.int p0), .val (.int p1), .val (.int p2), .val (.int p3), .val (.int p4), .val (.int p5), .val (.int n), .val (.int s0), .val (.int d1), .val (.int tt), .val (.int d2), .val (.int s1), .val (.int s2), .val (.int (1 : Int32)), .val (.int (0 : Int32)), .val (.int r), .val (.ref b1), .val (.ref b9), .val (.ref b20), .unset] [(.int (0 : Int32)), (.ref b9), (.int s0)])) rfl rfl (hb hby at_322) _ ?_
    refine XS.icmpNo X28.here hx rfl (hb hby at_323) rfl (teq (by simp [own_up, own_as, n01, n10, n02, n20, n12, n21])).2 ?_
    refine XS.iconst X28.here hx rfl (hb hby at_326) ?_
    refine XS.goto X28.here hx rfl (pc0 := 327) (pc' := 331) rfl (hb hby at_327) (by decide) (by decide) ?_
    refine XS.istore X28.here hx rfl (hb hby at_331) rfl (l' := #[.val (.int p0), .val (.int p1), .val (.int p2), .val (.int p3), .val (.int p4), .val (.int p5), .val (.int n), .val (.int s0), .val (.int d1), .val (.int tt), .val (.int d2), .val (.int s1), .val (.int s2), .val (.int (1 : Int32)), .val (.int (0 : Int32)), .val (.int r), .val (.ref b1), .val (.ref b9), .val (.ref b20), .val (.int (1 : Int32))]) rfl ?_
    refine XS.iload X28.here hx rfl (hb hby at_333) rfl ?_
    refine XS.ifNo X28.here hx rfl (hb hby at_335) rfl ((if0 _ _).trans (feq (by decide)).1) ?_
    refine XS.aload X28.here hx rfl (hb hby at_338) rfl rfl ?_
    refine XS.aload X28.here hx rfl (hb hby at_340) rfl rfl ?_
    refine XS.iconst X28.here hx rfl (hb hby at_342) ?_
    exact kt
  obtain ⟨cl31, Ar31, -, S31, M31, H31, -⟩ := id c30
  have hin31 : ¬ ((0 : Int32) < 0 ∨ cl31.slots.size ≤ ((0 : Int32)).toNatClampNeg) := inb_of S31 ⟨by decide, by decide⟩
  have hat31 : cl31.slots[((0 : Int32)).toNatClampNeg]? = some (.int s0) := Has.at H31 hin31 rfl
  refine own_thr (a := T28.setTop (mkF m 344 #[.val (.int p0), .val (.int p1), .val (.int p2), .val (.int p3), .val (.int p4), .val (.int p5), .val (.int n), .val (.int s0), .val (.int d1), .val (.int tt), .val (.int d2), .val (.int s1), .val (.int s2), .val (.int (1 : Int32)), .val (.int (0 : Int32)), .val (.int r), .val (.ref b1), .val (.ref b9), .val (.ref b20), .val (.int (1 : Int32))] [(.int s0), (.ref b20)])) (fun t kt => ?_) ?_
  · show Steps p.tables e below (T28.setTop (mkF m 343 #[.val (.int p0), .val (.int p1), .val (.int p2), .val (.int p3), .val (.int p4), .val (.int p5), .val (.int n), .val (.int s0), .val (.int d1), .val (.int tt), .val (.int d2), .val (.int s1), .val (.int s2), .val (.int (1 : Int32)), .val (.int (0 : Int32)), .val (.int r), .val (.ref b1), .val (.ref b9), .val (.ref b20), .val (.int (1 : Int32))] [(.int (0 : Int32)), (.ref b9), (.ref b20)])) _
    refine X28.iaload hx (j := (0 : Int32)) (v := (.int s0)) (by rw [e28]; exact Ar31.1) (State.isArrayOf_alike hZ.alike Ar31.2.1) Ar31.2.2 hin31 hat31 (g := (mkF m 343 #[.val (.int p0), .val (.int p1), .val (.int p2), .val (.int p3), .val (.int p4), .val (.int p5), .val (.int n), .val (.int s0), .val (.int d1), .val (.int tt), .val (.int d2), .val (.int s1), .val (.int s2), .val (.int (1 : Int32)), .val (.int (0 : Int32)), .val (.int r), .val (.ref b1), .val (.ref b9), .val (.ref b20), .val (.int (1 : Int32))] [(.int (0 : Int32)), (.ref b9), (.ref b20)])) rfl rfl (hb hby at_343) _ ?_
    exact kt
  obtain ⟨cq32, kq32, q32a, q32b, q32c⟩ := isOf hZ e28 o26_0
  obtain ⟨_, _, ⟨T32, L32, k32, n32⟩, -, X32, ⟨Lc32, hQ32, l32, y32, z32⟩, st32⟩ := X28.virtualBack hx (y := (⟨"dev/chainlatch/bucket/Order", "after", "(I)I"⟩ : MethodName)) (z := (⟨"dev/chainlatch/bucket/Order", "after", "(I)I"⟩ : MethodName)) hown (mvT hZ (hw _ (List.mem_of_getElem? (i := 39) rfl))) (mvT hZ (hw _ (List.mem_of_getElem? (i := 40) rfl))) (notFace_of_selects (args := #[]) (mvT hZ (hw _ (List.mem_of_getElem? (i := 42) rfl)))) (mvT hZ (hw _ (List.mem_of_getElem? (i := 42) rfl))) (mvT hZ (hw _ (List.mem_of_getElem? (i := 41) rfl))) (by decide) (backOf (W := 0) (rmN l Z a0 hw [] b20 s0 A23 n (own_up (fun _ => 0) s0 (0 : Int32)) T26.heap n0 Z27 o26_4 o26_6 hs00 hs01) hZ (hw _ (List.mem_of_getElem? (i := 43) rfl)) (hw _ (List.mem_of_getElem? (i := 5) rfl)) (by decide) (by decide)) q32a q32c (g := (mkF m 344 #[.val (.int p0), .val (.int p1), .val (.int p2), .val (.int p3), .val (.int p4), .val (.int p5), .val (.int n), .val (.int s0), .val (.int d1), .val (.int tt), .val (.int d2), .val (.int s1), .val (.int s2), .val (.int (1 : Int32)), .val (.int (0 : Int32)), .val (.int r), .val (.ref b1), .val (.ref b9), .val (.ref b20), .val (.int (1 : Int32))] [(.int s0), (.ref b20)])) rfl (by rw [hml]; rfl) (Steps.refl _) (argsL := [(.int s0)]) (rest := []) (lenOf pd__28I_29I rfl) rfl (by show 2 * 0 + _ ≤ _; exact Nat.le_of_eq rfl) (hb hby at_344) (fun _ _ => ⟨rfl, e28, (by decide : 5 + 0 ≤ _), (by decide : 30 + 0 ≤ _)⟩)
  dsimp only [Pt.U, Pt.locs, Pt.cells, Pt.slots] at X32 l32 y32 z32 st32 hQ32
  obtain ⟨rfl, N32q, e32⟩ := hQ32
  obtain ⟨lc32, X32, N32⟩ := own_pack X32 l32 y32 z32 N28 N32q (C := 5) (S' := 30) rfl rfl
  refine own_thr (a := T32.setTop (mkF m 347 #[.val (.int p0), .val (.int p1), .val (.int p2), .val (.int p3), .val (.int p4), .val (.int p5), .val (.int n), .val (.int s0), .val (.int d1), .val (.int tt), .val (.int d2), .val (.int s1), .val (.int s2), .val (.int (1 : Int32)), .val (.int (0 : Int32)), .val (.int r), .val (.ref b1), .val (.ref b9), .val (.ref b20), .val (.int (1 : Int32))] [(.int (((own_up (fun _ => 0) s0 (0 : Int32)) s0) - (1 : Int32)))])) (fun t kt => st32.trans kt) ?_
  refine own_thr (a := T32.setTop (mkF m 448 #[.val (.int p0), .val (.int p1), .val (.int p2), .val (.int p3), .val (.int p4), .val (.int p5), .val (.int n), .val (.int s0), .val (.int d1), .val (.int tt), .val (.int d2), .val (.int s1), .val (.int s2), .val (.int (1 : Int32)), .val (.int (0 : Int32)), .val (.int r), .val (.ref b1), .val (.ref b9), .val (.ref b20), .val (.int (1 : Int32))] [(.int (1 : Int32))])) (fun t kt => ?_) ?_
  · show Steps p.tables e below (T32.setTop (mkF m 347 #[.val (.int p0), .val (.int p1), .val (.int p2), .val (.int p3), .val (.int p4), .val (.int p5), .val (.int n), .val (.int s0), .val (.int d1), .val (.int tt), .val (.int d2), .val (.int s1), .val (.int s2), .val (.int (1 : Int32)), .val (.int (0 : Int32)), .val (.int r), .val (.ref b1), .val (.ref b9), .val (.ref b20), .val (.int (1 : Int32))] [(.int (((own_up (fun _ => 0) s0 (0 : Int32)) s0) - (1 : Int32)))])) _
    refine XS.iload X32.here hx rfl (hb hby at_347) rfl ?_
    refine XS.iconst X32.here hx rfl (hb hby at_349) ?_
    refine XS.icmpYes X32.here hx rfl (pc0 := 350) (pc' := 360) rfl (hb hby at_350) rfl (flt (by decide)).2.2.2 (by decide) (by decide) ?_
    refine XS.iconst X32.here hx rfl (hb hby at_360) ?_
    refine XS.icmpNo X32.here hx rfl (hb hby at_361) rfl (teq (by simp [own_up, own_as, n01, n10, n02, n20, n12, n21])).2 ?_
    refine XS.iconst X32.here hx rfl (hb hby at_364) ?_
    refine XS.goto X32.here hx rfl (pc0 := 365) (pc' := 369) rfl (hb hby at_365) (by decide) (by decide) ?_
    refine XS.istore X32.here hx rfl (hb hby at_369) rfl (l' := #[.val (.int p0), .val (.int p1), .val (.int p2), .val (.int p3), .val (.int p4), .val (.int p5), .val (.int n), .val (.int s0), .val (.int d1), .val (.int tt), .val (.int d2), .val (.int s1), .val (.int s2), .val (.int (1 : Int32)), .val (.int (0 : Int32)), .val (.int r), .val (.ref b1), .val (.ref b9), .val (.ref b20), .val (.int (1 : Int32))]) rfl ?_
    refine XS.iload X32.here hx rfl (hb hby at_371) rfl ?_
    refine XS.iconst X32.here hx rfl (hb hby at_373) ?_
    refine XS.icmpYes X32.here hx rfl (pc0 := 374) (pc' := 415) rfl (hb hby at_374) rfl (flt (by decide)).2.2.2 (by decide) (by decide) ?_
    refine XS.iload X32.here hx rfl (hb hby at_415) rfl ?_
    refine XS.iconst X32.here hx rfl (hb hby at_417) ?_
    refine XS.icmpYes X32.here hx rfl (pc0 := 418) (pc' := 446) rfl (hb hby at_418) rfl (flt (by decide)).2.2.2 (by decide) (by decide) ?_
    refine XS.iload X32.here hx rfl (hb hby at_446) rfl ?_
    exact kt
  exact own_end X32 hlk (v := some (.int (1 : Int32))) (fun h => by rw [hret] at h; cases h) (fun fs hr => retN X32 hx (t := .boolean) hret (by simp) (hb hby at_448) hr) ⟨rfl, N32⟩ (by decide : 5 ≤ _) (by decide : 30 ≤ _)
set_option maxRecDepth 65536 in
set_option maxHeartbeats 40000000 in
theorem tl110 {p : Program} {l : Launch} {e : Env} {s : State} {m : MethodId} {below : List Frame} {meth : Method} {c : Code} {Z : State} {a0 : Array Value} (p0 : Int32) (p1 : Int32) (p2 : Int32) (p3 : Int32) (p4 : Int32) (p5 : Int32) {h0 : Heap} {n0 : Nat} (Z0 : n0 ≤ h0.size) (hw : ∀ d ∈ tables_1, d.before a0 Z = true) (hx : p.tables.exec = Jvm.exec) (hZ : Z.Warmed39 s.vm) (hby : c.code = code) (hml : c.maxLocals = 20) (hown : s.vm.findClass "dev/chainlatch/bucket/OrderAppendPinLaw" = some m.cls) (hlk : meth.locks = false) (hret : meth.sig.returnType = ret)
    {T0 : State} {lc0 : List Loc} (X0 : Stand p l e room_1 s m #[(.int p0), (.int p1), (.int p2), (.int p3), (.int p4), (.int p5)] below meth c T0 lc0 0 0) (N0 : Fr n0 lc0) (e0 : T0.heap = h0) (n s0 d1 tt d2 s1 s2 r : Int32) (hH : own_H n s0 s1 s2) : own_G p.tables e below s (Q0 Z p0 p1 p2 p3 p4 p5 h0 n0) room_1.cells room_1.slots (T0.setTop (mkF m 116 #[.val (.int p0), .val (.int p1), .val (.int p2), .val (.int p3), .val (.int p4), .val (.int p5), .val (.int n), .val (.int s0), .val (.int d1), .val (.int tt), .val (.int d2), .val (.int s1), .val (.int s2), .val (.int (1 : Int32)), .val (.int (1 : Int32)), .val (.int (0 : Int32)), .unset, .unset, .unset, .unset] [])) := by
  obtain ⟨⟨hn0, hn1⟩, ⟨hs00, hs01⟩, ⟨hs10, hs11⟩, ⟨hs20, hs21⟩, n01, n02, n12⟩ := hH
  have n10 : ¬ s1 = s0 := fun q => n01 q.symm
  have n20 : ¬ s2 = s0 := fun q => n02 q.symm
  have n21 : ¬ s2 = s1 := fun q => n12 q.symm
  refine own_thr (a := T0.setTop (mkF m 117 #[.val (.int p0), .val (.int p1), .val (.int p2), .val (.int p3), .val (.int p4), .val (.int p5), .val (.int n), .val (.int s0), .val (.int d1), .val (.int tt), .val (.int d2), .val (.int s1), .val (.int s2), .val (.int (1 : Int32)), .val (.int (1 : Int32)), .val (.int (0 : Int32)), .unset, .unset, .unset, .unset] [(.int (3 : Int32))])) (fun t kt => ?_) ?_
  · show Steps p.tables e below (T0.setTop (mkF m 116 #[.val (.int p0), .val (.int p1), .val (.int p2), .val (.int p3), .val (.int p4), .val (.int p5), .val (.int n), .val (.int s0), .val (.int d1), .val (.int tt), .val (.int d2), .val (.int s1), .val (.int s2), .val (.int (1 : Int32)), .val (.int (1 : Int32)), .val (.int (0 : Int32)), .unset, .unset, .unset, .unset] [])) _
    refine XS.iconst X0.here hx rfl (hb hby at_116) ?_
    exact kt
  obtain ⟨T33, h33, k33, X33, e33, E33, A33, st33⟩ := newP X0 hx hZ (hw _ (List.mem_of_getElem? (i := 2) rfl)) e0 (g := (mkF m 117 #[.val (.int p0), .val (.int p1), .val (.int p2), .val (.int p3), .val (.int p4), .val (.int p5), .val (.int n), .val (.int s0), .val (.int d1), .val (.int tt), .val (.int d2), .val (.int s1), .val (.int s2), .val (.int (1 : Int32)), .val (.int (1 : Int32)), .val (.int (0 : Int32)), .unset, .unset, .unset, .unset] [(.int (3 : Int32))])) rfl (hb hby at_117) rfl (by decide) (cap := 3) (by decide) (by decide) (by decide : 0 + 1 ≤ _) (by decide : 0 + 3 ≤ _)
  obtain ⟨b33, g33⟩ : ∃ z, z = h0.size := ⟨_, rfl⟩
  rw [← g33] at A33 st33
  have g_b33 : n0 ≤ b33 := Nat.le_trans Z0 (Nat.le_of_eq g33.symm)
  have sz_b33 : h0.size ≤ b33 := Nat.le_trans (Nat.le_refl h0.size) (Nat.le_of_eq g33.symm)
  have V_b33 : Arv Z h33 b33 k33 .int (3 : Int32) [(.int (0 : Int32)), (.int (0 : Int32)), (.int (0 : Int32))] (.int (0 : Int32)) := (Arv.new A33 (by decide)).pad (pad_rep [] (.int (0 : Int32)) 3)
  have Z34 : n0 ≤ h33.size := Nat.le_trans Z0 E33.1
  have Z34h : h0.size ≤ h33.size := Nat.le_trans (Nat.le_refl h0.size) E33.1
  refine own_thr (a := T33.setTop (mkF m 119 #[.val (.int p0), .val (.int p1), .val (.int p2), .val (.int p3), .val (.int p4), .val (.int p5), .val (.int n), .val (.int s0), .val (.int d1), .val (.int tt), .val (.int d2), .val (.int s1), .val (.int s2), .val (.int (1 : Int32)), .val (.int (1 : Int32)), .val (.int (0 : Int32)), .unset, .unset, .unset, .unset] [(.ref b33)])) (fun t kt => st33 t kt) ?_
  refine own_thr (a := T33.setTop (mkF m 123 #[.val (.int p0), .val (.int p1), .val (.int p2), .val (.int p3), .val (.int p4), .val (.int p5), .val (.int n), .val (.int s0), .val (.int d1), .val (.int tt), .val (.int d2), .val (.int s1), .val (.int s2), .val (.int (1 : Int32)), .val (.int (1 : Int32)), .val (.int (0 : Int32)), .unset, .unset, .unset, .unset] [(.int s0), (.int (0 : Int32)), (.ref b33), (.ref b33)])) (fun t kt => ?_) ?_
  · show Steps p.tables e below (T33.setTop (mkF m 119 #[.val (.int p0), .val (.int p1), .val (.int p2), .val (.int p3), .val (.int p4), .val (.int p5), .val (.int n), .val (.int s0), .val (.int d1), .val (.int tt), .val (.int d2), .val (.int s1), .val (.int s2), .val (.int (1 : Int32)), .val (.int (1 : Int32)), .val (.int (0 : Int32)), .unset, .unset, .unset, .unset] [(.ref b33)])) _
    refine XS.dup X33.here hx rfl (hb hby at_119) rfl rfl ?_
    refine XS.iconst X33.here hx rfl (hb hby at_120) ?_
    refine XS.iload X33.here hx rfl (hb hby at_121) rfl ?_
    exact kt
  obtain ⟨cl35, Ar35, q35, S35, M35, H35, G35⟩ := id V_b33
  have hin35 : ¬ ((0 : Int32) < 0 ∨ cl35.slots.size ≤ ((0 : Int32)).toNatClampNeg) := inb_of S35 ⟨by decide, by decide⟩
  obtain ⟨T35, h35, X35, e35, W35, st35⟩ := stI X33 hx hZ e33 Ar35 (j := (0 : Int32)) hin35 (g := (mkF m 123 #[.val (.int p0), .val (.int p1), .val (.int p2), .val (.int p3), .val (.int p4), .val (.int p5), .val (.int n), .val (.int s0), .val (.int d1), .val (.int tt), .val (.int d2), .val (.int s1), .val (.int s2), .val (.int (1 : Int32)), .val (.int (1 : Int32)), .val (.int (0 : Int32)), .unset, .unset, .unset, .unset] [(.int s0), (.int (0 : Int32)), (.ref b33), (.ref b33)])) rfl rfl (hb hby at_123)
  have Z36 : n0 ≤ h35.size := Nat.le_trans Z34 (Nat.le_of_eq W35.size.symm)
  have Z36h : h0.size ≤ h35.size := Nat.le_trans Z34h (Nat.le_of_eq W35.size.symm)
  have V35 : Arv Z h35 b33 k33 .int (3 : Int32) [(.int s0), (.int (0 : Int32)), (.int (0 : Int32))] (.int (0 : Int32)) := Arv.set Ar35 q35 S35 M35 H35 G35 rfl W35 0 rfl (Nat.le_of_ble_eq_true rfl)
  obtain ⟨lc35, X35, N35⟩ := own_pack1 X35 N0 g_b33
  refine own_thr (a := T35.setTop (mkF m 124 #[.val (.int p0), .val (.int p1), .val (.int p2), .val (.int p3), .val (.int p4), .val (.int p5), .val (.int n), .val (.int s0), .val (.int d1), .val (.int tt), .val (.int d2), .val (.int s1), .val (.int s2), .val (.int (1 : Int32)), .val (.int (1 : Int32)), .val (.int (0 : Int32)), .unset, .unset, .unset, .unset] [(.ref b33)])) (fun t kt => st35 t kt) ?_
  refine own_thr (a := T35.setTop (mkF m 128 #[.val (.int p0), .val (.int p1), .val (.int p2), .val (.int p3), .val (.int p4), .val (.int p5), .val (.int n), .val (.int s0), .val (.int d1), .val (.int tt), .val (.int d2), .val (.int s1), .val (.int s2), .val (.int (1 : Int32)), .val (.int (1 : Int32)), .val (.int (0 : Int32)), .unset, .unset, .unset, .unset] [(.int s1), (.int (1 : Int32)), (.ref b33), (.ref b33)])) (fun t kt => ?_) ?_
  · show Steps p.tables e below (T35.setTop (mkF m 124 #[.val (.int p0), .val (.int p1), .val (.int p2), .val (.int p3), .val (.int p4), .val (.int p5), .val (.int n), .val (.int s0), .val (.int d1), .val (.int tt), .val (.int d2), .val (.int s1), .val (.int s2), .val (.int (1 : Int32)), .val (.int (1 : Int32)), .val (.int (0 : Int32)), .unset, .unset, .unset, .unset] [(.ref b33)])) _
    refine XS.dup X35.here hx rfl (hb hby at_124) rfl rfl ?_
    refine XS.iconst X35.here hx rfl (hb hby at_125) ?_
    refine XS.iload X35.here hx rfl (hb hby at_126) rfl ?_
    exact kt
  obtain ⟨cl37, Ar37, q37, S37, M37, H37, G37⟩ := id V35
  have hin37 : ¬ ((1 : Int32) < 0 ∨ cl37.slots.size ≤ ((1 : Int32)).toNatClampNeg) := inb_of S37 ⟨by decide, by decide⟩
  obtain ⟨T37, h37, X37, e37, W37, st37⟩ := stI X35 hx hZ e35 Ar37 (j := (1 : Int32)) hin37 (g := (mkF m 128 #[.val (.int p0), .val (.int p1), .val (.int p2), .val (.int p3), .val (.int p4), .val (.int p5), .val (.int n), .val (.int s0), .val (.int d1), .val (.int tt), .val (.int d2), .val (.int s1), .val (.int s2), .val (.int (1 : Int32)), .val (.int (1 : Int32)), .val (.int (0 : Int32)), .unset, .unset, .unset, .unset] [(.int s1), (.int (1 : Int32)), (.ref b33), (.ref b33)])) rfl rfl (hb hby at_128)
  have Z38 : n0 ≤ h37.size := Nat.le_trans Z36 (Nat.le_of_eq W37.size.symm)
  have Z38h : h0.size ≤ h37.size := Nat.le_trans Z36h (Nat.le_of_eq W37.size.symm)
  have V37 : Arv Z h37 b33 k33 .int (3 : Int32) [(.int s0), (.int s1), (.int (0 : Int32))] (.int (0 : Int32)) := Arv.set Ar37 q37 S37 M37 H37 G37 rfl W37 1 rfl (Nat.le_of_ble_eq_true rfl)
  obtain ⟨lc37, X37, N37⟩ := own_pack1 X37 N35 g_b33
  refine own_thr (a := T37.setTop (mkF m 129 #[.val (.int p0), .val (.int p1), .val (.int p2), .val (.int p3), .val (.int p4), .val (.int p5), .val (.int n), .val (.int s0), .val (.int d1), .val (.int tt), .val (.int d2), .val (.int s1), .val (.int s2), .val (.int (1 : Int32)), .val (.int (1 : Int32)), .val (.int (0 : Int32)), .unset, .unset, .unset, .unset] [(.ref b33)])) (fun t kt => st37 t kt) ?_
  refine own_thr (a := T37.setTop (mkF m 133 #[.val (.int p0), .val (.int p1), .val (.int p2), .val (.int p3), .val (.int p4), .val (.int p5), .val (.int n), .val (.int s0), .val (.int d1), .val (.int tt), .val (.int d2), .val (.int s1), .val (.int s2), .val (.int (1 : Int32)), .val (.int (1 : Int32)), .val (.int (0 : Int32)), .unset, .unset, .unset, .unset] [(.int s2), (.int (2 : Int32)), (.ref b33), (.ref b33)])) (fun t kt => ?_) ?_
  · show Steps p.tables e below (T37.setTop (mkF m 129 #[.val (.int p0), .val (.int p1), .val (.int p2), .val (.int p3), .val (.int p4), .val (.int p5), .val (.int n), .val (.int s0), .val (.int d1), .val (.int tt), .val (.int d2), .val (.int s1), .val (.int s2), .val (.int (1 : Int32)), .val (.int (1 : Int32)), .val (.int (0 : Int32)), .unset, .unset, .unset, .unset] [(.ref b33)])) _
    refine XS.dup X37.here hx rfl (hb hby at_129) rfl rfl ?_
    refine XS.iconst X37.here hx rfl (hb hby at_130) ?_
    refine XS.iload X37.here hx rfl (hb hby at_131) rfl ?_
    exact kt
  obtain ⟨cl39, Ar39, q39, S39, M39, H39, G39⟩ := id V37
  have hin39 : ¬ ((2 : Int32) < 0 ∨ cl39.slots.size ≤ ((2 : Int32)).toNatClampNeg) := inb_of S39 ⟨by decide, by decide⟩
  obtain ⟨T39, h39, X39, e39, W39, st39⟩ := stI X37 hx hZ e37 Ar39 (j := (2 : Int32)) hin39 (g := (mkF m 133 #[.val (.int p0), .val (.int p1), .val (.int p2), .val (.int p3), .val (.int p4), .val (.int p5), .val (.int n), .val (.int s0), .val (.int d1), .val (.int tt), .val (.int d2), .val (.int s1), .val (.int s2), .val (.int (1 : Int32)), .val (.int (1 : Int32)), .val (.int (0 : Int32)), .unset, .unset, .unset, .unset] [(.int s2), (.int (2 : Int32)), (.ref b33), (.ref b33)])) rfl rfl (hb hby at_133)
  have Z40 : n0 ≤ h39.size := Nat.le_trans Z38 (Nat.le_of_eq W39.size.symm)
  have Z40h : h0.size ≤ h39.size := Nat.le_trans Z38h (Nat.le_of_eq W39.size.symm)
  have V39 : Arv Z h39 b33 k33 .int (3 : Int32) [(.int s0), (.int s1), (.int s2)] (.int (0 : Int32)) := Arv.set Ar39 q39 S39 M39 H39 G39 rfl W39 2 rfl (Nat.le_of_ble_eq_true rfl)
  obtain ⟨lc39, X39, N39⟩ := own_pack1 X39 N37 g_b33
  refine own_thr (a := T39.setTop (mkF m 134 #[.val (.int p0), .val (.int p1), .val (.int p2), .val (.int p3), .val (.int p4), .val (.int p5), .val (.int n), .val (.int s0), .val (.int d1), .val (.int tt), .val (.int d2), .val (.int s1), .val (.int s2), .val (.int (1 : Int32)), .val (.int (1 : Int32)), .val (.int (0 : Int32)), .unset, .unset, .unset, .unset] [(.ref b33)])) (fun t kt => st39 t kt) ?_
  refine own_thr (a := T39.setTop (mkF m 137 #[.val (.int p0), .val (.int p1), .val (.int p2), .val (.int p3), .val (.int p4), .val (.int p5), .val (.int n), .val (.int s0), .val (.int d1), .val (.int tt), .val (.int d2), .val (.int s1), .val (.int s2), .val (.int (1 : Int32)), .val (.int (1 : Int32)), .val (.int (0 : Int32)), .val (.ref b33), .unset, .unset, .unset] [(.int (3 : Int32))])) (fun t kt => ?_) ?_
  · show Steps p.tables e below (T39.setTop (mkF m 134 #[.val (.int p0), .val (.int p1), .val (.int p2), .val (.int p3), .val (.int p4), .val (.int p5), .val (.int n), .val (.int s0), .val (.int d1), .val (.int tt), .val (.int d2), .val (.int s1), .val (.int s2), .val (.int (1 : Int32)), .val (.int (1 : Int32)), .val (.int (0 : Int32)), .unset, .unset, .unset, .unset] [(.ref b33)])) _
    refine XS.astore X39.here hx rfl (hb hby at_134) rfl rfl (l' := #[.val (.int p0), .val (.int p1), .val (.int p2), .val (.int p3), .val (.int p4), .val (.int p5), .val (.int n), .val (.int s0), .val (.int d1), .val (.int tt), .val (.int d2), .val (.int s1), .val (.int s2), .val (.int (1 : Int32)), .val (.int (1 : Int32)), .val (.int (0 : Int32)), .val (.ref b33), .unset, .unset, .unset]) rfl ?_
    refine XS.iconst X39.here hx rfl (hb hby at_136) ?_
    exact kt
  obtain ⟨T41, h41, k41, X41, e41, E41, A41, st41⟩ := newP X39 hx hZ (hw _ (List.mem_of_getElem? (i := 2) rfl)) e39 (g := (mkF m 137 #[.val (.int p0), .val (.int p1), .val (.int p2), .val (.int p3), .val (.int p4), .val (.int p5), .val (.int n), .val (.int s0), .val (.int d1), .val (.int tt), .val (.int d2), .val (.int s1), .val (.int s2), .val (.int (1 : Int32)), .val (.int (1 : Int32)), .val (.int (0 : Int32)), .val (.ref b33), .unset, .unset, .unset] [(.int (3 : Int32))])) rfl (hb hby at_137) rfl (by decide) (cap := 3) (by decide) (by decide) (by decide : 1 + 1 ≤ _) (by decide : 3 + 3 ≤ _)
  obtain ⟨b41, g41⟩ : ∃ z, z = h39.size := ⟨_, rfl⟩
  rw [← g41] at A41 st41
  have g_b41 : n0 ≤ b41 := Nat.le_trans Z40 (Nat.le_of_eq g41.symm)
  have sz_b41 : h0.size ≤ b41 := Nat.le_trans Z40h (Nat.le_of_eq g41.symm)
  have lt_b33_b41 : b33 < b41 := Nat.lt_of_lt_of_le V39.lt (Nat.le_of_eq g41.symm)
  have ne_b33_b41 : b33 ≠ b41 := Nat.ne_of_lt lt_b33_b41
  have V_b41 : Arv Z h41 b41 k41 .int (3 : Int32) [(.int (0 : Int32)), (.int (0 : Int32)), (.int (0 : Int32))] (.int (0 : Int32)) := (Arv.new A41 (by decide)).pad (pad_rep [] (.int (0 : Int32)) 3)
  have Z42 : n0 ≤ h41.size := Nat.le_trans Z40 E41.1
  have Z42h : h0.size ≤ h41.size := Nat.le_trans Z40h E41.1
  refine own_thr (a := T41.setTop (mkF m 139 #[.val (.int p0), .val (.int p1), .val (.int p2), .val (.int p3), .val (.int p4), .val (.int p5), .val (.int n), .val (.int s0), .val (.int d1), .val (.int tt), .val (.int d2), .val (.int s1), .val (.int s2), .val (.int (1 : Int32)), .val (.int (1 : Int32)), .val (.int (0 : Int32)), .val (.ref b33), .unset, .unset, .unset] [(.ref b41)])) (fun t kt => st41 t kt) ?_
  refine own_thr (a := T41.setTop (mkF m 210 #[.val (.int p0), .val (.int p1), .val (.int p2), .val (.int p3), .val (.int p4), .val (.int p5), .val (.int n), .val (.int s0), .val (.int d1), .val (.int tt), .val (.int d2), .val (.int s1), .val (.int s2), .val (.int (1 : Int32)), .val (.int (1 : Int32)), .val (.int (0 : Int32)), .val (.ref b33), .val (.ref b41), .unset, .unset] [(.int (0 : Int32)), (.ref b33), (.int (0 : Int32)), (.ref b41)])) (fun t kt => ?_) ?_
  · show Steps p.tables e below (T41.setTop (mkF m 139 #[.val (.int p0), .val (.int p1), .val (.int p2), .val (.int p3), .val (.int p4), .val (.int p5), .val (.int n), .val (.int s0), .val (.int d1), .val (.int tt), .val (.int d2), .val (.int s1), .val (.int s2), .val (.int (1 : Int32)), .val (.int (1 : Int32)), .val (.int (0 : Int32)), .val (.ref b33), .unset, .unset, .unset] [(.ref b41)])) _
    refine XS.astore X41.here hx rfl (hb hby at_139) rfl rfl (l' := #[.val (.int p0), .val (.int p1), .val (.int p2), .val (.int p3), .val (.int p4), .val (.int p5), .val (.int n), .val (.int s0), .val (.int d1), .val (.int tt), .val (.int d2), .val (.int s1), .val (.int s2), .val (.int (1 : Int32)), .val (.int (1 : Int32)), .val (.int (0 : Int32)), .val (.ref b33), .val (.ref b41), .unset, .unset]) rfl ?_
    refine XS.iload X41.here hx rfl (hb hby at_141) rfl ?_
    refine XS.ifNo X41.here hx rfl (hb hby at_143) rfl ((if0 _ _).trans (feq (by decide)).1) ?_
    refine XS.iload X41.here hx rfl (hb hby at_146) rfl ?_
    refine XS.iconst X41.here hx rfl (hb hby at_148) ?_
    refine XS.icmpYes X41.here hx rfl (pc0 := 149) (pc' := 173) rfl (hb hby at_149) rfl (flt (by decide)).2.2.2 (by decide) (by decide) ?_
    refine XS.iload X41.here hx rfl (hb hby at_173) rfl ?_
    refine XS.iconst X41.here hx rfl (hb hby at_175) ?_
    refine XS.icmpYes X41.here hx rfl (pc0 := 176) (pc' := 200) rfl (hb hby at_176) rfl (flt (by decide)).2.2.2 (by decide) (by decide) ?_
    refine XS.aload X41.here hx rfl (hb hby at_200) rfl rfl ?_
    refine XS.iload X41.here hx rfl (hb hby at_202) rfl ?_
    refine XS.iconst X41.here hx rfl (hb hby at_204) ?_
    refine XS.isub X41.here hx rfl (hb hby at_205) rfl ?_
    refine XS.aload X41.here hx rfl (hb hby at_206) rfl rfl ?_
    refine XS.iload X41.here hx rfl (hb hby at_208) rfl ?_
    exact kt
  obtain ⟨cl43, Ar43, -, S43, M43, H43, -⟩ := id (V39.ext E41)
  have hin43 : ¬ ((0 : Int32) < 0 ∨ cl43.slots.size ≤ ((0 : Int32)).toNatClampNeg) := inb_of S43 ⟨by decide, by decide⟩
  have hat43 : cl43.slots[((0 : Int32)).toNatClampNeg]? = some (.int s0) := Has.at H43 hin43 rfl
  refine own_thr (a := T41.setTop (mkF m 211 #[.val (.int p0), .val (.int p1), .val (.int p2), .val (.int p3), .val (.int p4), .val (.int p5), .val (.int n), .val (.int s0), .val (.int d1), .val (.int tt), .val (.int d2), .val (.int s1), .val (.int s2), .val (.int (1 : Int32)), .val (.int (1 : Int32)), .val (.int (0 : Int32)), .val (.ref b33), .val (.ref b41), .unset, .unset] [(.int s0), (.int (0 : Int32)), (.ref b41)])) (fun t kt => ?_) ?_
  · show Steps p.tables e below (T41.setTop (mkF m 210 #[.val (.int p0), .val (.int p1), .val (.int p2), .val (.int p3), .val (.int p4), .val (.int p5), .val (.int n), .val (.int s0), .val (.int d1), .val (.int tt), .val (.int d2), .val (.int s1), .val (.int s2), .val (.int (1 : Int32)), .val (.int (1 : Int32)), .val (.int (0 : Int32)), .val (.ref b33), .val (.ref b41), .unset, .unset] [(.int (0 : Int32)), (.ref b33), (.int (0 : Int32)), (.ref b41)])) _
    refine X41.iaload hx (j := (0 : Int32)) (v := (.int s0)) (by rw [e41]; exact Ar43.1) (State.isArrayOf_alike hZ.alike Ar43.2.1) Ar43.2.2 hin43 hat43 (g := (mkF m 210 #[.val (.int p0), .val (.int p1), .val (.int p2), .val (.int p3), .val (.int p4), .val (.int p5), .val (.int n), .val (.int s0), .val (.int d1), .val (.int tt), .val (.int d2), .val (.int s1), .val (.int s2), .val (.int (1 : Int32)), .val (.int (1 : Int32)), .val (.int (0 : Int32)), .val (.ref b33), .val (.ref b41), .unset, .unset] [(.int (0 : Int32)), (.ref b33), (.int (0 : Int32)), (.ref b41)])) rfl rfl (hb hby at_210) _ ?_
    exact kt
  obtain ⟨cl44, Ar44, q44, S44, M44, H44, G44⟩ := id V_b41
  have hin44 : ¬ ((0 : Int32) < 0 ∨ cl44.slots.size ≤ ((0 : Int32)).toNatClampNeg) := inb_of S44 ⟨by decide, by decide⟩
  obtain ⟨T44, h44, X44, e44, W44, st44⟩ := stI X41 hx hZ e41 Ar44 (j := (0 : Int32)) hin44 (g := (mkF m 211 #[.val (.int p0), .val (.int p1), .val (.int p2), .val (.int p3), .val (.int p4), .val (.int p5), .val (.int n), .val (.int s0), .val (.int d1), .val (.int tt), .val (.int d2), .val (.int s1), .val (.int s2), .val (.int (1 : Int32)), .val (.int (1 : Int32)), .val (.int (0 : Int32)), .val (.ref b33), .val (.ref b41), .unset, .unset] [(.int s0), (.int (0 : Int32)), (.ref b41)])) rfl rfl (hb hby at_211)
  have Z45 : n0 ≤ h44.size := Nat.le_trans Z42 (Nat.le_of_eq W44.size.symm)
  have Z45h : h0.size ≤ h44.size := Nat.le_trans Z42h (Nat.le_of_eq W44.size.symm)
  have V44 : Arv Z h44 b41 k41 .int (3 : Int32) [(.int s0), (.int (0 : Int32)), (.int (0 : Int32))] (.int (0 : Int32)) := Arv.set Ar44 q44 S44 M44 H44 G44 rfl W44 0 rfl (Nat.le_of_ble_eq_true rfl)
  obtain ⟨lc44, X44, N44⟩ := own_pack1 X44 N39 g_b41
  refine own_thr (a := T44.setTop (mkF m 212 #[.val (.int p0), .val (.int p1), .val (.int p2), .val (.int p3), .val (.int p4), .val (.int p5), .val (.int n), .val (.int s0), .val (.int d1), .val (.int tt), .val (.int d2), .val (.int s1), .val (.int s2), .val (.int (1 : Int32)), .val (.int (1 : Int32)), .val (.int (0 : Int32)), .val (.ref b33), .val (.ref b41), .unset, .unset] [])) (fun t kt => st44 t kt) ?_
  refine own_thr (a := T44.setTop (mkF m 239 #[.val (.int p0), .val (.int p1), .val (.int p2), .val (.int p3), .val (.int p4), .val (.int p5), .val (.int n), .val (.int s0), .val (.int d1), .val (.int tt), .val (.int d2), .val (.int s1), .val (.int s2), .val (.int (1 : Int32)), .val (.int (1 : Int32)), .val (.int (0 : Int32)), .val (.ref b33), .val (.ref b41), .unset, .unset] [])) (fun t kt => ?_) ?_
  · show Steps p.tables e below (T44.setTop (mkF m 212 #[.val (.int p0), .val (.int p1), .val (.int p2), .val (.int p3), .val (.int p4), .val (.int p5), .val (.int n), .val (.int s0), .val (.int d1), .val (.int tt), .val (.int d2), .val (.int s1), .val (.int s2), .val (.int (1 : Int32)), .val (.int (1 : Int32)), .val (.int (0 : Int32)), .val (.ref b33), .val (.ref b41), .unset, .unset] [])) _
    refine XS.goto X44.here hx rfl (pc0 := 212) (pc' := 239) rfl (hb hby at_212) (by decide) (by decide) ?_
    exact kt
  obtain ⟨T46, h46, X46, e46, E46, A46, D46, U46, st46⟩ := newO X44 hx hZ hown (hw _ (List.mem_of_getElem? (i := 3) rfl)) (hw _ (List.mem_of_getElem? (i := 4) rfl)) (hw _ (List.mem_of_getElem? (i := 5) rfl)) e44 (g := (mkF m 239 #[.val (.int p0), .val (.int p1), .val (.int p2), .val (.int p3), .val (.int p4), .val (.int p5), .val (.int n), .val (.int s0), .val (.int d1), .val (.int tt), .val (.int d2), .val (.int s1), .val (.int s2), .val (.int (1 : Int32)), .val (.int (1 : Int32)), .val (.int (0 : Int32)), .val (.ref b33), .val (.ref b41), .unset, .unset] [])) rfl (hb hby at_239) (by decide : 2 + 1 ≤ _) (by decide : 6 + 4 ≤ _)
  obtain ⟨b46, g46⟩ : ∃ z, z = h44.size := ⟨_, rfl⟩
  rw [← g46] at A46 D46 st46 U46
  have g_b46 : n0 ≤ b46 := Nat.le_trans Z45 (Nat.le_of_eq g46.symm)
  have sz_b46 : h0.size ≤ b46 := Nat.le_trans Z45h (Nat.le_of_eq g46.symm)
  have lt_b33_b46 : b33 < b46 := Nat.lt_of_lt_of_le ((V39.ext E41).other W44 ne_b33_b41).lt (Nat.le_of_eq g46.symm)
  have ne_b33_b46 : b33 ≠ b46 := Nat.ne_of_lt lt_b33_b46
  have lt_b41_b46 : b41 < b46 := Nat.lt_of_lt_of_le V44.lt (Nat.le_of_eq g46.symm)
  have ne_b41_b46 : b41 ≠ b46 := Nat.ne_of_lt lt_b41_b46
  have Z47 : n0 ≤ h46.size := Nat.le_trans Z45 E46.1
  have Z47h : h0.size ≤ h46.size := Nat.le_trans Z45h E46.1
  have F_first_b46 : Fld Z h46 b46 "dev/chainlatch/bucket/Order" "first" "I" (.int (0 : Int32)) := D46 (Or.inl (hw _ (List.mem_of_getElem? (i := 13) rfl))) (ty := .int) (by decide)
  have F_last_b46 : Fld Z h46 b46 "dev/chainlatch/bucket/Order" "last" "I" (.int (0 : Int32)) := D46 (Or.inl (hw _ (List.mem_of_getElem? (i := 15) rfl))) (ty := .int) (by decide)
  have F_before_b46 : Fld Z h46 b46 "dev/chainlatch/bucket/Order" "before" "[I" .null := D46 (Or.inl (hw _ (List.mem_of_getElem? (i := 17) rfl))) (ty := (.array .int)) (by decide)
  have F_after_b46 : Fld Z h46 b46 "dev/chainlatch/bucket/Order" "after" "[I" .null := D46 (Or.inl (hw _ (List.mem_of_getElem? (i := 19) rfl))) (ty := (.array .int)) (by decide)
  refine own_thr (a := T46.setTop (mkF m 242 #[.val (.int p0), .val (.int p1), .val (.int p2), .val (.int p3), .val (.int p4), .val (.int p5), .val (.int n), .val (.int s0), .val (.int d1), .val (.int tt), .val (.int d2), .val (.int s1), .val (.int s2), .val (.int (1 : Int32)), .val (.int (1 : Int32)), .val (.int (0 : Int32)), .val (.ref b33), .val (.ref b41), .unset, .unset] [(.ref b46)])) (fun t kt => st46 t kt) ?_
  refine own_thr (a := T46.setTop (mkF m 245 #[.val (.int p0), .val (.int p1), .val (.int p2), .val (.int p3), .val (.int p4), .val (.int p5), .val (.int n), .val (.int s0), .val (.int d1), .val (.int tt), .val (.int d2), .val (.int s1), .val (.int s2), .val (.int (1 : Int32)), .val (.int (1 : Int32)), .val (.int (0 : Int32)), .val (.ref b33), .val (.ref b41), .unset, .unset] [(.int n), (.ref b46), (.ref b46)])) (fun t kt => ?_) ?_
  · show Steps p.tables e below (T46.setTop (mkF m 242 #[.val (.int p0), .val (.int p1), .val (.int p2), .val (.int p3), .val (.int p4), .val (.int p5), .val (.int n), .val (.int s0), .val (.int d1), .val (.int tt), .val (.int d2), .val (.int s1), .val (.int s2), .val (.int (1 : Int32)), .val (.int (1 : Int32)), .val (.int (0 : Int32)), .val (.ref b33), .val (.ref b41), .unset, .unset] [(.ref b46)])) _
    refine XS.dup X46.here hx rfl (hb hby at_242) rfl rfl ?_
    refine XS.iload X46.here hx rfl (hb hby at_243) rfl ?_
    exact kt
  obtain ⟨_, _, ⟨T48, L48, k48, n48⟩, -, X48, ⟨Lc48, hQ48, l48, y48, z48⟩, st48⟩ := X46.specialBack hx (y := (⟨"dev/chainlatch/bucket/Order", "<init>", "(I)V"⟩ : MethodName)) rfl hown (mvT hZ (hw _ (List.mem_of_getElem? (i := 6) rfl))) (mvT hZ (hw _ (List.mem_of_getElem? (i := 7) rfl))) (mvT hZ (hw _ (List.mem_of_getElem? (i := 8) rfl))) (by decide) (backOf (W := 1) (rmI l Z a0 hw [] b46 n h46 n0 Z47 A46 F_first_b46 F_last_b46 F_before_b46 F_after_b46 g_b46 hn0 hn1) hZ (hw _ (List.mem_of_getElem? (i := 8) rfl)) (hw _ (List.mem_of_getElem? (i := 5) rfl)) (by decide) (by decide)) (g := (mkF m 245 #[.val (.int p0), .val (.int p1), .val (.int p2), .val (.int p3), .val (.int p4), .val (.int p5), .val (.int n), .val (.int s0), .val (.int d1), .val (.int tt), .val (.int d2), .val (.int s1), .val (.int s2), .val (.int (1 : Int32)), .val (.int (1 : Int32)), .val (.int (0 : Int32)), .val (.ref b33), .val (.ref b41), .unset, .unset] [(.int n), (.ref b46), (.ref b46)])) rfl (by rw [hml]; rfl) (Steps.refl _) (a := b46) (argsL := [(.int n)]) (rest := [(.ref b46)]) (lenOf pd__28I_29V rfl) rfl (by show 2 * 0 + _ ≤ _; exact Nat.le_of_eq rfl) (hb hby at_245) (fun _ _ => ⟨rfl, e46, (by decide : 3 + 2 ≤ _), (by decide : 10 + 20 ≤ _)⟩)
  dsimp only [Pt.U, Pt.locs, Pt.cells, Pt.slots] at X48 l48 y48 z48 st48 hQ48
  obtain ⟨B48, A48, rfl, N48q, K48, o48_e, o48_f, o48_l, o48_b, o48_a, o48_B, o48_A, hB48, hBA48⟩ := hQ48
  have ne_b33_B48 : b33 ≠ B48 := Nat.ne_of_lt (Nat.lt_of_lt_of_le (((V39.ext E41).other W44 ne_b33_b41).ext E46).lt hB48)
  have ne_b33_A48 : b33 ≠ A48 := Nat.ne_of_lt (Nat.lt_trans (Nat.lt_of_lt_of_le (((V39.ext E41).other W44 ne_b33_b41).ext E46).lt hB48) hBA48)
  have ne_b41_B48 : b41 ≠ B48 := Nat.ne_of_lt (Nat.lt_of_lt_of_le (V44.ext E46).lt hB48)
  have ne_b41_A48 : b41 ≠ A48 := Nat.ne_of_lt (Nat.lt_trans (Nat.lt_of_lt_of_le (V44.ext E46).lt hB48) hBA48)
  have ne_b46_B48 : b46 ≠ B48 := Nat.ne_of_lt (Nat.lt_of_lt_of_le A46.lt hB48)
  have ne_b46_A48 : b46 ≠ A48 := Nat.ne_of_lt (Nat.lt_trans (Nat.lt_of_lt_of_le A46.lt hB48) hBA48)
  have ne_B48_A48 : B48 ≠ A48 := Nat.ne_of_lt hBA48
  have g_B48 : n0 ≤ B48 := Nat.le_trans Z47 hB48
  have g_A48 : n0 ≤ A48 := Nat.le_trans g_B48 (Nat.le_of_lt hBA48)
  have Z49 : n0 ≤ T48.heap.size := Nat.le_trans Z47 K48.1
  have Z49h : h0.size ≤ T48.heap.size := Nat.le_trans Z47h K48.1
  obtain ⟨lc48, X48, N48⟩ := own_pack X48 l48 y48 z48 N44 N48q (C := 5) (S' := 30) rfl rfl
  refine own_thr (a := T48.setTop (mkF m 248 #[.val (.int p0), .val (.int p1), .val (.int p2), .val (.int p3), .val (.int p4), .val (.int p5), .val (.int n), .val (.int s0), .val (.int d1), .val (.int tt), .val (.int d2), .val (.int s1), .val (.int s2), .val (.int (1 : Int32)), .val (.int (1 : Int32)), .val (.int (0 : Int32)), .val (.ref b33), .val (.ref b41), .unset, .unset] [(.ref b46)])) (fun t kt => st48.trans kt) ?_
  refine own_thr (a := T48.setTop (mkF m 255 #[.val (.int p0), .val (.int p1), .val (.int p2), .val (.int p3), .val (.int p4), .val (.int p5), .val (.int n), .val (.int s0), .val (.int d1), .val (.int tt), .val (.int d2), .val (.int s1), .val (.int s2), .val (.int (1 : Int32)), .val (.int (1 : Int32)), .val (.int (0 : Int32)), .val (.ref b33), .val (.ref b41), .val (.ref b46), .unset] [(.int (0 : Int32)), (.ref b33), (.ref b46)])) (fun t kt => ?_) ?_
  · show Steps p.tables e below (T48.setTop (mkF m 248 #[.val (.int p0), .val (.int p1), .val (.int p2), .val (.int p3), .val (.int p4), .val (.int p5), .val (.int n), .val (.int s0), .val (.int d1), .val (.int tt), .val (.int d2), .val (.int s1), .val (.int s2), .val (.int (1 : Int32)), .val (.int (1 : Int32)), .val (.int (0 : Int32)), .val (.ref b33), .val (.ref b41), .unset, .unset] [(.ref b46)])) _
    refine XS.astore X48.here hx rfl (hb hby at_248) rfl rfl (l' := #[.val (.int p0), .val (.int p1), .val (.int p2), .val (.int p3), .val (.int p4), .val (.int p5), .val (.int n), .val (.int s0), .val (.int d1), .val (.int tt), .val (.int d2), .val (.int s1), .val (.int s2), .val (.int (1 : Int32)), .val (.int (1 : Int32)), .val (.int (0 : Int32)), .val (.ref b33), .val (.ref b41), .val (.ref b46), .unset]) rfl ?_
    refine XS.aload X48.here hx rfl (hb hby at_250) rfl rfl ?_
    refine XS.aload X48.here hx rfl (hb hby at_252) rfl rfl ?_
    refine XS.iconst X48.here hx rfl (hb hby at_254) ?_
    exact kt
  have c51 := ((((V39.ext E41).other W44 ne_b33_b41).ext E46).keep K48 (ninS ne_b33_b46 nin0))
  obtain ⟨cl50, Ar50, -, S50, M50, H50, -⟩ := id c51
  have hin50 : ¬ ((0 : Int32) < 0 ∨ cl50.slots.size ≤ ((0 : Int32)).toNatClampNeg) := inb_of S50 ⟨by decide, by decide⟩
  have hat50 : cl50.slots[((0 : Int32)).toNatClampNeg]? = some (.int s0) := Has.at H50 hin50 rfl
  refine own_thr (a := T48.setTop (mkF m 256 #[.val (.int p0), .val (.int p1), .val (.int p2), .val (.int p3), .val (.int p4), .val (.int p5), .val (.int n), .val (.int s0), .val (.int d1), .val (.int tt), .val (.int d2), .val (.int s1), .val (.int s2), .val (.int (1 : Int32)), .val (.int (1 : Int32)), .val (.int (0 : Int32)), .val (.ref b33), .val (.ref b41), .val (.ref b46), .unset] [(.int s0), (.ref b46)])) (fun t kt => ?_) ?_
  · show Steps p.tables e below (T48.setTop (mkF m 255 #[.val (.int p0), .val (.int p1), .val (.int p2), .val (.int p3), .val (.int p4), .val (.int p5), .val (.int n), .val (.int s0), .val (.int d1), .val (.int tt), .val (.int d2), .val (.int s1), .val (.int s2), .val (.int (1 : Int32)), .val (.int (1 : Int32)), .val (.int (0 : Int32)), .val (.ref b33), .val (.ref b41), .val (.ref b46), .unset] [(.int (0 : Int32)), (.ref b33), (.ref b46)])) _
    refine X48.iaload hx (j := (0 : Int32)) (v := (.int s0)) Ar50.1 (State.isArrayOf_alike hZ.alike Ar50.2.1) Ar50.2.2 hin50 hat50 (g := (mkF m 255 #[.val (.int p0), .val (.int p1), .val (.int p2), .val (.int p3), .val (.int p4), .val (.int p5), .val (.int n), .val (.int s0), .val (.int d1), .val (.int tt), .val (.int d2), .val (.int s1), .val (.int s2), .val (.int (1 : Int32)), .val (.int (1 : Int32)), .val (.int (0 : Int32)), .val (.ref b33), .val (.ref b41), .val (.ref b46), .unset] [(.int (0 : Int32)), (.ref b33), (.ref b46)])) rfl rfl (hb hby at_255) _ ?_
    exact kt
  obtain ⟨cq52, kq52, q52a, q52b, q52c⟩ := isOf hZ rfl o48_e
  obtain ⟨_, _, ⟨T52, L52, k52, n52⟩, -, X52, ⟨Lc52, hQ52, l52, y52, z52⟩, st52⟩ := X48.virtualBack hx (y := (⟨"dev/chainlatch/bucket/Order", "append", "(I)V"⟩ : MethodName)) (z := (⟨"dev/chainlatch/bucket/Order", "append", "(I)V"⟩ : MethodName)) hown (mvT hZ (hw _ (List.mem_of_getElem? (i := 20) rfl))) (mvT hZ (hw _ (List.mem_of_getElem? (i := 21) rfl))) (notFace_of_selects (args := #[]) (mvT hZ (hw _ (List.mem_of_getElem? (i := 23) rfl)))) (mvT hZ (hw _ (List.mem_of_getElem? (i := 23) rfl))) (mvT hZ (hw _ (List.mem_of_getElem? (i := 22) rfl))) (by decide) (backOf (W := 0) (rmA1 l Z a0 hw [] b46 s0 B48 A48 n (-1 : Int32) (-1 : Int32) (fun _ => 0) (fun _ => 0) T48.heap n0 Z49 o48_e o48_f o48_l o48_b o48_a o48_B o48_A g_b46 g_B48 g_A48 ne_b46_B48 ne_b46_A48 ne_B48_A48 hs00 hs01 rfl) hZ (hw _ (List.mem_of_getElem? (i := 24) rfl)) (hw _ (List.mem_of_getElem? (i := 5) rfl)) (by decide) (by decide)) q52a q52c (g := (mkF m 256 #[.val (.int p0), .val (.int p1), .val (.int p2), .val (.int p3), .val (.int p4), .val (.int p5), .val (.int n), .val (.int s0), .val (.int d1), .val (.int tt), .val (.int d2), .val (.int s1), .val (.int s2), .val (.int (1 : Int32)), .val (.int (1 : Int32)), .val (.int (0 : Int32)), .val (.ref b33), .val (.ref b41), .val (.ref b46), .unset] [(.int s0), (.ref b46)])) rfl (by rw [hml]; rfl) (Steps.refl _) (argsL := [(.int s0)]) (rest := []) (lenOf pd__28I_29V rfl) rfl (by show 2 * 0 + _ ≤ _; exact Nat.le_of_eq rfl) (hb hby at_256) (fun _ _ => ⟨rfl, rfl, (by decide : 5 + 0 ≤ _), (by decide : 30 + 0 ≤ _)⟩)
  dsimp only [Pt.U, Pt.locs, Pt.cells, Pt.slots] at X52 l52 y52 z52 st52 hQ52
  obtain ⟨rfl, N52q, K52, o52_0, o52_1, o52_2, o52_3, o52_4, o52_5, o52_6⟩ := hQ52
  have Z53 : n0 ≤ T52.heap.size := Nat.le_trans Z49 K52.1
  have Z53h : h0.size ≤ T52.heap.size := Nat.le_trans Z49h K52.1
  obtain ⟨lc52, X52, N52⟩ := own_pack X52 l52 y52 z52 N48 N52q (C := 5) (S' := 30) rfl rfl
  refine own_thr (a := T52.setTop (mkF m 259 #[.val (.int p0), .val (.int p1), .val (.int p2), .val (.int p3), .val (.int p4), .val (.int p5), .val (.int n), .val (.int s0), .val (.int d1), .val (.int tt), .val (.int d2), .val (.int s1), .val (.int s2), .val (.int (1 : Int32)), .val (.int (1 : Int32)), .val (.int (0 : Int32)), .val (.ref b33), .val (.ref b41), .val (.ref b46), .unset] [])) (fun t kt => st52.trans kt) ?_
  refine own_thr (a := T52.setTop (mkF m 300 #[.val (.int p0), .val (.int p1), .val (.int p2), .val (.int p3), .val (.int p4), .val (.int p5), .val (.int n), .val (.int s0), .val (.int d1), .val (.int tt), .val (.int d2), .val (.int s1), .val (.int s2), .val (.int (1 : Int32)), .val (.int (1 : Int32)), .val (.int (0 : Int32)), .val (.ref b33), .val (.ref b41), .val (.ref b46), .unset] [(.int (0 : Int32)), (.ref b33), (.ref b46)])) (fun t kt => ?_) ?_
  · show Steps p.tables e below (T52.setTop (mkF m 259 #[.val (.int p0), .val (.int p1), .val (.int p2), .val (.int p3), .val (.int p4), .val (.int p5), .val (.int n), .val (.int s0), .val (.int d1), .val (.int tt), .val (.int d2), .val (.int s1), .val (.int s2), .val (.int (1 : Int32)), .val (.int (1 : Int32)), .val (.int (0 : Int32)), .val (.ref b33), .val (.ref b41), .val (.ref b46), .unset] [])) _
    refine XS.iload X52.here hx rfl (hb hby at_259) rfl ?_
    refine XS.iconst X52.here hx rfl (hb hby at_261) ?_
    refine XS.icmpYes X52.here hx rfl (pc0 := 262) (pc' := 274) rfl (hb hby at_262) rfl (flt (by decide)).2.2.2 (by decide) (by decide) ?_
    refine XS.iload X52.here hx rfl (hb hby at_274) rfl ?_
    refine XS.iconst X52.here hx rfl (hb hby at_276) ?_
    refine XS.icmpYes X52.here hx rfl (pc0 := 277) (pc' := 289) rfl (hb hby at_277) rfl (flt (by decide)).2.2.2 (by decide) (by decide) ?_
    refine XS.iload X52.here hx rfl (hb hby at_289) rfl ?_
    refine XS.ifNo X52.here hx rfl (hb hby at_291) rfl ((if0 _ _).trans (feq (by decide)).1) ?_
    refine XS.aload X52.here hx rfl (hb hby at_294) rfl rfl ?_
    refine XS.aload X52.here hx rfl (hb hby at_296) rfl rfl ?_
    refine XS.iload X52.here hx rfl (hb hby at_298) rfl ?_
    exact kt
  have c55 := (c51.keep K52 (ninS ne_b33_b46 (ninS ne_b33_B48 (ninS ne_b33_A48 nin0))))
  obtain ⟨cl54, Ar54, -, S54, M54, H54, -⟩ := id c55
  have hin54 : ¬ ((0 : Int32) < 0 ∨ cl54.slots.size ≤ ((0 : Int32)).toNatClampNeg) := inb_of S54 ⟨by decide, by decide⟩
  have hat54 : cl54.slots[((0 : Int32)).toNatClampNeg]? = some (.int s0) := Has.at H54 hin54 rfl
  refine own_thr (a := T52.setTop (mkF m 301 #[.val (.int p0), .val (.int p1), .val (.int p2), .val (.int p3), .val (.int p4), .val (.int p5), .val (.int n), .val (.int s0), .val (.int d1), .val (.int tt), .val (.int d2), .val (.int s1), .val (.int s2), .val (.int (1 : Int32)), .val (.int (1 : Int32)), .val (.int (0 : Int32)), .val (.ref b33), .val (.ref b41), .val (.ref b46), .unset] [(.int s0), (.ref b46)])) (fun t kt => ?_) ?_
  · show Steps p.tables e below (T52.setTop (mkF m 300 #[.val (.int p0), .val (.int p1), .val (.int p2), .val (.int p3), .val (.int p4), .val (.int p5), .val (.int n), .val (.int s0), .val (.int d1), .val (.int tt), .val (.int d2), .val (.int s1), .val (.int s2), .val (.int (1 : Int32)), .val (.int (1 : Int32)), .val (.int (0 : Int32)), .val (.ref b33), .val (.ref b41), .val (.ref b46), .unset] [(.int (0 : Int32)), (.ref b33), (.ref b46)])) _
    refine X52.iaload hx (j := (0 : Int32)) (v := (.int s0)) Ar54.1 (State.isArrayOf_alike hZ.alike Ar54.2.1) Ar54.2.2 hin54 hat54 (g := (mkF m 300 #[.val (.int p0), .val (.int p1), .val (.int p2), .val (.int p3), .val (.int p4), .val (.int p5), .val (.int n), .val (.int s0), .val (.int d1), .val (.int tt), .val (.int d2), .val (.int s1), .val (.int s2), .val (.int (1 : Int32)), .val (.int (1 : Int32)), .val (.int (0 : Int32)), .val (.ref b33), .val (.ref b41), .val (.ref b46), .unset] [(.int (0 : Int32)), (.ref b33), (.ref b46)])) rfl rfl (hb hby at_300) _ ?_
    exact kt
  obtain ⟨cq56, kq56, q56a, q56b, q56c⟩ := isOf hZ rfl o52_0
  obtain ⟨_, _, ⟨T56, L56, k56, n56⟩, -, X56, ⟨Lc56, hQ56, l56, y56, z56⟩, st56⟩ := X52.virtualBack hx (y := (⟨"dev/chainlatch/bucket/Order", "remove", "(I)V"⟩ : MethodName)) (z := (⟨"dev/chainlatch/bucket/Order", "remove", "(I)V"⟩ : MethodName)) hown (mvT hZ (hw _ (List.mem_of_getElem? (i := 25) rfl))) (mvT hZ (hw _ (List.mem_of_getElem? (i := 26) rfl))) (notFace_of_selects (args := #[]) (mvT hZ (hw _ (List.mem_of_getElem? (i := 28) rfl)))) (mvT hZ (hw _ (List.mem_of_getElem? (i := 28) rfl))) (mvT hZ (hw _ (List.mem_of_getElem? (i := 27) rfl))) (by decide) (backOf (W := 0) (rmR00 l Z a0 hw [] b46 s0 B48 A48 n s0 s0 (own_up (fun _ => 0) s0 ((-1 : Int32) + (1 : Int32))) (own_up (fun _ => 0) s0 (0 : Int32)) T52.heap n0 Z53 o52_0 o52_1 o52_2 o52_3 o52_4 o52_5 o52_6 g_b46 g_B48 g_A48 ne_b46_B48 ne_b46_A48 ne_B48_A48 hs00 hs01 (by simp [own_up, own_as, n01, n10, n02, n20, n12, n21] : (((own_up (fun _ => 0) s0 ((-1 : Int32) + (1 : Int32))) s0) - (1 : Int32)) = (-1 : Int32)) (by simp [own_up, own_as, n01, n10, n02, n20, n12, n21] : (((own_up (fun _ => 0) s0 (0 : Int32)) s0) - (1 : Int32)) = (-1 : Int32))) hZ (hw _ (List.mem_of_getElem? (i := 29) rfl)) (hw _ (List.mem_of_getElem? (i := 5) rfl)) (by decide) (by decide)) q56a q56c (g := (mkF m 301 #[.val (.int p0), .val (.int p1), .val (.int p2), .val (.int p3), .val (.int p4), .val (.int p5), .val (.int n), .val (.int s0), .val (.int d1), .val (.int tt), .val (.int d2), .val (.int s1), .val (.int s2), .val (.int (1 : Int32)), .val (.int (1 : Int32)), .val (.int (0 : Int32)), .val (.ref b33), .val (.ref b41), .val (.ref b46), .unset] [(.int s0), (.ref b46)])) rfl (by rw [hml]; rfl) (Steps.refl _) (argsL := [(.int s0)]) (rest := []) (lenOf pd__28I_29V rfl) rfl (by show 2 * 0 + _ ≤ _; exact Nat.le_of_eq rfl) (hb hby at_301) (fun _ _ => ⟨rfl, rfl, (by decide : 5 + 0 ≤ _), (by decide : 30 + 0 ≤ _)⟩)
  dsimp only [Pt.U, Pt.locs, Pt.cells, Pt.slots] at X56 l56 y56 z56 st56 hQ56
  obtain ⟨rfl, N56q, K56, o56_0, o56_1, o56_2, o56_3, o56_4, o56_5, o56_6⟩ := hQ56
  have Z57 : n0 ≤ T56.heap.size := Nat.le_trans Z53 K56.1
  have Z57h : h0.size ≤ T56.heap.size := Nat.le_trans Z53h K56.1
  obtain ⟨lc56, X56, N56⟩ := own_pack X56 l56 y56 z56 N52 N56q (C := 5) (S' := 30) rfl rfl
  refine own_thr (a := T56.setTop (mkF m 304 #[.val (.int p0), .val (.int p1), .val (.int p2), .val (.int p3), .val (.int p4), .val (.int p5), .val (.int n), .val (.int s0), .val (.int d1), .val (.int tt), .val (.int d2), .val (.int s1), .val (.int s2), .val (.int (1 : Int32)), .val (.int (1 : Int32)), .val (.int (0 : Int32)), .val (.ref b33), .val (.ref b41), .val (.ref b46), .unset] [])) (fun t kt => st56.trans kt) ?_
  have el_last : (((own_up (fun _ => 0) s0 ((-1 : Int32) + (1 : Int32))) s0) - (1 : Int32)) = (-1 : Int32) := by simp [own_up, own_as, n01, n10, n02, n20, n12, n21]
  rw [el_last] at o56_2
  have el_first : (((own_up (fun _ => 0) s0 (0 : Int32)) s0) - (1 : Int32)) = (-1 : Int32) := by simp [own_up, own_as, n01, n10, n02, n20, n12, n21]
  rw [el_first] at o56_1
  refine own_thr (a := T56.setTop (mkF m 310 #[.val (.int p0), .val (.int p1), .val (.int p2), .val (.int p3), .val (.int p4), .val (.int p5), .val (.int n), .val (.int s0), .val (.int d1), .val (.int tt), .val (.int d2), .val (.int s1), .val (.int s2), .val (.int (1 : Int32)), .val (.int (1 : Int32)), .val (.int (0 : Int32)), .val (.ref b33), .val (.ref b41), .val (.ref b46), .unset] [(.int (0 : Int32)), (.ref b33), (.ref b46)])) (fun t kt => ?_) ?_
  · show Steps p.tables e below (T56.setTop (mkF m 304 #[.val (.int p0), .val (.int p1), .val (.int p2), .val (.int p3), .val (.int p4), .val (.int p5), .val (.int n), .val (.int s0), .val (.int d1), .val (.int tt), .val (.int d2), .val (.int s1), .val (.int s2), .val (.int (1 : Int32)), .val (.int (1 : Int32)), .val (.int (0 : Int32)), .val (.ref b33), .val (.ref b41), .val (.ref b46), .unset] [])) _
    refine XS.aload X56.here hx rfl (hb hby at_304) rfl rfl ?_
    refine XS.aload X56.here hx rfl (hb hby at_306) rfl rfl ?_
    refine XS.iload X56.here hx rfl (hb hby at_308) rfl ?_
    exact kt
  have c59 := (c55.keep K56 (ninS ne_b33_b46 (ninS ne_b33_B48 (ninS ne_b33_A48 nin0))))
  obtain ⟨cl58, Ar58, -, S58, M58, H58, -⟩ := id c59
  have hin58 : ¬ ((0 : Int32) < 0 ∨ cl58.slots.size ≤ ((0 : Int32)).toNatClampNeg) := inb_of S58 ⟨by decide, by decide⟩
  have hat58 : cl58.slots[((0 : Int32)).toNatClampNeg]? = some (.int s0) := Has.at H58 hin58 rfl
  refine own_thr (a := T56.setTop (mkF m 311 #[.val (.int p0), .val (.int p1), .val (.int p2), .val (.int p3), .val (.int p4), .val (.int p5), .val (.int n), .val (.int s0), .val (.int d1), .val (.int tt), .val (.int d2), .val (.int s1), .val (.int s2), .val (.int (1 : Int32)), .val (.int (1 : Int32)), .val (.int (0 : Int32)), .val (.ref b33), .val (.ref b41), .val (.ref b46), .unset] [(.int s0), (.ref b46)])) (fun t kt => ?_) ?_
  · show Steps p.tables e below (T56.setTop (mkF m 310 #[.val (.int p0), .val (.int p1), .val (.int p2), .val (.int p3), .val (.int p4), .val (.int p5), .val (.int n), .val (.int s0), .val (.int d1), .val (.int tt), .val (.int d2), .val (.int s1), .val (.int s2), .val (.int (1 : Int32)), .val (.int (1 : Int32)), .val (.int (0 : Int32)), .val (.ref b33), .val (.ref b41), .val (.ref b46), .unset] [(.int (0 : Int32)), (.ref b33), (.ref b46)])) _
    refine X56.iaload hx (j := (0 : Int32)) (v := (.int s0)) Ar58.1 (State.isArrayOf_alike hZ.alike Ar58.2.1) Ar58.2.2 hin58 hat58 (g := (mkF m 310 #[.val (.int p0), .val (.int p1), .val (.int p2), .val (.int p3), .val (.int p4), .val (.int p5), .val (.int n), .val (.int s0), .val (.int d1), .val (.int tt), .val (.int d2), .val (.int s1), .val (.int s2), .val (.int (1 : Int32)), .val (.int (1 : Int32)), .val (.int (0 : Int32)), .val (.ref b33), .val (.ref b41), .val (.ref b46), .unset] [(.int (0 : Int32)), (.ref b33), (.ref b46)])) rfl rfl (hb hby at_310) _ ?_
    exact kt
  obtain ⟨cq60, kq60, q60a, q60b, q60c⟩ := isOf hZ rfl o56_0
  obtain ⟨_, _, ⟨T60, L60, k60, n60⟩, -, X60, ⟨Lc60, hQ60, l60, y60, z60⟩, st60⟩ := X56.virtualBack hx (y := (⟨"dev/chainlatch/bucket/Order", "append", "(I)V"⟩ : MethodName)) (z := (⟨"dev/chainlatch/bucket/Order", "append", "(I)V"⟩ : MethodName)) hown (mvT hZ (hw _ (List.mem_of_getElem? (i := 20) rfl))) (mvT hZ (hw _ (List.mem_of_getElem? (i := 21) rfl))) (notFace_of_selects (args := #[]) (mvT hZ (hw _ (List.mem_of_getElem? (i := 23) rfl)))) (mvT hZ (hw _ (List.mem_of_getElem? (i := 23) rfl))) (mvT hZ (hw _ (List.mem_of_getElem? (i := 22) rfl))) (by decide) (backOf (W := 0) (rmA1 l Z a0 hw [] b46 s0 B48 A48 n (-1 : Int32) (-1 : Int32) (own_up (own_up (fun _ => 0) s0 ((-1 : Int32) + (1 : Int32))) s0 (0 : Int32)) (own_up (own_up (fun _ => 0) s0 (0 : Int32)) s0 (0 : Int32)) T56.heap n0 Z57 o56_0 o56_1 o56_2 o56_3 o56_4 o56_5 o56_6 g_b46 g_B48 g_A48 ne_b46_B48 ne_b46_A48 ne_B48_A48 hs00 hs01 rfl) hZ (hw _ (List.mem_of_getElem? (i := 24) rfl)) (hw _ (List.mem_of_getElem? (i := 5) rfl)) (by decide) (by decide)) q60a q60c (g := (mkF m 311 #[.val (.int p0), .val (.int p1), .val (.int p2), .val (.int p3), .val (.int p4), .val (.int p5), .val (.int n), .val (.int s0), .val (.int d1), .val (.int tt), .val (.int d2), .val (.int s1), .val (.int s2), .val (.int (1 : Int32)), .val (.int (1 : Int32)), .val (.int (0 : Int32)), .val (.ref b33), .val (.ref b41), .val (.ref b46), .unset] [(.int s0), (.ref b46)])) rfl (by rw [hml]; rfl) (Steps.refl _) (argsL := [(.int s0)]) (rest := []) (lenOf pd__28I_29V rfl) rfl (by show 2 * 0 + _ ≤ _; exact Nat.le_of_eq rfl) (hb hby at_311) (fun _ _ => ⟨rfl, rfl, (by decide : 5 + 0 ≤ _), (by decide : 30 + 0 ≤ _)⟩)
  dsimp only [Pt.U, Pt.locs, Pt.cells, Pt.slots] at X60 l60 y60 z60 st60 hQ60
  obtain ⟨rfl, N60q, K60, o60_0, o60_1, o60_2, o60_3, o60_4, o60_5, o60_6⟩ := hQ60
  have Z61 : n0 ≤ T60.heap.size := Nat.le_trans Z57 K60.1
  have Z61h : h0.size ≤ T60.heap.size := Nat.le_trans Z57h K60.1
  obtain ⟨lc60, X60, N60⟩ := own_pack X60 l60 y60 z60 N56 N60q (C := 5) (S' := 30) rfl rfl
  refine own_thr (a := T60.setTop (mkF m 314 #[.val (.int p0), .val (.int p1), .val (.int p2), .val (.int p3), .val (.int p4), .val (.int p5), .val (.int n), .val (.int s0), .val (.int d1), .val (.int tt), .val (.int d2), .val (.int s1), .val (.int s2), .val (.int (1 : Int32)), .val (.int (1 : Int32)), .val (.int (0 : Int32)), .val (.ref b33), .val (.ref b41), .val (.ref b46), .unset] [])) (fun t kt => st60.trans kt) ?_
  refine own_thr (a := T60.setTop (mkF m 316 #[.val (.int p0), .val (.int p1), .val (.int p2), .val (.int p3), .val (.int p4), .val (.int p5), .val (.int n), .val (.int s0), .val (.int d1), .val (.int tt), .val (.int d2), .val (.int s1), .val (.int s2), .val (.int (1 : Int32)), .val (.int (1 : Int32)), .val (.int (0 : Int32)), .val (.ref b33), .val (.ref b41), .val (.ref b46), .unset] [(.ref b46)])) (fun t kt => ?_) ?_
  · show Steps p.tables e below (T60.setTop (mkF m 314 #[.val (.int p0), .val (.int p1), .val (.int p2), .val (.int p3), .val (.int p4), .val (.int p5), .val (.int n), .val (.int s0), .val (.int d1), .val (.int tt), .val (.int d2), .val (.int s1), .val (.int s2), .val (.int (1 : Int32)), .val (.int (1 : Int32)), .val (.int (0 : Int32)), .val (.ref b33), .val (.ref b41), .val (.ref b46), .unset] [])) _
    refine XS.aload X60.here hx rfl (hb hby at_314) rfl rfl ?_
    exact kt
  obtain ⟨cq62, kq62, q62a, q62b, q62c⟩ := isOf hZ rfl o60_0
  obtain ⟨_, _, ⟨T62, L62, k62, n62⟩, -, X62, ⟨Lc62, hQ62, l62, y62, z62⟩, st62⟩ := X60.virtualBack hx (y := (⟨"dev/chainlatch/bucket/Order", "first", "()I"⟩ : MethodName)) (z := (⟨"dev/chainlatch/bucket/Order", "first", "()I"⟩ : MethodName)) hown (mvT hZ (hw _ (List.mem_of_getElem? (i := 34) rfl))) (mvT hZ (hw _ (List.mem_of_getElem? (i := 35) rfl))) (notFace_of_selects (args := #[]) (mvT hZ (hw _ (List.mem_of_getElem? (i := 37) rfl)))) (mvT hZ (hw _ (List.mem_of_getElem? (i := 37) rfl))) (mvT hZ (hw _ (List.mem_of_getElem? (i := 36) rfl))) (by decide) (backOf (W := 0) (rmF l Z a0 hw [] b46 s0 T60.heap n0 Z61 o60_1) hZ (hw _ (List.mem_of_getElem? (i := 38) rfl)) (hw _ (List.mem_of_getElem? (i := 5) rfl)) (by decide) (by decide)) q62a q62c (g := (mkF m 316 #[.val (.int p0), .val (.int p1), .val (.int p2), .val (.int p3), .val (.int p4), .val (.int p5), .val (.int n), .val (.int s0), .val (.int d1), .val (.int tt), .val (.int d2), .val (.int s1), .val (.int s2), .val (.int (1 : Int32)), .val (.int (1 : Int32)), .val (.int (0 : Int32)), .val (.ref b33), .val (.ref b41), .val (.ref b46), .unset] [(.ref b46)])) rfl (by rw [hml]; rfl) (Steps.refl _) (argsL := []) (rest := []) (lenOf pd__28_29I rfl) rfl (by show 2 * 0 + _ ≤ _; exact Nat.le_of_eq rfl) (hb hby at_316) (fun _ _ => ⟨rfl, rfl, (by decide : 5 + 0 ≤ _), (by decide : 30 + 0 ≤ _)⟩)
  dsimp only [Pt.U, Pt.locs, Pt.cells, Pt.slots] at X62 l62 y62 z62 st62 hQ62
  obtain ⟨rfl, N62q, e62⟩ := hQ62
  obtain ⟨lc62, X62, N62⟩ := own_pack X62 l62 y62 z62 N60 N62q (C := 5) (S' := 30) rfl rfl
  refine own_thr (a := T62.setTop (mkF m 319 #[.val (.int p0), .val (.int p1), .val (.int p2), .val (.int p3), .val (.int p4), .val (.int p5), .val (.int n), .val (.int s0), .val (.int d1), .val (.int tt), .val (.int d2), .val (.int s1), .val (.int s2), .val (.int (1 : Int32)), .val (.int (1 : Int32)), .val (.int (0 : Int32)), .val (.ref b33), .val (.ref b41), .val (.ref b46), .unset] [(.int s0)])) (fun t kt => st62.trans kt) ?_
  refine own_thr (a := T62.setTop (mkF m 322 #[.val (.int p0), .val (.int p1), .val (.int p2), .val (.int p3), .val (.int p4), .val (.int p5), .val (.int n), .val (.int s0), .val (.int d1), .val (.int tt), .val (.int d2), .val (.int s1), .val (.int s2), .val (.int (1 : Int32)), .val (.int (1 : Int32)), .val (.int (0 : Int32)), .val (.ref b33), .val (.ref b41), .val (.ref b46), .unset] [(.int (0 : Int32)), (.ref b41), (.int s0)])) (fun t kt => ?_) ?_
  · show Steps p.tables e below (T62.setTop (mkF m 319 #[.val (.int p0), .val (.int p1), .val (.int p2), .val (.int p3), .val (.int p4), .val (.int p5), .val (.int n), .val (.int s0), .val (.int d1), .val (.int tt), .val (.int d2), .val (.int s1), .val (.int s2), .val (.int (1 : Int32)), .val (.int (1 : Int32)), .val (.int (0 : Int32)), .val (.ref b33), .val (.ref b41), .val (.ref b46), .unset] [(.int s0)])) _
    refine XS.aload X62.here hx rfl (hb hby at_319) rfl rfl ?_
    refine XS.iconst X62.here hx rfl (hb hby at_321) ?_
    exact kt
  have c64 := (((((V44.ext E46).keep K48 (ninS ne_b41_b46 nin0)).keep K52 (ninS ne_b41_b46 (ninS ne_b41_B48 (ninS ne_b41_A48 nin0)))).keep K56 (ninS ne_b41_b46 (ninS ne_b41_B48 (ninS ne_b41_A48 nin0)))).keep K60 (ninS ne_b41_b46 (ninS ne_b41_B48 (ninS ne_b41_A48 nin0))))
  obtain ⟨cl63, Ar63, -, S63, M63, H63, -⟩ := id c64
  have hin63 : ¬ ((0 : Int32) < 0 ∨ cl63.slots.size ≤ ((0 : Int32)).toNatClampNeg) := inb_of S63 ⟨by decide, by decide⟩
  have hat63 : cl63.slots[((0 : Int32)).toNatClampNeg]? = some (.int s0) := Has.at H63 hin63 rfl
  refine own_thr (a := T62.setTop (mkF m 343 #[.val (.int p0), .val (.int p1), .val (.int p2), .val (.int p3), .val (.int p4), .val (.int p5), .val (.int n), .val (.int s0), .val (.int d1), .val (.int tt), .val (.int d2), .val (.int s1), .val (.int s2), .val (.int (1 : Int32)), .val (.int (1 : Int32)), .val (.int (0 : Int32)), .val (.ref b33), .val (.ref b41), .val (.ref b46), .val (.int (1 : Int32))] [(.int (0 : Int32)), (.ref b41), (.ref b46)])) (fun t kt => ?_) ?_
  · show Steps p.tables e below (T62.setTop (mkF m 322 #[.val (.int p0), .val (.int p1), .val (.int p2), .val (.int p3), .val (.int p4), .val (.int p5), .val (.int n), .val (.int s0), .val (.int d1), .val (.int tt), .val (.int d2), .val (.int s1), .val (.int s2), .val (.int (1 : Int32)), .val (.int (1 : Int32)), .val (.int (0 : Int32)), .val (.ref b33), .val (.ref b41), .val (.ref b46), .unset] [(.int (0 : Int32)), (.ref b41), (.int s0)])) _
    refine X62.iaload hx (j := (0 : Int32)) (v := (.int s0)) (by rw [e62]; exact Ar63.1) (State.isArrayOf_alike hZ.alike Ar63.2.1) Ar63.2.2 hin63 hat63 (g := (mkF m 322 #[.val (.int p0), .val (.int p1), .val (.int p2), .val (.int p3), .val (.int p4), .val (.int p5), .val (.int n), .val (.int s0), .val (.int d1), .val (.int tt), .val (.int d2), .val (.int s1), .val (.int s2), .val (.int (1 : Int32)), .val (.int (1 : Int32)), .val (.int (0 : Int32)), .val (.ref b33), .val (.ref b41), .val (.ref b46), .unset] [(.int (0 : Int32)), (.ref b41), (.int s0)])) rfl rfl (hb hby at_322) _ ?_
    refine XS.icmpNo X62.here hx rfl (hb hby at_323) rfl (teq (by simp [own_up, own_as, n01, n10, n02, n20, n12, n21])).2 ?_
    refine XS.iconst X62.here hx rfl (hb hby at_326) ?_
    refine XS.goto X62.here hx rfl (pc0 := 327) (pc' := 331) rfl (hb hby at_327) (by decide) (by decide) ?_
    refine XS.istore X62.here hx rfl (hb hby at_331) rfl (l' := #[.val (.int p0), .val (.int p1), .val (.int p2), .val (.int p3), .val (.int p4), .val (.int p5), .val (.int n), .val (.int s0), .val (.int d1), .val (.int tt), .val (.int d2), .val (.int s1), .val (.int s2), .val (.int (1 : Int32)), .val (.int (1 : Int32)), .val (.int (0 : Int32)), .val (.ref b33), .val (.ref b41), .val (.ref b46), .val (.int (1 : Int32))]) rfl ?_
    refine XS.iload X62.here hx rfl (hb hby at_333) rfl ?_
    refine XS.ifNo X62.here hx rfl (hb hby at_335) rfl ((if0 _ _).trans (feq (by decide)).1) ?_
    refine XS.aload X62.here hx rfl (hb hby at_338) rfl rfl ?_
    refine XS.aload X62.here hx rfl (hb hby at_340) rfl rfl ?_
    refine XS.iconst X62.here hx rfl (hb hby at_342) ?_
    exact kt
  obtain ⟨cl65, Ar65, -, S65, M65, H65, -⟩ := id c64
  have hin65 : ¬ ((0 : Int32) < 0 ∨ cl65.slots.size ≤ ((0 : Int32)).toNatClampNeg) := inb_of S65 ⟨by decide, by decide⟩
  have hat65 : cl65.slots[((0 : Int32)).toNatClampNeg]? = some (.int s0) := Has.at H65 hin65 rfl
  refine own_thr (a := T62.setTop (mkF m 344 #[.val (.int p0), .val (.int p1), .val (.int p2), .val (.int p3), .val (.int p4), .val (.int p5), .val (.int n), .val (.int s0), .val (.int d1), .val (.int tt), .val (.int d2), .val (.int s1), .val (.int s2), .val (.int (1 : Int32)), .val (.int (1 : Int32)), .val (.int (0 : Int32)), .val (.ref b33), .val (.ref b41), .val (.ref b46), .val (.int (1 : Int32))] [(.int s0), (.ref b46)])) (fun t kt => ?_) ?_
  · show Steps p.tables e below (T62.setTop (mkF m 343 #[.val (.int p0), .val (.int p1), .val (.int p2), .val (.int p3), .val (.int p4), .val (.int p5), .val (.int n), .val (.int s0), .val (.int d1), .val (.int tt), .val (.int d2), .val (.int s1), .val (.int s2), .val (.int (1 : Int32)), .val (.int (1 : Int32)), .val (.int (0 : Int32)), .val (.ref b33), .val (.ref b41), .val (.ref b46), .val (.int (1 : Int32))] [(.int (0 : Int32)), (.ref b41), (.ref b46)])) _
    refine X62.iaload hx (j := (0 : Int32)) (v := (.int s0)) (by rw [e62]; exact Ar65.1) (State.isArrayOf_alike hZ.alike Ar65.2.1) Ar65.2.2 hin65 hat65 (g := (mkF m 343 #[.val (.int p0), .val (.int p1), .val (.int p2), .val (.int p3), .val (.int p4), .val (.int p5), .val (.int n), .val (.int s0), .val (.int d1), .val (.int tt), .val (.int d2), .val (.int s1), .val (.int s2), .val (.int (1 : Int32)), .val (.int (1 : Int32)), .val (.int (0 : Int32)), .val (.ref b33), .val (.ref b41), .val (.ref b46), .val (.int (1 : Int32))] [(.int (0 : Int32)), (.ref b41), (.ref b46)])) rfl rfl (hb hby at_343) _ ?_
    exact kt
  obtain ⟨cq66, kq66, q66a, q66b, q66c⟩ := isOf hZ e62 o60_0
  obtain ⟨_, _, ⟨T66, L66, k66, n66⟩, -, X66, ⟨Lc66, hQ66, l66, y66, z66⟩, st66⟩ := X62.virtualBack hx (y := (⟨"dev/chainlatch/bucket/Order", "after", "(I)I"⟩ : MethodName)) (z := (⟨"dev/chainlatch/bucket/Order", "after", "(I)I"⟩ : MethodName)) hown (mvT hZ (hw _ (List.mem_of_getElem? (i := 39) rfl))) (mvT hZ (hw _ (List.mem_of_getElem? (i := 40) rfl))) (notFace_of_selects (args := #[]) (mvT hZ (hw _ (List.mem_of_getElem? (i := 42) rfl)))) (mvT hZ (hw _ (List.mem_of_getElem? (i := 42) rfl))) (mvT hZ (hw _ (List.mem_of_getElem? (i := 41) rfl))) (by decide) (backOf (W := 0) (rmN l Z a0 hw [] b46 s0 A48 n (own_up (own_up (own_up (fun _ => 0) s0 (0 : Int32)) s0 (0 : Int32)) s0 (0 : Int32)) T60.heap n0 Z61 o60_4 o60_6 hs00 hs01) hZ (hw _ (List.mem_of_getElem? (i := 43) rfl)) (hw _ (List.mem_of_getElem? (i := 5) rfl)) (by decide) (by decide)) q66a q66c (g := (mkF m 344 #[.val (.int p0), .val (.int p1), .val (.int p2), .val (.int p3), .val (.int p4), .val (.int p5), .val (.int n), .val (.int s0), .val (.int d1), .val (.int tt), .val (.int d2), .val (.int s1), .val (.int s2), .val (.int (1 : Int32)), .val (.int (1 : Int32)), .val (.int (0 : Int32)), .val (.ref b33), .val (.ref b41), .val (.ref b46), .val (.int (1 : Int32))] [(.int s0), (.ref b46)])) rfl (by rw [hml]; rfl) (Steps.refl _) (argsL := [(.int s0)]) (rest := []) (lenOf pd__28I_29I rfl) rfl (by show 2 * 0 + _ ≤ _; exact Nat.le_of_eq rfl) (hb hby at_344) (fun _ _ => ⟨rfl, e62, (by decide : 5 + 0 ≤ _), (by decide : 30 + 0 ≤ _)⟩)
  dsimp only [Pt.U, Pt.locs, Pt.cells, Pt.slots] at X66 l66 y66 z66 st66 hQ66
  obtain ⟨rfl, N66q, e66⟩ := hQ66
  obtain ⟨lc66, X66, N66⟩ := own_pack X66 l66 y66 z66 N62 N66q (C := 5) (S' := 30) rfl rfl
  refine own_thr (a := T66.setTop (mkF m 347 #[.val (.int p0), .val (.int p1), .val (.int p2), .val (.int p3), .val (.int p4), .val (.int p5), .val (.int n), .val (.int s0), .val (.int d1), .val (.int tt), .val (.int d2), .val (.int s1), .val (.int s2), .val (.int (1 : Int32)), .val (.int (1 : Int32)), .val (.int (0 : Int32)), .val (.ref b33), .val (.ref b41), .val (.ref b46), .val (.int (1 : Int32))] [(.int (((own_up (own_up (own_up (fun _ => 0) s0 (0 : Int32)) s0 (0 : Int32)) s0 (0 : Int32)) s0) - (1 : Int32)))])) (fun t kt => st66.trans kt) ?_
  refine own_thr (a := T66.setTop (mkF m 448 #[.val (.int p0), .val (.int p1), .val (.int p2), .val (.int p3), .val (.int p4), .val (.int p5), .val (.int n), .val (.int s0), .val (.int d1), .val (.int tt), .val (.int d2), .val (.int s1), .val (.int s2), .val (.int (1 : Int32)), .val (.int (1 : Int32)), .val (.int (0 : Int32)), .val (.ref b33), .val (.ref b41), .val (.ref b46), .val (.int (1 : Int32))] [(.int (1 : Int32))])) (fun t kt => ?_) ?_
  · show Steps p.tables e below (T66.setTop (mkF m 347 #[.val (.int p0), .val (.int p1), .val (.int p2), .val (.int p3), .val (.int p4), .val (.int p5), .val (.int n), .val (.int s0), .val (.int d1), .val (.int tt), .val (.int d2), .val (.int s1), .val (.int s2), .val (.int (1 : Int32)), .val (.int (1 : Int32)), .val (.int (0 : Int32)), .val (.ref b33), .val (.ref b41), .val (.ref b46), .val (.int (1 : Int32))] [(.int (((own_up (own_up (own_up (fun _ => 0) s0 (0 : Int32)) s0 (0 : Int32)) s0 (0 : Int32)) s0) - (1 : Int32)))])) _
    refine XS.iload X66.here hx rfl (hb hby at_347) rfl ?_
    refine XS.iconst X66.here hx rfl (hb hby at_349) ?_
    refine XS.icmpYes X66.here hx rfl (pc0 := 350) (pc' := 360) rfl (hb hby at_350) rfl (flt (by decide)).2.2.2 (by decide) (by decide) ?_
    refine XS.iconst X66.here hx rfl (hb hby at_360) ?_
    refine XS.icmpNo X66.here hx rfl (hb hby at_361) rfl (teq (by simp [own_up, own_as, n01, n10, n02, n20, n12, n21])).2 ?_
    refine XS.iconst X66.here hx rfl (hb hby at_364) ?_
    refine XS.goto X66.here hx rfl (pc0 := 365) (pc' := 369) rfl (hb hby at_365) (by decide) (by decide) ?_
    refine XS.istore X66.here hx rfl (hb hby at_369) rfl (l' := #[.val (.int p0), .val (.int p1), .val (.int p2), .val (.int p3), .val (.int p4), .val (.int p5), .val (.int n), .val (.int s0), .val (.int d1), .val (.int tt), .val (.int d2), .val (.int s1), .val (.int s2), .val (.int (1 : Int32)), .val (.int (1 : Int32)), .val (.int (0 : Int32)), .val (.ref b33), .val (.ref b41), .val (.ref b46), .val (.int (1 : Int32))]) rfl ?_
    refine XS.iload X66.here hx rfl (hb hby at_371) rfl ?_
    refine XS.iconst X66.here hx rfl (hb hby at_373) ?_
    refine XS.icmpYes X66.here hx rfl (pc0 := 374) (pc' := 415) rfl (hb hby at_374) rfl (flt (by decide)).2.2.2 (by decide) (by decide) ?_
    refine XS.iload X66.here hx rfl (hb hby at_415) rfl ?_
    refine XS.iconst X66.here hx rfl (hb hby at_417) ?_
    refine XS.icmpYes X66.here hx rfl (pc0 := 418) (pc' := 446) rfl (hb hby at_418) rfl (flt (by decide)).2.2.2 (by decide) (by decide) ?_
    refine XS.iload X66.here hx rfl (hb hby at_446) rfl ?_
    exact kt
  exact own_end X66 hlk (v := some (.int (1 : Int32))) (fun h => by rw [hret] at h; cases h) (fun fs hr => retN X66 hx (t := .boolean) hret (by simp) (hb hby at_448) hr) ⟨rfl, N66⟩ (by decide : 5 ≤ _) (by decide : 30 ≤ _)
set_option maxRecDepth 65536 in
set_option maxHeartbeats 40000000 in
theorem tl20 {p : Program} {l : Launch} {e : Env} {s : State} {m : MethodId} {below : List Frame} {meth : Method} {c : Code} {Z : State} {a0 : Array Value} (p0 : Int32) (p1 : Int32) (p2 : Int32) (p3 : Int32) (p4 : Int32) (p5 : Int32) {h0 : Heap} {n0 : Nat} (Z0 : n0 ≤ h0.size) (hw : ∀ d ∈ tables_1, d.before a0 Z = true) (hx : p.tables.exec = Jvm.exec) (hZ : Z.Warmed39 s.vm) (hby : c.code = code) (hml : c.maxLocals = 20) (hown : s.vm.findClass "dev/chainlatch/bucket/OrderAppendPinLaw" = some m.cls) (hlk : meth.locks = false) (hret : meth.sig.returnType = ret)
    {T0 : State} {lc0 : List Loc} (X0 : Stand p l e room_1 s m #[(.int p0), (.int p1), (.int p2), (.int p3), (.int p4), (.int p5)] below meth c T0 lc0 0 0) (N0 : Fr n0 lc0) (e0 : T0.heap = h0) (n s0 d1 tt d2 s1 s2 r : Int32) (hH : own_H n s0 s1 s2) : own_G p.tables e below s (Q0 Z p0 p1 p2 p3 p4 p5 h0 n0) room_1.cells room_1.slots (T0.setTop (mkF m 116 #[.val (.int p0), .val (.int p1), .val (.int p2), .val (.int p3), .val (.int p4), .val (.int p5), .val (.int n), .val (.int s0), .val (.int d1), .val (.int tt), .val (.int d2), .val (.int s1), .val (.int s2), .val (.int (2 : Int32)), .val (.int (0 : Int32)), .val (.int r), .unset, .unset, .unset, .unset] [])) := by
  obtain ⟨⟨hn0, hn1⟩, ⟨hs00, hs01⟩, ⟨hs10, hs11⟩, ⟨hs20, hs21⟩, n01, n02, n12⟩ := hH
  have n10 : ¬ s1 = s0 := fun q => n01 q.symm
  have n20 : ¬ s2 = s0 := fun q => n02 q.symm
  have n21 : ¬ s2 = s1 := fun q => n12 q.symm
  refine own_thr (a := T0.setTop (mkF m 117 #[.val (.int p0), .val (.int p1), .val (.int p2), .val (.int p3), .val (.int p4), .val (.int p5), .val (.int n), .val (.int s0), .val (.int d1), .val (.int tt), .val (.int d2), .val (.int s1), .val (.int s2), .val (.int (2 : Int32)), .val (.int (0 : Int32)), .val (.int r), .unset, .unset, .unset, .unset] [(.int (3 : Int32))])) (fun t kt => ?_) ?_
  · show Steps p.tables e below (T0.setTop (mkF m 116 #[.val (.int p0), .val (.int p1), .val (.int p2), .val (.int p3), .val (.int p4), .val (.int p5), .val (.int n), .val (.int s0), .val (.int d1), .val (.int tt), .val (.int d2), .val (.int s1), .val (.int s2), .val (.int (2 : Int32)), .val (.int (0 : Int32)), .val (.int r), .unset, .unset, .unset, .unset] [])) _
    refine XS.iconst X0.here hx rfl (hb hby at_116) ?_
    exact kt
  obtain ⟨T67, h67, k67, X67, e67, E67, A67, st67⟩ := newP X0 hx hZ (hw _ (List.mem_of_getElem? (i := 2) rfl)) e0 (g := (mkF m 117 #[.val (.int p0), .val (.int p1), .val (.int p2), .val (.int p3), .val (.int p4), .val (.int p5), .val (.int n), .val (.int s0), .val (.int d1), .val (.int tt), .val (.int d2), .val (.int s1), .val (.int s2), .val (.int (2 : Int32)), .val (.int (0 : Int32)), .val (.int r), .unset, .unset, .unset, .unset] [(.int (3 : Int32))])) rfl (hb hby at_117) rfl (by decide) (cap := 3) (by decide) (by decide) (by decide : 0 + 1 ≤ _) (by decide : 0 + 3 ≤ _)
  obtain ⟨b67, g67⟩ : ∃ z, z = h0.size := ⟨_, rfl⟩
  rw [← g67] at A67 st67
  have g_b67 : n0 ≤ b67 := Nat.le_trans Z0 (Nat.le_of_eq g67.symm)
  have sz_b67 : h0.size ≤ b67 := Nat.le_trans (Nat.le_refl h0.size) (Nat.le_of_eq g67.symm)
  have V_b67 : Arv Z h67 b67 k67 .int (3 : Int32) [(.int (0 : Int32)), (.int (0 : Int32)), (.int (0 : Int32))] (.int (0 : Int32)) := (Arv.new A67 (by decide)).pad (pad_rep [] (.int (0 : Int32)) 3)
  have Z68 : n0 ≤ h67.size := Nat.le_trans Z0 E67.1
  have Z68h : h0.size ≤ h67.size := Nat.le_trans (Nat.le_refl h0.size) E67.1
  refine own_thr (a := T67.setTop (mkF m 119 #[.val (.int p0), .val (.int p1), .val (.int p2), .val (.int p3), .val (.int p4), .val (.int p5), .val (.int n), .val (.int s0), .val (.int d1), .val (.int tt), .val (.int d2), .val (.int s1), .val (.int s2), .val (.int (2 : Int32)), .val (.int (0 : Int32)), .val (.int r), .unset, .unset, .unset, .unset] [(.ref b67)])) (fun t kt => st67 t kt) ?_
  refine own_thr (a := T67.setTop (mkF m 123 #[.val (.int p0), .val (.int p1), .val (.int p2), .val (.int p3), .val (.int p4), .val (.int p5), .val (.int n), .val (.int s0), .val (.int d1), .val (.int tt), .val (.int d2), .val (.int s1), .val (.int s2), .val (.int (2 : Int32)), .val (.int (0 : Int32)), .val (.int r), .unset, .unset, .unset, .unset] [(.int s0), (.int (0 : Int32)), (.ref b67), (.ref b67)])) (fun t kt => ?_) ?_
  · show Steps p.tables e below (T67.setTop (mkF m 119 #[.val (.int p0), .val (.int p1), .val (.int p2), .val (.int p3), .val (.int p4), .val (.int p5), .val (.int n), .val (.int s0), .val (.int d1), .val (.int tt), .val (.int d2), .val (.int s1), .val (.int s2), .val (.int (2 : Int32)), .val (.int (0 : Int32)), .val (.int r), .unset, .unset, .unset, .unset] [(.ref b67)])) _
    refine XS.dup X67.here hx rfl (hb hby at_119) rfl rfl ?_
    refine XS.iconst X67.here hx rfl (hb hby at_120) ?_
    refine XS.iload X67.here hx rfl (hb hby at_121) rfl ?_
    exact kt
  obtain ⟨cl69, Ar69, q69, S69, M69, H69, G69⟩ := id V_b67
  have hin69 : ¬ ((0 : Int32) < 0 ∨ cl69.slots.size ≤ ((0 : Int32)).toNatClampNeg) := inb_of S69 ⟨by decide, by decide⟩
  obtain ⟨T69, h69, X69, e69, W69, st69⟩ := stI X67 hx hZ e67 Ar69 (j := (0 : Int32)) hin69 (g := (mkF m 123 #[.val (.int p0), .val (.int p1), .val (.int p2), .val (.int p3), .val (.int p4), .val (.int p5), .val (.int n), .val (.int s0), .val (.int d1), .val (.int tt), .val (.int d2), .val (.int s1), .val (.int s2), .val (.int (2 : Int32)), .val (.int (0 : Int32)), .val (.int r), .unset, .unset, .unset, .unset] [(.int s0), (.int (0 : Int32)), (.ref b67), (.ref b67)])) rfl rfl (hb hby at_123)
  have Z70 : n0 ≤ h69.size := Nat.le_trans Z68 (Nat.le_of_eq W69.size.symm)
  have Z70h : h0.size ≤ h69.size := Nat.le_trans Z68h (Nat.le_of_eq W69.size.symm)
  have V69 : Arv Z h69 b67 k67 .int (3 : Int32) [(.int s0), (.int (0 : Int32)), (.int (0 : Int32))] (.int (0 : Int32)) := Arv.set Ar69 q69 S69 M69 H69 G69 rfl W69 0 rfl (Nat.le_of_ble_eq_true rfl)
  obtain ⟨lc69, X69, N69⟩ := own_pack1 X69 N0 g_b67
  refine own_thr (a := T69.setTop (mkF m 124 #[.val (.int p0), .val (.int p1), .val (.int p2), .val (.int p3), .val (.int p4), .val (.int p5), .val (.int n), .val (.int s0), .val (.int d1), .val (.int tt), .val (.int d2), .val (.int s1), .val (.int s2), .val (.int (2 : Int32)), .val (.int (0 : Int32)), .val (.int r), .unset, .unset, .unset, .unset] [(.ref b67)])) (fun t kt => st69 t kt) ?_
  refine own_thr (a := T69.setTop (mkF m 128 #[.val (.int p0), .val (.int p1), .val (.int p2), .val (.int p3), .val (.int p4), .val (.int p5), .val (.int n), .val (.int s0), .val (.int d1), .val (.int tt), .val (.int d2), .val (.int s1), .val (.int s2), .val (.int (2 : Int32)), .val (.int (0 : Int32)), .val (.int r), .unset, .unset, .unset, .unset] [(.int s1), (.int (1 : Int32)), (.ref b67), (.ref b67)])) (fun t kt => ?_) ?_
  · show Steps p.tables e below (T69.setTop (mkF m 124 #[.val (.int p0), .val (.int p1), .val (.int p2), .val (.int p3), .val (.int p4), .val (.int p5), .val (.int n), .val (.int s0), .val (.int d1), .val (.int tt), .val (.int d2), .val (.int s1), .val (.int s2), .val (.int (2 : Int32)), .val (.int (0 : Int32)), .val (.int r), .unset, .unset, .unset, .unset] [(.ref b67)])) _
    refine XS.dup X69.here hx rfl (hb hby at_124) rfl rfl ?_
    refine XS.iconst X69.here hx rfl (hb hby at_125) ?_
    refine XS.iload X69.here hx rfl (hb hby at_126) rfl ?_
    exact kt
  obtain ⟨cl71, Ar71, q71, S71, M71, H71, G71⟩ := id V69
  have hin71 : ¬ ((1 : Int32) < 0 ∨ cl71.slots.size ≤ ((1 : Int32)).toNatClampNeg) := inb_of S71 ⟨by decide, by decide⟩
  obtain ⟨T71, h71, X71, e71, W71, st71⟩ := stI X69 hx hZ e69 Ar71 (j := (1 : Int32)) hin71 (g := (mkF m 128 #[.val (.int p0), .val (.int p1), .val (.int p2), .val (.int p3), .val (.int p4), .val (.int p5), .val (.int n), .val (.int s0), .val (.int d1), .val (.int tt), .val (.int d2), .val (.int s1), .val (.int s2), .val (.int (2 : Int32)), .val (.int (0 : Int32)), .val (.int r), .unset, .unset, .unset, .unset] [(.int s1), (.int (1 : Int32)), (.ref b67), (.ref b67)])) rfl rfl (hb hby at_128)
  have Z72 : n0 ≤ h71.size := Nat.le_trans Z70 (Nat.le_of_eq W71.size.symm)
  have Z72h : h0.size ≤ h71.size := Nat.le_trans Z70h (Nat.le_of_eq W71.size.symm)
  have V71 : Arv Z h71 b67 k67 .int (3 : Int32) [(.int s0), (.int s1), (.int (0 : Int32))] (.int (0 : Int32)) := Arv.set Ar71 q71 S71 M71 H71 G71 rfl W71 1 rfl (Nat.le_of_ble_eq_true rfl)
  obtain ⟨lc71, X71, N71⟩ := own_pack1 X71 N69 g_b67
  refine own_thr (a := T71.setTop (mkF m 129 #[.val (.int p0), .val (.int p1), .val (.int p2), .val (.int p3), .val (.int p4), .val (.int p5), .val (.int n), .val (.int s0), .val (.int d1), .val (.int tt), .val (.int d2), .val (.int s1), .val (.int s2), .val (.int (2 : Int32)), .val (.int (0 : Int32)), .val (.int r), .unset, .unset, .unset, .unset] [(.ref b67)])) (fun t kt => st71 t kt) ?_
  refine own_thr (a := T71.setTop (mkF m 133 #[.val (.int p0), .val (.int p1), .val (.int p2), .val (.int p3), .val (.int p4), .val (.int p5), .val (.int n), .val (.int s0), .val (.int d1), .val (.int tt), .val (.int d2), .val (.int s1), .val (.int s2), .val (.int (2 : Int32)), .val (.int (0 : Int32)), .val (.int r), .unset, .unset, .unset, .unset] [(.int s2), (.int (2 : Int32)), (.ref b67), (.ref b67)])) (fun t kt => ?_) ?_
  · show Steps p.tables e below (T71.setTop (mkF m 129 #[.val (.int p0), .val (.int p1), .val (.int p2), .val (.int p3), .val (.int p4), .val (.int p5), .val (.int n), .val (.int s0), .val (.int d1), .val (.int tt), .val (.int d2), .val (.int s1), .val (.int s2), .val (.int (2 : Int32)), .val (.int (0 : Int32)), .val (.int r), .unset, .unset, .unset, .unset] [(.ref b67)])) _
    refine XS.dup X71.here hx rfl (hb hby at_129) rfl rfl ?_
    refine XS.iconst X71.here hx rfl (hb hby at_130) ?_
    refine XS.iload X71.here hx rfl (hb hby at_131) rfl ?_
    exact kt
  obtain ⟨cl73, Ar73, q73, S73, M73, H73, G73⟩ := id V71
  have hin73 : ¬ ((2 : Int32) < 0 ∨ cl73.slots.size ≤ ((2 : Int32)).toNatClampNeg) := inb_of S73 ⟨by decide, by decide⟩
  obtain ⟨T73, h73, X73, e73, W73, st73⟩ := stI X71 hx hZ e71 Ar73 (j := (2 : Int32)) hin73 (g := (mkF m 133 #[.val (.int p0), .val (.int p1), .val (.int p2), .val (.int p3), .val (.int p4), .val (.int p5), .val (.int n), .val (.int s0), .val (.int d1), .val (.int tt), .val (.int d2), .val (.int s1), .val (.int s2), .val (.int (2 : Int32)), .val (.int (0 : Int32)), .val (.int r), .unset, .unset, .unset, .unset] [(.int s2), (.int (2 : Int32)), (.ref b67), (.ref b67)])) rfl rfl (hb hby at_133)
  have Z74 : n0 ≤ h73.size := Nat.le_trans Z72 (Nat.le_of_eq W73.size.symm)
  have Z74h : h0.size ≤ h73.size := Nat.le_trans Z72h (Nat.le_of_eq W73.size.symm)
  have V73 : Arv Z h73 b67 k67 .int (3 : Int32) [(.int s0), (.int s1), (.int s2)] (.int (0 : Int32)) := Arv.set Ar73 q73 S73 M73 H73 G73 rfl W73 2 rfl (Nat.le_of_ble_eq_true rfl)
  obtain ⟨lc73, X73, N73⟩ := own_pack1 X73 N71 g_b67
  refine own_thr (a := T73.setTop (mkF m 134 #[.val (.int p0), .val (.int p1), .val (.int p2), .val (.int p3), .val (.int p4), .val (.int p5), .val (.int n), .val (.int s0), .val (.int d1), .val (.int tt), .val (.int d2), .val (.int s1), .val (.int s2), .val (.int (2 : Int32)), .val (.int (0 : Int32)), .val (.int r), .unset, .unset, .unset, .unset] [(.ref b67)])) (fun t kt => st73 t kt) ?_
  refine own_thr (a := T73.setTop (mkF m 137 #[.val (.int p0), .val (.int p1), .val (.int p2), .val (.int p3), .val (.int p4), .val (.int p5), .val (.int n), .val (.int s0), .val (.int d1), .val (.int tt), .val (.int d2), .val (.int s1), .val (.int s2), .val (.int (2 : Int32)), .val (.int (0 : Int32)), .val (.int r), .val (.ref b67), .unset, .unset, .unset] [(.int (3 : Int32))])) (fun t kt => ?_) ?_
  · show Steps p.tables e below (T73.setTop (mkF m 134 #[.val (.int p0), .val (.int p1), .val (.int p2), .val (.int p3), .val (.int p4), .val (.int p5), .val (.int n), .val (.int s0), .val (.int d1), .val (.int tt), .val (.int d2), .val (.int s1), .val (.int s2), .val (.int (2 : Int32)), .val (.int (0 : Int32)), .val (.int r), .unset, .unset, .unset, .unset] [(.ref b67)])) _
    refine XS.astore X73.here hx rfl (hb hby at_134) rfl rfl (l' := #[.val (.int p0), .val (.int p1), .val (.int p2), .val (.int p3), .val (.int p4), .val (.int p5), .val (.int n), .val (.int s0), .val (.int d1), .val (.int tt), .val (.int d2), .val (.int s1), .val (.int s2), .val (.int (2 : Int32)), .val (.int (0 : Int32)), .val (.int r), .val (.ref b67), .unset, .unset, .unset]) rfl ?_
    refine XS.iconst X73.here hx rfl (hb hby at_136) ?_
    exact kt
  obtain ⟨T75, h75, k75, X75, e75, E75, A75, st75⟩ := newP X73 hx hZ (hw _ (List.mem_of_getElem? (i := 2) rfl)) e73 (g := (mkF m 137 #[.val (.int p0), .val (.int p1), .val (.int p2), .val (.int p3), .val (.int p4), .val (.int p5), .val (.int n), .val (.int s0), .val (.int d1), .val (.int tt), .val (.int d2), .val (.int s1), .val (.int s2), .val (.int (2 : Int32)), .val (.int (0 : Int32)), .val (.int r), .val (.ref b67), .unset, .unset, .unset] [(.int (3 : Int32))])) rfl (hb hby at_137) rfl (by decide) (cap := 3) (by decide) (by decide) (by decide : 1 + 1 ≤ _) (by decide : 3 + 3 ≤ _)
  obtain ⟨b75, g75⟩ : ∃ z, z = h73.size := ⟨_, rfl⟩
  rw [← g75] at A75 st75
  have g_b75 : n0 ≤ b75 := Nat.le_trans Z74 (Nat.le_of_eq g75.symm)
  have sz_b75 : h0.size ≤ b75 := Nat.le_trans Z74h (Nat.le_of_eq g75.symm)
  have lt_b67_b75 : b67 < b75 := Nat.lt_of_lt_of_le V73.lt (Nat.le_of_eq g75.symm)
  have ne_b67_b75 : b67 ≠ b75 := Nat.ne_of_lt lt_b67_b75
  have V_b75 : Arv Z h75 b75 k75 .int (3 : Int32) [(.int (0 : Int32)), (.int (0 : Int32)), (.int (0 : Int32))] (.int (0 : Int32)) := (Arv.new A75 (by decide)).pad (pad_rep [] (.int (0 : Int32)) 3)
  have Z76 : n0 ≤ h75.size := Nat.le_trans Z74 E75.1
  have Z76h : h0.size ≤ h75.size := Nat.le_trans Z74h E75.1
  refine own_thr (a := T75.setTop (mkF m 139 #[.val (.int p0), .val (.int p1), .val (.int p2), .val (.int p3), .val (.int p4), .val (.int p5), .val (.int n), .val (.int s0), .val (.int d1), .val (.int tt), .val (.int d2), .val (.int s1), .val (.int s2), .val (.int (2 : Int32)), .val (.int (0 : Int32)), .val (.int r), .val (.ref b67), .unset, .unset, .unset] [(.ref b75)])) (fun t kt => st75 t kt) ?_
  refine own_thr (a := T75.setTop (mkF m 221 #[.val (.int p0), .val (.int p1), .val (.int p2), .val (.int p3), .val (.int p4), .val (.int p5), .val (.int n), .val (.int s0), .val (.int d1), .val (.int tt), .val (.int d2), .val (.int s1), .val (.int s2), .val (.int (2 : Int32)), .val (.int (0 : Int32)), .val (.int r), .val (.ref b67), .val (.ref b75), .unset, .unset] [(.int (0 : Int32)), (.ref b67), (.int (0 : Int32)), (.ref b75)])) (fun t kt => ?_) ?_
  · show Steps p.tables e below (T75.setTop (mkF m 139 #[.val (.int p0), .val (.int p1), .val (.int p2), .val (.int p3), .val (.int p4), .val (.int p5), .val (.int n), .val (.int s0), .val (.int d1), .val (.int tt), .val (.int d2), .val (.int s1), .val (.int s2), .val (.int (2 : Int32)), .val (.int (0 : Int32)), .val (.int r), .val (.ref b67), .unset, .unset, .unset] [(.ref b75)])) _
    refine XS.astore X75.here hx rfl (hb hby at_139) rfl rfl (l' := #[.val (.int p0), .val (.int p1), .val (.int p2), .val (.int p3), .val (.int p4), .val (.int p5), .val (.int n), .val (.int s0), .val (.int d1), .val (.int tt), .val (.int d2), .val (.int s1), .val (.int s2), .val (.int (2 : Int32)), .val (.int (0 : Int32)), .val (.int r), .val (.ref b67), .val (.ref b75), .unset, .unset]) rfl ?_
    refine XS.iload X75.here hx rfl (hb hby at_141) rfl ?_
    refine XS.ifYes X75.here hx rfl (pc0 := 143) (pc' := 215) rfl (hb hby at_143) rfl ((if0 _ _).trans (teq rfl).1) (by decide) (by decide) ?_
    refine XS.aload X75.here hx rfl (hb hby at_215) rfl rfl ?_
    refine XS.iconst X75.here hx rfl (hb hby at_217) ?_
    refine XS.aload X75.here hx rfl (hb hby at_218) rfl rfl ?_
    refine XS.iconst X75.here hx rfl (hb hby at_220) ?_
    exact kt
  obtain ⟨cl77, Ar77, -, S77, M77, H77, -⟩ := id (V73.ext E75)
  have hin77 : ¬ ((0 : Int32) < 0 ∨ cl77.slots.size ≤ ((0 : Int32)).toNatClampNeg) := inb_of S77 ⟨by decide, by decide⟩
  have hat77 : cl77.slots[((0 : Int32)).toNatClampNeg]? = some (.int s0) := Has.at H77 hin77 rfl
  refine own_thr (a := T75.setTop (mkF m 222 #[.val (.int p0), .val (.int p1), .val (.int p2), .val (.int p3), .val (.int p4), .val (.int p5), .val (.int n), .val (.int s0), .val (.int d1), .val (.int tt), .val (.int d2), .val (.int s1), .val (.int s2), .val (.int (2 : Int32)), .val (.int (0 : Int32)), .val (.int r), .val (.ref b67), .val (.ref b75), .unset, .unset] [(.int s0), (.int (0 : Int32)), (.ref b75)])) (fun t kt => ?_) ?_
  · show Steps p.tables e below (T75.setTop (mkF m 221 #[.val (.int p0), .val (.int p1), .val (.int p2), .val (.int p3), .val (.int p4), .val (.int p5), .val (.int n), .val (.int s0), .val (.int d1), .val (.int tt), .val (.int d2), .val (.int s1), .val (.int s2), .val (.int (2 : Int32)), .val (.int (0 : Int32)), .val (.int r), .val (.ref b67), .val (.ref b75), .unset, .unset] [(.int (0 : Int32)), (.ref b67), (.int (0 : Int32)), (.ref b75)])) _
    refine X75.iaload hx (j := (0 : Int32)) (v := (.int s0)) (by rw [e75]; exact Ar77.1) (State.isArrayOf_alike hZ.alike Ar77.2.1) Ar77.2.2 hin77 hat77 (g := (mkF m 221 #[.val (.int p0), .val (.int p1), .val (.int p2), .val (.int p3), .val (.int p4), .val (.int p5), .val (.int n), .val (.int s0), .val (.int d1), .val (.int tt), .val (.int d2), .val (.int s1), .val (.int s2), .val (.int (2 : Int32)), .val (.int (0 : Int32)), .val (.int r), .val (.ref b67), .val (.ref b75), .unset, .unset] [(.int (0 : Int32)), (.ref b67), (.int (0 : Int32)), (.ref b75)])) rfl rfl (hb hby at_221) _ ?_
    exact kt
  obtain ⟨cl78, Ar78, q78, S78, M78, H78, G78⟩ := id V_b75
  have hin78 : ¬ ((0 : Int32) < 0 ∨ cl78.slots.size ≤ ((0 : Int32)).toNatClampNeg) := inb_of S78 ⟨by decide, by decide⟩
  obtain ⟨T78, h78, X78, e78, W78, st78⟩ := stI X75 hx hZ e75 Ar78 (j := (0 : Int32)) hin78 (g := (mkF m 222 #[.val (.int p0), .val (.int p1), .val (.int p2), .val (.int p3), .val (.int p4), .val (.int p5), .val (.int n), .val (.int s0), .val (.int d1), .val (.int tt), .val (.int d2), .val (.int s1), .val (.int s2), .val (.int (2 : Int32)), .val (.int (0 : Int32)), .val (.int r), .val (.ref b67), .val (.ref b75), .unset, .unset] [(.int s0), (.int (0 : Int32)), (.ref b75)])) rfl rfl (hb hby at_222)
  have Z79 : n0 ≤ h78.size := Nat.le_trans Z76 (Nat.le_of_eq W78.size.symm)
  have Z79h : h0.size ≤ h78.size := Nat.le_trans Z76h (Nat.le_of_eq W78.size.symm)
  have V78 : Arv Z h78 b75 k75 .int (3 : Int32) [(.int s0), (.int (0 : Int32)), (.int (0 : Int32))] (.int (0 : Int32)) := Arv.set Ar78 q78 S78 M78 H78 G78 rfl W78 0 rfl (Nat.le_of_ble_eq_true rfl)
  obtain ⟨lc78, X78, N78⟩ := own_pack1 X78 N73 g_b75
  refine own_thr (a := T78.setTop (mkF m 223 #[.val (.int p0), .val (.int p1), .val (.int p2), .val (.int p3), .val (.int p4), .val (.int p5), .val (.int n), .val (.int s0), .val (.int d1), .val (.int tt), .val (.int d2), .val (.int s1), .val (.int s2), .val (.int (2 : Int32)), .val (.int (0 : Int32)), .val (.int r), .val (.ref b67), .val (.ref b75), .unset, .unset] [])) (fun t kt => st78 t kt) ?_
  refine own_thr (a := T78.setTop (mkF m 229 #[.val (.int p0), .val (.int p1), .val (.int p2), .val (.int p3), .val (.int p4), .val (.int p5), .val (.int n), .val (.int s0), .val (.int d1), .val (.int tt), .val (.int d2), .val (.int s1), .val (.int s2), .val (.int (2 : Int32)), .val (.int (0 : Int32)), .val (.int r), .val (.ref b67), .val (.ref b75), .unset, .unset] [(.int (1 : Int32)), (.ref b67), (.int (1 : Int32)), (.ref b75)])) (fun t kt => ?_) ?_
  · show Steps p.tables e below (T78.setTop (mkF m 223 #[.val (.int p0), .val (.int p1), .val (.int p2), .val (.int p3), .val (.int p4), .val (.int p5), .val (.int n), .val (.int s0), .val (.int d1), .val (.int tt), .val (.int d2), .val (.int s1), .val (.int s2), .val (.int (2 : Int32)), .val (.int (0 : Int32)), .val (.int r), .val (.ref b67), .val (.ref b75), .unset, .unset] [])) _
    refine XS.aload X78.here hx rfl (hb hby at_223) rfl rfl ?_
    refine XS.iconst X78.here hx rfl (hb hby at_225) ?_
    refine XS.aload X78.here hx rfl (hb hby at_226) rfl rfl ?_
    refine XS.iconst X78.here hx rfl (hb hby at_228) ?_
    exact kt
  obtain ⟨cl80, Ar80, -, S80, M80, H80, -⟩ := id ((V73.ext E75).other W78 ne_b67_b75)
  have hin80 : ¬ ((1 : Int32) < 0 ∨ cl80.slots.size ≤ ((1 : Int32)).toNatClampNeg) := inb_of S80 ⟨by decide, by decide⟩
  have hat80 : cl80.slots[((1 : Int32)).toNatClampNeg]? = some (.int s1) := Has.at H80 hin80 rfl
  refine own_thr (a := T78.setTop (mkF m 230 #[.val (.int p0), .val (.int p1), .val (.int p2), .val (.int p3), .val (.int p4), .val (.int p5), .val (.int n), .val (.int s0), .val (.int d1), .val (.int tt), .val (.int d2), .val (.int s1), .val (.int s2), .val (.int (2 : Int32)), .val (.int (0 : Int32)), .val (.int r), .val (.ref b67), .val (.ref b75), .unset, .unset] [(.int s1), (.int (1 : Int32)), (.ref b75)])) (fun t kt => ?_) ?_
  · show Steps p.tables e below (T78.setTop (mkF m 229 #[.val (.int p0), .val (.int p1), .val (.int p2), .val (.int p3), .val (.int p4), .val (.int p5), .val (.int n), .val (.int s0), .val (.int d1), .val (.int tt), .val (.int d2), .val (.int s1), .val (.int s2), .val (.int (2 : Int32)), .val (.int (0 : Int32)), .val (.int r), .val (.ref b67), .val (.ref b75), .unset, .unset] [(.int (1 : Int32)), (.ref b67), (.int (1 : Int32)), (.ref b75)])) _
    refine X78.iaload hx (j := (1 : Int32)) (v := (.int s1)) (by rw [e78]; exact Ar80.1) (State.isArrayOf_alike hZ.alike Ar80.2.1) Ar80.2.2 hin80 hat80 (g := (mkF m 229 #[.val (.int p0), .val (.int p1), .val (.int p2), .val (.int p3), .val (.int p4), .val (.int p5), .val (.int n), .val (.int s0), .val (.int d1), .val (.int tt), .val (.int d2), .val (.int s1), .val (.int s2), .val (.int (2 : Int32)), .val (.int (0 : Int32)), .val (.int r), .val (.ref b67), .val (.ref b75), .unset, .unset] [(.int (1 : Int32)), (.ref b67), (.int (1 : Int32)), (.ref b75)])) rfl rfl (hb hby at_229) _ ?_
    exact kt
  obtain ⟨cl81, Ar81, q81, S81, M81, H81, G81⟩ := id V78
  have hin81 : ¬ ((1 : Int32) < 0 ∨ cl81.slots.size ≤ ((1 : Int32)).toNatClampNeg) := inb_of S81 ⟨by decide, by decide⟩
  obtain ⟨T81, h81, X81, e81, W81, st81⟩ := stI X78 hx hZ e78 Ar81 (j := (1 : Int32)) hin81 (g := (mkF m 230 #[.val (.int p0), .val (.int p1), .val (.int p2), .val (.int p3), .val (.int p4), .val (.int p5), .val (.int n), .val (.int s0), .val (.int d1), .val (.int tt), .val (.int d2), .val (.int s1), .val (.int s2), .val (.int (2 : Int32)), .val (.int (0 : Int32)), .val (.int r), .val (.ref b67), .val (.ref b75), .unset, .unset] [(.int s1), (.int (1 : Int32)), (.ref b75)])) rfl rfl (hb hby at_230)
  have Z82 : n0 ≤ h81.size := Nat.le_trans Z79 (Nat.le_of_eq W81.size.symm)
  have Z82h : h0.size ≤ h81.size := Nat.le_trans Z79h (Nat.le_of_eq W81.size.symm)
  have V81 : Arv Z h81 b75 k75 .int (3 : Int32) [(.int s0), (.int s1), (.int (0 : Int32))] (.int (0 : Int32)) := Arv.set Ar81 q81 S81 M81 H81 G81 rfl W81 1 rfl (Nat.le_of_ble_eq_true rfl)
  obtain ⟨lc81, X81, N81⟩ := own_pack1 X81 N78 g_b75
  refine own_thr (a := T81.setTop (mkF m 231 #[.val (.int p0), .val (.int p1), .val (.int p2), .val (.int p3), .val (.int p4), .val (.int p5), .val (.int n), .val (.int s0), .val (.int d1), .val (.int tt), .val (.int d2), .val (.int s1), .val (.int s2), .val (.int (2 : Int32)), .val (.int (0 : Int32)), .val (.int r), .val (.ref b67), .val (.ref b75), .unset, .unset] [])) (fun t kt => st81 t kt) ?_
  refine own_thr (a := T81.setTop (mkF m 237 #[.val (.int p0), .val (.int p1), .val (.int p2), .val (.int p3), .val (.int p4), .val (.int p5), .val (.int n), .val (.int s0), .val (.int d1), .val (.int tt), .val (.int d2), .val (.int s1), .val (.int s2), .val (.int (2 : Int32)), .val (.int (0 : Int32)), .val (.int r), .val (.ref b67), .val (.ref b75), .unset, .unset] [(.int (2 : Int32)), (.ref b67), (.int (2 : Int32)), (.ref b75)])) (fun t kt => ?_) ?_
  · show Steps p.tables e below (T81.setTop (mkF m 231 #[.val (.int p0), .val (.int p1), .val (.int p2), .val (.int p3), .val (.int p4), .val (.int p5), .val (.int n), .val (.int s0), .val (.int d1), .val (.int tt), .val (.int d2), .val (.int s1), .val (.int s2), .val (.int (2 : Int32)), .val (.int (0 : Int32)), .val (.int r), .val (.ref b67), .val (.ref b75), .unset, .unset] [])) _
    refine XS.aload X81.here hx rfl (hb hby at_231) rfl rfl ?_
    refine XS.iconst X81.here hx rfl (hb hby at_233) ?_
    refine XS.aload X81.here hx rfl (hb hby at_234) rfl rfl ?_
    refine XS.iconst X81.here hx rfl (hb hby at_236) ?_
    exact kt
  obtain ⟨cl83, Ar83, -, S83, M83, H83, -⟩ := id (((V73.ext E75).other W78 ne_b67_b75).other W81 ne_b67_b75)
  have hin83 : ¬ ((2 : Int32) < 0 ∨ cl83.slots.size ≤ ((2 : Int32)).toNatClampNeg) := inb_of S83 ⟨by decide, by decide⟩
  have hat83 : cl83.slots[((2 : Int32)).toNatClampNeg]? = some (.int s2) := Has.at H83 hin83 rfl
  refine own_thr (a := T81.setTop (mkF m 238 #[.val (.int p0), .val (.int p1), .val (.int p2), .val (.int p3), .val (.int p4), .val (.int p5), .val (.int n), .val (.int s0), .val (.int d1), .val (.int tt), .val (.int d2), .val (.int s1), .val (.int s2), .val (.int (2 : Int32)), .val (.int (0 : Int32)), .val (.int r), .val (.ref b67), .val (.ref b75), .unset, .unset] [(.int s2), (.int (2 : Int32)), (.ref b75)])) (fun t kt => ?_) ?_
  · show Steps p.tables e below (T81.setTop (mkF m 237 #[.val (.int p0), .val (.int p1), .val (.int p2), .val (.int p3), .val (.int p4), .val (.int p5), .val (.int n), .val (.int s0), .val (.int d1), .val (.int tt), .val (.int d2), .val (.int s1), .val (.int s2), .val (.int (2 : Int32)), .val (.int (0 : Int32)), .val (.int r), .val (.ref b67), .val (.ref b75), .unset, .unset] [(.int (2 : Int32)), (.ref b67), (.int (2 : Int32)), (.ref b75)])) _
    refine X81.iaload hx (j := (2 : Int32)) (v := (.int s2)) (by rw [e81]; exact Ar83.1) (State.isArrayOf_alike hZ.alike Ar83.2.1) Ar83.2.2 hin83 hat83 (g := (mkF m 237 #[.val (.int p0), .val (.int p1), .val (.int p2), .val (.int p3), .val (.int p4), .val (.int p5), .val (.int n), .val (.int s0), .val (.int d1), .val (.int tt), .val (.int d2), .val (.int s1), .val (.int s2), .val (.int (2 : Int32)), .val (.int (0 : Int32)), .val (.int r), .val (.ref b67), .val (.ref b75), .unset, .unset] [(.int (2 : Int32)), (.ref b67), (.int (2 : Int32)), (.ref b75)])) rfl rfl (hb hby at_237) _ ?_
    exact kt
  obtain ⟨cl84, Ar84, q84, S84, M84, H84, G84⟩ := id V81
  have hin84 : ¬ ((2 : Int32) < 0 ∨ cl84.slots.size ≤ ((2 : Int32)).toNatClampNeg) := inb_of S84 ⟨by decide, by decide⟩
  obtain ⟨T84, h84, X84, e84, W84, st84⟩ := stI X81 hx hZ e81 Ar84 (j := (2 : Int32)) hin84 (g := (mkF m 238 #[.val (.int p0), .val (.int p1), .val (.int p2), .val (.int p3), .val (.int p4), .val (.int p5), .val (.int n), .val (.int s0), .val (.int d1), .val (.int tt), .val (.int d2), .val (.int s1), .val (.int s2), .val (.int (2 : Int32)), .val (.int (0 : Int32)), .val (.int r), .val (.ref b67), .val (.ref b75), .unset, .unset] [(.int s2), (.int (2 : Int32)), (.ref b75)])) rfl rfl (hb hby at_238)
  have Z85 : n0 ≤ h84.size := Nat.le_trans Z82 (Nat.le_of_eq W84.size.symm)
  have Z85h : h0.size ≤ h84.size := Nat.le_trans Z82h (Nat.le_of_eq W84.size.symm)
  have V84 : Arv Z h84 b75 k75 .int (3 : Int32) [(.int s0), (.int s1), (.int s2)] (.int (0 : Int32)) := Arv.set Ar84 q84 S84 M84 H84 G84 rfl W84 2 rfl (Nat.le_of_ble_eq_true rfl)
  obtain ⟨lc84, X84, N84⟩ := own_pack1 X84 N81 g_b75
  refine own_thr (a := T84.setTop (mkF m 239 #[.val (.int p0), .val (.int p1), .val (.int p2), .val (.int p3), .val (.int p4), .val (.int p5), .val (.int n), .val (.int s0), .val (.int d1), .val (.int tt), .val (.int d2), .val (.int s1), .val (.int s2), .val (.int (2 : Int32)), .val (.int (0 : Int32)), .val (.int r), .val (.ref b67), .val (.ref b75), .unset, .unset] [])) (fun t kt => st84 t kt) ?_
  have c87 := ((((V73.ext E75).other W78 ne_b67_b75).other W81 ne_b67_b75).other W84 ne_b67_b75)
  obtain ⟨T86, h86, X86, e86, E86, A86, D86, U86, st86⟩ := newO X84 hx hZ hown (hw _ (List.mem_of_getElem? (i := 3) rfl)) (hw _ (List.mem_of_getElem? (i := 4) rfl)) (hw _ (List.mem_of_getElem? (i := 5) rfl)) e84 (g := (mkF m 239 #[.val (.int p0), .val (.int p1), .val (.int p2), .val (.int p3), .val (.int p4), .val (.int p5), .val (.int n), .val (.int s0), .val (.int d1), .val (.int tt), .val (.int d2), .val (.int s1), .val (.int s2), .val (.int (2 : Int32)), .val (.int (0 : Int32)), .val (.int r), .val (.ref b67), .val (.ref b75), .unset, .unset] [])) rfl (hb hby at_239) (by decide : 2 + 1 ≤ _) (by decide : 6 + 4 ≤ _)
  obtain ⟨b86, g86⟩ : ∃ z, z = h84.size := ⟨_, rfl⟩
  rw [← g86] at A86 D86 st86 U86
  have g_b86 : n0 ≤ b86 := Nat.le_trans Z85 (Nat.le_of_eq g86.symm)
  have sz_b86 : h0.size ≤ b86 := Nat.le_trans Z85h (Nat.le_of_eq g86.symm)
  have lt_b67_b86 : b67 < b86 := Nat.lt_of_lt_of_le c87.lt (Nat.le_of_eq g86.symm)
  have ne_b67_b86 : b67 ≠ b86 := Nat.ne_of_lt lt_b67_b86
  have lt_b75_b86 : b75 < b86 := Nat.lt_of_lt_of_le V84.lt (Nat.le_of_eq g86.symm)
  have ne_b75_b86 : b75 ≠ b86 := Nat.ne_of_lt lt_b75_b86
  have Z88 : n0 ≤ h86.size := Nat.le_trans Z85 E86.1
  have Z88h : h0.size ≤ h86.size := Nat.le_trans Z85h E86.1
  have F_first_b86 : Fld Z h86 b86 "dev/chainlatch/bucket/Order" "first" "I" (.int (0 : Int32)) := D86 (Or.inl (hw _ (List.mem_of_getElem? (i := 13) rfl))) (ty := .int) (by decide)
  have F_last_b86 : Fld Z h86 b86 "dev/chainlatch/bucket/Order" "last" "I" (.int (0 : Int32)) := D86 (Or.inl (hw _ (List.mem_of_getElem? (i := 15) rfl))) (ty := .int) (by decide)
  have F_before_b86 : Fld Z h86 b86 "dev/chainlatch/bucket/Order" "before" "[I" .null := D86 (Or.inl (hw _ (List.mem_of_getElem? (i := 17) rfl))) (ty := (.array .int)) (by decide)
  have F_after_b86 : Fld Z h86 b86 "dev/chainlatch/bucket/Order" "after" "[I" .null := D86 (Or.inl (hw _ (List.mem_of_getElem? (i := 19) rfl))) (ty := (.array .int)) (by decide)
  refine own_thr (a := T86.setTop (mkF m 242 #[.val (.int p0), .val (.int p1), .val (.int p2), .val (.int p3), .val (.int p4), .val (.int p5), .val (.int n), .val (.int s0), .val (.int d1), .val (.int tt), .val (.int d2), .val (.int s1), .val (.int s2), .val (.int (2 : Int32)), .val (.int (0 : Int32)), .val (.int r), .val (.ref b67), .val (.ref b75), .unset, .unset] [(.ref b86)])) (fun t kt => st86 t kt) ?_
  refine own_thr (a := T86.setTop (mkF m 245 #[.val (.int p0), .val (.int p1), .val (.int p2), .val (.int p3), .val (.int p4), .val (.int p5), .val (.int n), .val (.int s0), .val (.int d1), .val (.int tt), .val (.int d2), .val (.int s1), .val (.int s2), .val (.int (2 : Int32)), .val (.int (0 : Int32)), .val (.int r), .val (.ref b67), .val (.ref b75), .unset, .unset] [(.int n), (.ref b86), (.ref b86)])) (fun t kt => ?_) ?_
  · show Steps p.tables e below (T86.setTop (mkF m 242 #[.val (.int p0), .val (.int p1), .val (.int p2), .val (.int p3), .val (.int p4), .val (.int p5), .val (.int n), .val (.int s0), .val (.int d1), .val (.int tt), .val (.int d2), .val (.int s1), .val (.int s2), .val (.int (2 : Int32)), .val (.int (0 : Int32)), .val (.int r), .val (.ref b67), .val (.ref b75), .unset, .unset] [(.ref b86)])) _
    refine XS.dup X86.here hx rfl (hb hby at_242) rfl rfl ?_
    refine XS.iload X86.here hx rfl (hb hby at_243) rfl ?_
    exact kt
  obtain ⟨_, _, ⟨T89, L89, k89, n89⟩, -, X89, ⟨Lc89, hQ89, l89, y89, z89⟩, st89⟩ := X86.specialBack hx (y := (⟨"dev/chainlatch/bucket/Order", "<init>", "(I)V"⟩ : MethodName)) rfl hown (mvT hZ (hw _ (List.mem_of_getElem? (i := 6) rfl))) (mvT hZ (hw _ (List.mem_of_getElem? (i := 7) rfl))) (mvT hZ (hw _ (List.mem_of_getElem? (i := 8) rfl))) (by decide) (backOf (W := 1) (rmI l Z a0 hw [] b86 n h86 n0 Z88 A86 F_first_b86 F_last_b86 F_before_b86 F_after_b86 g_b86 hn0 hn1) hZ (hw _ (List.mem_of_getElem? (i := 8) rfl)) (hw _ (List.mem_of_getElem? (i := 5) rfl)) (by decide) (by decide)) (g := (mkF m 245 #[.val (.int p0), .val (.int p1), .val (.int p2), .val (.int p3), .val (.int p4), .val (.int p5), .val (.int n), .val (.int s0), .val (.int d1), .val (.int tt), .val (.int d2), .val (.int s1), .val (.int s2), .val (.int (2 : Int32)), .val (.int (0 : Int32)), .val (.int r), .val (.ref b67), .val (.ref b75), .unset, .unset] [(.int n), (.ref b86), (.ref b86)])) rfl (by rw [hml]; rfl) (Steps.refl _) (a := b86) (argsL := [(.int n)]) (rest := [(.ref b86)]) (lenOf pd__28I_29V rfl) rfl (by show 2 * 0 + _ ≤ _; exact Nat.le_of_eq rfl) (hb hby at_245) (fun _ _ => ⟨rfl, e86, (by decide : 3 + 2 ≤ _), (by decide : 10 + 20 ≤ _)⟩)
  dsimp only [Pt.U, Pt.locs, Pt.cells, Pt.slots] at X89 l89 y89 z89 st89 hQ89
  obtain ⟨B89, A89, rfl, N89q, K89, o89_e, o89_f, o89_l, o89_b, o89_a, o89_B, o89_A, hB89, hBA89⟩ := hQ89
  have ne_b67_B89 : b67 ≠ B89 := Nat.ne_of_lt (Nat.lt_of_lt_of_le (c87.ext E86).lt hB89)
  have ne_b67_A89 : b67 ≠ A89 := Nat.ne_of_lt (Nat.lt_trans (Nat.lt_of_lt_of_le (c87.ext E86).lt hB89) hBA89)
  have ne_b75_B89 : b75 ≠ B89 := Nat.ne_of_lt (Nat.lt_of_lt_of_le (V84.ext E86).lt hB89)
  have ne_b75_A89 : b75 ≠ A89 := Nat.ne_of_lt (Nat.lt_trans (Nat.lt_of_lt_of_le (V84.ext E86).lt hB89) hBA89)
  have ne_b86_B89 : b86 ≠ B89 := Nat.ne_of_lt (Nat.lt_of_lt_of_le A86.lt hB89)
  have ne_b86_A89 : b86 ≠ A89 := Nat.ne_of_lt (Nat.lt_trans (Nat.lt_of_lt_of_le A86.lt hB89) hBA89)
  have ne_B89_A89 : B89 ≠ A89 := Nat.ne_of_lt hBA89
  have g_B89 : n0 ≤ B89 := Nat.le_trans Z88 hB89
  have g_A89 : n0 ≤ A89 := Nat.le_trans g_B89 (Nat.le_of_lt hBA89)
  have Z90 : n0 ≤ T89.heap.size := Nat.le_trans Z88 K89.1
  have Z90h : h0.size ≤ T89.heap.size := Nat.le_trans Z88h K89.1
  obtain ⟨lc89, X89, N89⟩ := own_pack X89 l89 y89 z89 N84 N89q (C := 5) (S' := 30) rfl rfl
  refine own_thr (a := T89.setTop (mkF m 248 #[.val (.int p0), .val (.int p1), .val (.int p2), .val (.int p3), .val (.int p4), .val (.int p5), .val (.int n), .val (.int s0), .val (.int d1), .val (.int tt), .val (.int d2), .val (.int s1), .val (.int s2), .val (.int (2 : Int32)), .val (.int (0 : Int32)), .val (.int r), .val (.ref b67), .val (.ref b75), .unset, .unset] [(.ref b86)])) (fun t kt => st89.trans kt) ?_
  refine own_thr (a := T89.setTop (mkF m 255 #[.val (.int p0), .val (.int p1), .val (.int p2), .val (.int p3), .val (.int p4), .val (.int p5), .val (.int n), .val (.int s0), .val (.int d1), .val (.int tt), .val (.int d2), .val (.int s1), .val (.int s2), .val (.int (2 : Int32)), .val (.int (0 : Int32)), .val (.int r), .val (.ref b67), .val (.ref b75), .val (.ref b86), .unset] [(.int (0 : Int32)), (.ref b67), (.ref b86)])) (fun t kt => ?_) ?_
  · show Steps p.tables e below (T89.setTop (mkF m 248 #[.val (.int p0), .val (.int p1), .val (.int p2), .val (.int p3), .val (.int p4), .val (.int p5), .val (.int n), .val (.int s0), .val (.int d1), .val (.int tt), .val (.int d2), .val (.int s1), .val (.int s2), .val (.int (2 : Int32)), .val (.int (0 : Int32)), .val (.int r), .val (.ref b67), .val (.ref b75), .unset, .unset] [(.ref b86)])) _
    refine XS.astore X89.here hx rfl (hb hby at_248) rfl rfl (l' := #[.val (.int p0), .val (.int p1), .val (.int p2), .val (.int p3), .val (.int p4), .val (.int p5), .val (.int n), .val (.int s0), .val (.int d1), .val (.int tt), .val (.int d2), .val (.int s1), .val (.int s2), .val (.int (2 : Int32)), .val (.int (0 : Int32)), .val (.int r), .val (.ref b67), .val (.ref b75), .val (.ref b86), .unset]) rfl ?_
    refine XS.aload X89.here hx rfl (hb hby at_250) rfl rfl ?_
    refine XS.aload X89.here hx rfl (hb hby at_252) rfl rfl ?_
    refine XS.iconst X89.here hx rfl (hb hby at_254) ?_
    exact kt
  obtain ⟨cl91, Ar91, -, S91, M91, H91, -⟩ := id ((c87.ext E86).keep K89 (ninS ne_b67_b86 nin0))
  have hin91 : ¬ ((0 : Int32) < 0 ∨ cl91.slots.size ≤ ((0 : Int32)).toNatClampNeg) := inb_of S91 ⟨by decide, by decide⟩
  have hat91 : cl91.slots[((0 : Int32)).toNatClampNeg]? = some (.int s0) := Has.at H91 hin91 rfl
  refine own_thr (a := T89.setTop (mkF m 256 #[.val (.int p0), .val (.int p1), .val (.int p2), .val (.int p3), .val (.int p4), .val (.int p5), .val (.int n), .val (.int s0), .val (.int d1), .val (.int tt), .val (.int d2), .val (.int s1), .val (.int s2), .val (.int (2 : Int32)), .val (.int (0 : Int32)), .val (.int r), .val (.ref b67), .val (.ref b75), .val (.ref b86), .unset] [(.int s0), (.ref b86)])) (fun t kt => ?_) ?_
  · show Steps p.tables e below (T89.setTop (mkF m 255 #[.val (.int p0), .val (.int p1), .val (.int p2), .val (.int p3), .val (.int p4), .val (.int p5), .val (.int n), .val (.int s0), .val (.int d1), .val (.int tt), .val (.int d2), .val (.int s1), .val (.int s2), .val (.int (2 : Int32)), .val (.int (0 : Int32)), .val (.int r), .val (.ref b67), .val (.ref b75), .val (.ref b86), .unset] [(.int (0 : Int32)), (.ref b67), (.ref b86)])) _
    refine X89.iaload hx (j := (0 : Int32)) (v := (.int s0)) Ar91.1 (State.isArrayOf_alike hZ.alike Ar91.2.1) Ar91.2.2 hin91 hat91 (g := (mkF m 255 #[.val (.int p0), .val (.int p1), .val (.int p2), .val (.int p3), .val (.int p4), .val (.int p5), .val (.int n), .val (.int s0), .val (.int d1), .val (.int tt), .val (.int d2), .val (.int s1), .val (.int s2), .val (.int (2 : Int32)), .val (.int (0 : Int32)), .val (.int r), .val (.ref b67), .val (.ref b75), .val (.ref b86), .unset] [(.int (0 : Int32)), (.ref b67), (.ref b86)])) rfl rfl (hb hby at_255) _ ?_
    exact kt
  obtain ⟨cq92, kq92, q92a, q92b, q92c⟩ := isOf hZ rfl o89_e
  obtain ⟨_, _, ⟨T92, L92, k92, n92⟩, -, X92, ⟨Lc92, hQ92, l92, y92, z92⟩, st92⟩ := X89.virtualBack hx (y := (⟨"dev/chainlatch/bucket/Order", "append", "(I)V"⟩ : MethodName)) (z := (⟨"dev/chainlatch/bucket/Order", "append", "(I)V"⟩ : MethodName)) hown (mvT hZ (hw _ (List.mem_of_getElem? (i := 20) rfl))) (mvT hZ (hw _ (List.mem_of_getElem? (i := 21) rfl))) (notFace_of_selects (args := #[]) (mvT hZ (hw _ (List.mem_of_getElem? (i := 23) rfl)))) (mvT hZ (hw _ (List.mem_of_getElem? (i := 23) rfl))) (mvT hZ (hw _ (List.mem_of_getElem? (i := 22) rfl))) (by decide) (backOf (W := 0) (rmA1 l Z a0 hw [] b86 s0 B89 A89 n (-1 : Int32) (-1 : Int32) (fun _ => 0) (fun _ => 0) T89.heap n0 Z90 o89_e o89_f o89_l o89_b o89_a o89_B o89_A g_b86 g_B89 g_A89 ne_b86_B89 ne_b86_A89 ne_B89_A89 hs00 hs01 rfl) hZ (hw _ (List.mem_of_getElem? (i := 24) rfl)) (hw _ (List.mem_of_getElem? (i := 5) rfl)) (by decide) (by decide)) q92a q92c (g := (mkF m 256 #[.val (.int p0), .val (.int p1), .val (.int p2), .val (.int p3), .val (.int p4), .val (.int p5), .val (.int n), .val (.int s0), .val (.int d1), .val (.int tt), .val (.int d2), .val (.int s1), .val (.int s2), .val (.int (2 : Int32)), .val (.int (0 : Int32)), .val (.int r), .val (.ref b67), .val (.ref b75), .val (.ref b86), .unset] [(.int s0), (.ref b86)])) rfl (by rw [hml]; rfl) (Steps.refl _) (argsL := [(.int s0)]) (rest := []) (lenOf pd__28I_29V rfl) rfl (by show 2 * 0 + _ ≤ _; exact Nat.le_of_eq rfl) (hb hby at_256) (fun _ _ => ⟨rfl, rfl, (by decide : 5 + 0 ≤ _), (by decide : 30 + 0 ≤ _)⟩)
  dsimp only [Pt.U, Pt.locs, Pt.cells, Pt.slots] at X92 l92 y92 z92 st92 hQ92
  obtain ⟨rfl, N92q, K92, o92_0, o92_1, o92_2, o92_3, o92_4, o92_5, o92_6⟩ := hQ92
  have Z93 : n0 ≤ T92.heap.size := Nat.le_trans Z90 K92.1
  have Z93h : h0.size ≤ T92.heap.size := Nat.le_trans Z90h K92.1
  obtain ⟨lc92, X92, N92⟩ := own_pack X92 l92 y92 z92 N89 N92q (C := 5) (S' := 30) rfl rfl
  refine own_thr (a := T92.setTop (mkF m 259 #[.val (.int p0), .val (.int p1), .val (.int p2), .val (.int p3), .val (.int p4), .val (.int p5), .val (.int n), .val (.int s0), .val (.int d1), .val (.int tt), .val (.int d2), .val (.int s1), .val (.int s2), .val (.int (2 : Int32)), .val (.int (0 : Int32)), .val (.int r), .val (.ref b67), .val (.ref b75), .val (.ref b86), .unset] [])) (fun t kt => st92.trans kt) ?_
  refine own_thr (a := T92.setTop (mkF m 270 #[.val (.int p0), .val (.int p1), .val (.int p2), .val (.int p3), .val (.int p4), .val (.int p5), .val (.int n), .val (.int s0), .val (.int d1), .val (.int tt), .val (.int d2), .val (.int s1), .val (.int s2), .val (.int (2 : Int32)), .val (.int (0 : Int32)), .val (.int r), .val (.ref b67), .val (.ref b75), .val (.ref b86), .unset] [(.int (1 : Int32)), (.ref b67), (.ref b86)])) (fun t kt => ?_) ?_
  · show Steps p.tables e below (T92.setTop (mkF m 259 #[.val (.int p0), .val (.int p1), .val (.int p2), .val (.int p3), .val (.int p4), .val (.int p5), .val (.int n), .val (.int s0), .val (.int d1), .val (.int tt), .val (.int d2), .val (.int s1), .val (.int s2), .val (.int (2 : Int32)), .val (.int (0 : Int32)), .val (.int r), .val (.ref b67), .val (.ref b75), .val (.ref b86), .unset] [])) _
    refine XS.iload X92.here hx rfl (hb hby at_259) rfl ?_
    refine XS.iconst X92.here hx rfl (hb hby at_261) ?_
    refine XS.icmpNo X92.here hx rfl (hb hby at_262) rfl (tlt (by decide)).2.2.2 ?_
    refine XS.aload X92.here hx rfl (hb hby at_265) rfl rfl ?_
    refine XS.aload X92.here hx rfl (hb hby at_267) rfl rfl ?_
    refine XS.iconst X92.here hx rfl (hb hby at_269) ?_
    exact kt
  have c95 := (((c87.ext E86).keep K89 (ninS ne_b67_b86 nin0)).keep K92 (ninS ne_b67_b86 (ninS ne_b67_B89 (ninS ne_b67_A89 nin0))))
  obtain ⟨cl94, Ar94, -, S94, M94, H94, -⟩ := id c95
  have hin94 : ¬ ((1 : Int32) < 0 ∨ cl94.slots.size ≤ ((1 : Int32)).toNatClampNeg) := inb_of S94 ⟨by decide, by decide⟩
  have hat94 : cl94.slots[((1 : Int32)).toNatClampNeg]? = some (.int s1) := Has.at H94 hin94 rfl
  refine own_thr (a := T92.setTop (mkF m 271 #[.val (.int p0), .val (.int p1), .val (.int p2), .val (.int p3), .val (.int p4), .val (.int p5), .val (.int n), .val (.int s0), .val (.int d1), .val (.int tt), .val (.int d2), .val (.int s1), .val (.int s2), .val (.int (2 : Int32)), .val (.int (0 : Int32)), .val (.int r), .val (.ref b67), .val (.ref b75), .val (.ref b86), .unset] [(.int s1), (.ref b86)])) (fun t kt => ?_) ?_
  · show Steps p.tables e below (T92.setTop (mkF m 270 #[.val (.int p0), .val (.int p1), .val (.int p2), .val (.int p3), .val (.int p4), .val (.int p5), .val (.int n), .val (.int s0), .val (.int d1), .val (.int tt), .val (.int d2), .val (.int s1), .val (.int s2), .val (.int (2 : Int32)), .val (.int (0 : Int32)), .val (.int r), .val (.ref b67), .val (.ref b75), .val (.ref b86), .unset] [(.int (1 : Int32)), (.ref b67), (.ref b86)])) _
    refine X92.iaload hx (j := (1 : Int32)) (v := (.int s1)) Ar94.1 (State.isArrayOf_alike hZ.alike Ar94.2.1) Ar94.2.2 hin94 hat94 (g := (mkF m 270 #[.val (.int p0), .val (.int p1), .val (.int p2), .val (.int p3), .val (.int p4), .val (.int p5), .val (.int n), .val (.int s0), .val (.int d1), .val (.int tt), .val (.int d2), .val (.int s1), .val (.int s2), .val (.int (2 : Int32)), .val (.int (0 : Int32)), .val (.int r), .val (.ref b67), .val (.ref b75), .val (.ref b86), .unset] [(.int (1 : Int32)), (.ref b67), (.ref b86)])) rfl rfl (hb hby at_270) _ ?_
    exact kt
  obtain ⟨cq96, kq96, q96a, q96b, q96c⟩ := isOf hZ rfl o92_0
  obtain ⟨_, _, ⟨T96, L96, k96, n96⟩, -, X96, ⟨Lc96, hQ96, l96, y96, z96⟩, st96⟩ := X92.virtualBack hx (y := (⟨"dev/chainlatch/bucket/Order", "append", "(I)V"⟩ : MethodName)) (z := (⟨"dev/chainlatch/bucket/Order", "append", "(I)V"⟩ : MethodName)) hown (mvT hZ (hw _ (List.mem_of_getElem? (i := 20) rfl))) (mvT hZ (hw _ (List.mem_of_getElem? (i := 21) rfl))) (notFace_of_selects (args := #[]) (mvT hZ (hw _ (List.mem_of_getElem? (i := 23) rfl)))) (mvT hZ (hw _ (List.mem_of_getElem? (i := 23) rfl))) (mvT hZ (hw _ (List.mem_of_getElem? (i := 22) rfl))) (by decide) (backOf (W := 0) (rmA2 l Z a0 hw [] b86 s1 B89 A89 n s0 s0 (own_up (fun _ => 0) s0 ((-1 : Int32) + (1 : Int32))) (own_up (fun _ => 0) s0 (0 : Int32)) T92.heap n0 Z93 o92_0 o92_1 o92_2 o92_3 o92_4 o92_5 o92_6 g_b86 g_B89 g_A89 ne_b86_B89 ne_b86_A89 ne_B89_A89 hs10 hs11 hs00 hs01) hZ (hw _ (List.mem_of_getElem? (i := 24) rfl)) (hw _ (List.mem_of_getElem? (i := 5) rfl)) (by decide) (by decide)) q96a q96c (g := (mkF m 271 #[.val (.int p0), .val (.int p1), .val (.int p2), .val (.int p3), .val (.int p4), .val (.int p5), .val (.int n), .val (.int s0), .val (.int d1), .val (.int tt), .val (.int d2), .val (.int s1), .val (.int s2), .val (.int (2 : Int32)), .val (.int (0 : Int32)), .val (.int r), .val (.ref b67), .val (.ref b75), .val (.ref b86), .unset] [(.int s1), (.ref b86)])) rfl (by rw [hml]; rfl) (Steps.refl _) (argsL := [(.int s1)]) (rest := []) (lenOf pd__28I_29V rfl) rfl (by show 2 * 0 + _ ≤ _; exact Nat.le_of_eq rfl) (hb hby at_271) (fun _ _ => ⟨rfl, rfl, (by decide : 5 + 0 ≤ _), (by decide : 30 + 0 ≤ _)⟩)
  dsimp only [Pt.U, Pt.locs, Pt.cells, Pt.slots] at X96 l96 y96 z96 st96 hQ96
  obtain ⟨rfl, N96q, K96, o96_0, o96_1, o96_2, o96_3, o96_4, o96_5, o96_6⟩ := hQ96
  have Z97 : n0 ≤ T96.heap.size := Nat.le_trans Z93 K96.1
  have Z97h : h0.size ≤ T96.heap.size := Nat.le_trans Z93h K96.1
  obtain ⟨lc96, X96, N96⟩ := own_pack X96 l96 y96 z96 N92 N96q (C := 5) (S' := 30) rfl rfl
  refine own_thr (a := T96.setTop (mkF m 274 #[.val (.int p0), .val (.int p1), .val (.int p2), .val (.int p3), .val (.int p4), .val (.int p5), .val (.int n), .val (.int s0), .val (.int d1), .val (.int tt), .val (.int d2), .val (.int s1), .val (.int s2), .val (.int (2 : Int32)), .val (.int (0 : Int32)), .val (.int r), .val (.ref b67), .val (.ref b75), .val (.ref b86), .unset] [])) (fun t kt => st96.trans kt) ?_
  refine own_thr (a := T96.setTop (mkF m 316 #[.val (.int p0), .val (.int p1), .val (.int p2), .val (.int p3), .val (.int p4), .val (.int p5), .val (.int n), .val (.int s0), .val (.int d1), .val (.int tt), .val (.int d2), .val (.int s1), .val (.int s2), .val (.int (2 : Int32)), .val (.int (0 : Int32)), .val (.int r), .val (.ref b67), .val (.ref b75), .val (.ref b86), .unset] [(.ref b86)])) (fun t kt => ?_) ?_
  · show Steps p.tables e below (T96.setTop (mkF m 274 #[.val (.int p0), .val (.int p1), .val (.int p2), .val (.int p3), .val (.int p4), .val (.int p5), .val (.int n), .val (.int s0), .val (.int d1), .val (.int tt), .val (.int d2), .val (.int s1), .val (.int s2), .val (.int (2 : Int32)), .val (.int (0 : Int32)), .val (.int r), .val (.ref b67), .val (.ref b75), .val (.ref b86), .unset] [])) _
    refine XS.iload X96.here hx rfl (hb hby at_274) rfl ?_
    refine XS.iconst X96.here hx rfl (hb hby at_276) ?_
    refine XS.icmpYes X96.here hx rfl (pc0 := 277) (pc' := 289) rfl (hb hby at_277) rfl (flt (by decide)).2.2.2 (by decide) (by decide) ?_
    refine XS.iload X96.here hx rfl (hb hby at_289) rfl ?_
    refine XS.ifYes X96.here hx rfl (pc0 := 291) (pc' := 314) rfl (hb hby at_291) rfl ((if0 _ _).trans (teq rfl).1) (by decide) (by decide) ?_
    refine XS.aload X96.here hx rfl (hb hby at_314) rfl rfl ?_
    exact kt
  obtain ⟨cq98, kq98, q98a, q98b, q98c⟩ := isOf hZ rfl o96_0
  obtain ⟨_, _, ⟨T98, L98, k98, n98⟩, -, X98, ⟨Lc98, hQ98, l98, y98, z98⟩, st98⟩ := X96.virtualBack hx (y := (⟨"dev/chainlatch/bucket/Order", "first", "()I"⟩ : MethodName)) (z := (⟨"dev/chainlatch/bucket/Order", "first", "()I"⟩ : MethodName)) hown (mvT hZ (hw _ (List.mem_of_getElem? (i := 34) rfl))) (mvT hZ (hw _ (List.mem_of_getElem? (i := 35) rfl))) (notFace_of_selects (args := #[]) (mvT hZ (hw _ (List.mem_of_getElem? (i := 37) rfl)))) (mvT hZ (hw _ (List.mem_of_getElem? (i := 37) rfl))) (mvT hZ (hw _ (List.mem_of_getElem? (i := 36) rfl))) (by decide) (backOf (W := 0) (rmF l Z a0 hw [] b86 s0 T96.heap n0 Z97 o96_1) hZ (hw _ (List.mem_of_getElem? (i := 38) rfl)) (hw _ (List.mem_of_getElem? (i := 5) rfl)) (by decide) (by decide)) q98a q98c (g := (mkF m 316 #[.val (.int p0), .val (.int p1), .val (.int p2), .val (.int p3), .val (.int p4), .val (.int p5), .val (.int n), .val (.int s0), .val (.int d1), .val (.int tt), .val (.int d2), .val (.int s1), .val (.int s2), .val (.int (2 : Int32)), .val (.int (0 : Int32)), .val (.int r), .val (.ref b67), .val (.ref b75), .val (.ref b86), .unset] [(.ref b86)])) rfl (by rw [hml]; rfl) (Steps.refl _) (argsL := []) (rest := []) (lenOf pd__28_29I rfl) rfl (by show 2 * 0 + _ ≤ _; exact Nat.le_of_eq rfl) (hb hby at_316) (fun _ _ => ⟨rfl, rfl, (by decide : 5 + 0 ≤ _), (by decide : 30 + 0 ≤ _)⟩)
  dsimp only [Pt.U, Pt.locs, Pt.cells, Pt.slots] at X98 l98 y98 z98 st98 hQ98
  obtain ⟨rfl, N98q, e98⟩ := hQ98
  obtain ⟨lc98, X98, N98⟩ := own_pack X98 l98 y98 z98 N96 N98q (C := 5) (S' := 30) rfl rfl
  refine own_thr (a := T98.setTop (mkF m 319 #[.val (.int p0), .val (.int p1), .val (.int p2), .val (.int p3), .val (.int p4), .val (.int p5), .val (.int n), .val (.int s0), .val (.int d1), .val (.int tt), .val (.int d2), .val (.int s1), .val (.int s2), .val (.int (2 : Int32)), .val (.int (0 : Int32)), .val (.int r), .val (.ref b67), .val (.ref b75), .val (.ref b86), .unset] [(.int s0)])) (fun t kt => st98.trans kt) ?_
  refine own_thr (a := T98.setTop (mkF m 322 #[.val (.int p0), .val (.int p1), .val (.int p2), .val (.int p3), .val (.int p4), .val (.int p5), .val (.int n), .val (.int s0), .val (.int d1), .val (.int tt), .val (.int d2), .val (.int s1), .val (.int s2), .val (.int (2 : Int32)), .val (.int (0 : Int32)), .val (.int r), .val (.ref b67), .val (.ref b75), .val (.ref b86), .unset] [(.int (0 : Int32)), (.ref b75), (.int s0)])) (fun t kt => ?_) ?_
  · show Steps p.tables e below (T98.setTop (mkF m 319 #[.val (.int p0), .val (.int p1), .val (.int p2), .val (.int p3), .val (.int p4), .val (.int p5), .val (.int n), .val (.int s0), .val (.int d1), .val (.int tt), .val (.int d2), .val (.int s1), .val (.int s2), .val (.int (2 : Int32)), .val (.int (0 : Int32)), .val (.int r), .val (.ref b67), .val (.ref b75), .val (.ref b86), .unset] [(.int s0)])) _
    refine XS.aload X98.here hx rfl (hb hby at_319) rfl rfl ?_
    refine XS.iconst X98.here hx rfl (hb hby at_321) ?_
    exact kt
  have c100 := ((((V84.ext E86).keep K89 (ninS ne_b75_b86 nin0)).keep K92 (ninS ne_b75_b86 (ninS ne_b75_B89 (ninS ne_b75_A89 nin0)))).keep K96 (ninS ne_b75_b86 (ninS ne_b75_B89 (ninS ne_b75_A89 nin0))))
  obtain ⟨cl99, Ar99, -, S99, M99, H99, -⟩ := id c100
  have hin99 : ¬ ((0 : Int32) < 0 ∨ cl99.slots.size ≤ ((0 : Int32)).toNatClampNeg) := inb_of S99 ⟨by decide, by decide⟩
  have hat99 : cl99.slots[((0 : Int32)).toNatClampNeg]? = some (.int s0) := Has.at H99 hin99 rfl
  refine own_thr (a := T98.setTop (mkF m 343 #[.val (.int p0), .val (.int p1), .val (.int p2), .val (.int p3), .val (.int p4), .val (.int p5), .val (.int n), .val (.int s0), .val (.int d1), .val (.int tt), .val (.int d2), .val (.int s1), .val (.int s2), .val (.int (2 : Int32)), .val (.int (0 : Int32)), .val (.int r), .val (.ref b67), .val (.ref b75), .val (.ref b86), .val (.int (1 : Int32))] [(.int (0 : Int32)), (.ref b75), (.ref b86)])) (fun t kt => ?_) ?_
  · show Steps p.tables e below (T98.setTop (mkF m 322 #[.val (.int p0), .val (.int p1), .val (.int p2), .val (.int p3), .val (.int p4), .val (.int p5), .val (.int n), .val (.int s0), .val (.int d1), .val (.int tt), .val (.int d2), .val (.int s1), .val (.int s2), .val (.int (2 : Int32)), .val (.int (0 : Int32)), .val (.int r), .val (.ref b67), .val (.ref b75), .val (.ref b86), .unset] [(.int (0 : Int32)), (.ref b75), (.int s0)])) _
    refine X98.iaload hx (j := (0 : Int32)) (v := (.int s0)) (by rw [e98]; exact Ar99.1) (State.isArrayOf_alike hZ.alike Ar99.2.1) Ar99.2.2 hin99 hat99 (g := (mkF m 322 #[.val (.int p0), .val (.int p1), .val (.int p2), .val (.int p3), .val (.int p4), .val (.int p5), .val (.int n), .val (.int s0), .val (.int d1), .val (.int tt), .val (.int d2), .val (.int s1), .val (.int s2), .val (.int (2 : Int32)), .val (.int (0 : Int32)), .val (.int r), .val (.ref b67), .val (.ref b75), .val (.ref b86), .unset] [(.int (0 : Int32)), (.ref b75), (.int s0)])) rfl rfl (hb hby at_322) _ ?_
    refine XS.icmpNo X98.here hx rfl (hb hby at_323) rfl (teq (by simp [own_up, own_as, n01, n10, n02, n20, n12, n21])).2 ?_
    refine XS.iconst X98.here hx rfl (hb hby at_326) ?_
    refine XS.goto X98.here hx rfl (pc0 := 327) (pc' := 331) rfl (hb hby at_327) (by decide) (by decide) ?_
    refine XS.istore X98.here hx rfl (hb hby at_331) rfl (l' := #[.val (.int p0), .val (.int p1), .val (.int p2), .val (.int p3), .val (.int p4), .val (.int p5), .val (.int n), .val (.int s0), .val (.int d1), .val (.int tt), .val (.int d2), .val (.int s1), .val (.int s2), .val (.int (2 : Int32)), .val (.int (0 : Int32)), .val (.int r), .val (.ref b67), .val (.ref b75), .val (.ref b86), .val (.int (1 : Int32))]) rfl ?_
    refine XS.iload X98.here hx rfl (hb hby at_333) rfl ?_
    refine XS.ifNo X98.here hx rfl (hb hby at_335) rfl ((if0 _ _).trans (feq (by decide)).1) ?_
    refine XS.aload X98.here hx rfl (hb hby at_338) rfl rfl ?_
    refine XS.aload X98.here hx rfl (hb hby at_340) rfl rfl ?_
    refine XS.iconst X98.here hx rfl (hb hby at_342) ?_
    exact kt
  obtain ⟨cl101, Ar101, -, S101, M101, H101, -⟩ := id c100
  have hin101 : ¬ ((0 : Int32) < 0 ∨ cl101.slots.size ≤ ((0 : Int32)).toNatClampNeg) := inb_of S101 ⟨by decide, by decide⟩
  have hat101 : cl101.slots[((0 : Int32)).toNatClampNeg]? = some (.int s0) := Has.at H101 hin101 rfl
  refine own_thr (a := T98.setTop (mkF m 344 #[.val (.int p0), .val (.int p1), .val (.int p2), .val (.int p3), .val (.int p4), .val (.int p5), .val (.int n), .val (.int s0), .val (.int d1), .val (.int tt), .val (.int d2), .val (.int s1), .val (.int s2), .val (.int (2 : Int32)), .val (.int (0 : Int32)), .val (.int r), .val (.ref b67), .val (.ref b75), .val (.ref b86), .val (.int (1 : Int32))] [(.int s0), (.ref b86)])) (fun t kt => ?_) ?_
  · show Steps p.tables e below (T98.setTop (mkF m 343 #[.val (.int p0), .val (.int p1), .val (.int p2), .val (.int p3), .val (.int p4), .val (.int p5), .val (.int n), .val (.int s0), .val (.int d1), .val (.int tt), .val (.int d2), .val (.int s1), .val (.int s2), .val (.int (2 : Int32)), .val (.int (0 : Int32)), .val (.int r), .val (.ref b67), .val (.ref b75), .val (.ref b86), .val (.int (1 : Int32))] [(.int (0 : Int32)), (.ref b75), (.ref b86)])) _
    refine X98.iaload hx (j := (0 : Int32)) (v := (.int s0)) (by rw [e98]; exact Ar101.1) (State.isArrayOf_alike hZ.alike Ar101.2.1) Ar101.2.2 hin101 hat101 (g := (mkF m 343 #[.val (.int p0), .val (.int p1), .val (.int p2), .val (.int p3), .val (.int p4), .val (.int p5), .val (.int n), .val (.int s0), .val (.int d1), .val (.int tt), .val (.int d2), .val (.int s1), .val (.int s2), .val (.int (2 : Int32)), .val (.int (0 : Int32)), .val (.int r), .val (.ref b67), .val (.ref b75), .val (.ref b86), .val (.int (1 : Int32))] [(.int (0 : Int32)), (.ref b75), (.ref b86)])) rfl rfl (hb hby at_343) _ ?_
    exact kt
  obtain ⟨cq102, kq102, q102a, q102b, q102c⟩ := isOf hZ e98 o96_0
  obtain ⟨_, _, ⟨T102, L102, k102, n102⟩, -, X102, ⟨Lc102, hQ102, l102, y102, z102⟩, st102⟩ := X98.virtualBack hx (y := (⟨"dev/chainlatch/bucket/Order", "after", "(I)I"⟩ : MethodName)) (z := (⟨"dev/chainlatch/bucket/Order", "after", "(I)I"⟩ : MethodName)) hown (mvT hZ (hw _ (List.mem_of_getElem? (i := 39) rfl))) (mvT hZ (hw _ (List.mem_of_getElem? (i := 40) rfl))) (notFace_of_selects (args := #[]) (mvT hZ (hw _ (List.mem_of_getElem? (i := 42) rfl)))) (mvT hZ (hw _ (List.mem_of_getElem? (i := 42) rfl))) (mvT hZ (hw _ (List.mem_of_getElem? (i := 41) rfl))) (by decide) (backOf (W := 0) (rmN l Z a0 hw [] b86 s0 A89 n (own_up (own_up (own_up (fun _ => 0) s0 (0 : Int32)) s1 (0 : Int32)) s0 (s1 + (1 : Int32))) T96.heap n0 Z97 o96_4 o96_6 hs00 hs01) hZ (hw _ (List.mem_of_getElem? (i := 43) rfl)) (hw _ (List.mem_of_getElem? (i := 5) rfl)) (by decide) (by decide)) q102a q102c (g := (mkF m 344 #[.val (.int p0), .val (.int p1), .val (.int p2), .val (.int p3), .val (.int p4), .val (.int p5), .val (.int n), .val (.int s0), .val (.int d1), .val (.int tt), .val (.int d2), .val (.int s1), .val (.int s2), .val (.int (2 : Int32)), .val (.int (0 : Int32)), .val (.int r), .val (.ref b67), .val (.ref b75), .val (.ref b86), .val (.int (1 : Int32))] [(.int s0), (.ref b86)])) rfl (by rw [hml]; rfl) (Steps.refl _) (argsL := [(.int s0)]) (rest := []) (lenOf pd__28I_29I rfl) rfl (by show 2 * 0 + _ ≤ _; exact Nat.le_of_eq rfl) (hb hby at_344) (fun _ _ => ⟨rfl, e98, (by decide : 5 + 0 ≤ _), (by decide : 30 + 0 ≤ _)⟩)
  dsimp only [Pt.U, Pt.locs, Pt.cells, Pt.slots] at X102 l102 y102 z102 st102 hQ102
  obtain ⟨rfl, N102q, e102⟩ := hQ102
  obtain ⟨lc102, X102, N102⟩ := own_pack X102 l102 y102 z102 N98 N102q (C := 5) (S' := 30) rfl rfl
  refine own_thr (a := T102.setTop (mkF m 347 #[.val (.int p0), .val (.int p1), .val (.int p2), .val (.int p3), .val (.int p4), .val (.int p5), .val (.int n), .val (.int s0), .val (.int d1), .val (.int tt), .val (.int d2), .val (.int s1), .val (.int s2), .val (.int (2 : Int32)), .val (.int (0 : Int32)), .val (.int r), .val (.ref b67), .val (.ref b75), .val (.ref b86), .val (.int (1 : Int32))] [(.int (((own_up (own_up (own_up (fun _ => 0) s0 (0 : Int32)) s1 (0 : Int32)) s0 (s1 + (1 : Int32))) s0) - (1 : Int32)))])) (fun t kt => st102.trans kt) ?_
  refine own_thr (a := T102.setTop (mkF m 356 #[.val (.int p0), .val (.int p1), .val (.int p2), .val (.int p3), .val (.int p4), .val (.int p5), .val (.int n), .val (.int s0), .val (.int d1), .val (.int tt), .val (.int d2), .val (.int s1), .val (.int s2), .val (.int (2 : Int32)), .val (.int (0 : Int32)), .val (.int r), .val (.ref b67), .val (.ref b75), .val (.ref b86), .val (.int (1 : Int32))] [(.int (1 : Int32)), (.ref b75), (.int (((own_up (own_up (own_up (fun _ => 0) s0 (0 : Int32)) s1 (0 : Int32)) s0 (s1 + (1 : Int32))) s0) - (1 : Int32)))])) (fun t kt => ?_) ?_
  · show Steps p.tables e below (T102.setTop (mkF m 347 #[.val (.int p0), .val (.int p1), .val (.int p2), .val (.int p3), .val (.int p4), .val (.int p5), .val (.int n), .val (.int s0), .val (.int d1), .val (.int tt), .val (.int d2), .val (.int s1), .val (.int s2), .val (.int (2 : Int32)), .val (.int (0 : Int32)), .val (.int r), .val (.ref b67), .val (.ref b75), .val (.ref b86), .val (.int (1 : Int32))] [(.int (((own_up (own_up (own_up (fun _ => 0) s0 (0 : Int32)) s1 (0 : Int32)) s0 (s1 + (1 : Int32))) s0) - (1 : Int32)))])) _
    refine XS.iload X102.here hx rfl (hb hby at_347) rfl ?_
    refine XS.iconst X102.here hx rfl (hb hby at_349) ?_
    refine XS.icmpNo X102.here hx rfl (hb hby at_350) rfl (tlt (by decide)).2.2.2 ?_
    refine XS.aload X102.here hx rfl (hb hby at_353) rfl rfl ?_
    refine XS.iconst X102.here hx rfl (hb hby at_355) ?_
    exact kt
  obtain ⟨cl103, Ar103, -, S103, M103, H103, -⟩ := id c100
  have hin103 : ¬ ((1 : Int32) < 0 ∨ cl103.slots.size ≤ ((1 : Int32)).toNatClampNeg) := inb_of S103 ⟨by decide, by decide⟩
  have hat103 : cl103.slots[((1 : Int32)).toNatClampNeg]? = some (.int s1) := Has.at H103 hin103 rfl
  refine own_thr (a := T102.setTop (mkF m 387 #[.val (.int p0), .val (.int p1), .val (.int p2), .val (.int p3), .val (.int p4), .val (.int p5), .val (.int n), .val (.int s0), .val (.int d1), .val (.int tt), .val (.int d2), .val (.int s1), .val (.int s2), .val (.int (2 : Int32)), .val (.int (0 : Int32)), .val (.int r), .val (.ref b67), .val (.ref b75), .val (.ref b86), .val (.int (1 : Int32))] [(.int (1 : Int32)), (.ref b75), (.ref b86)])) (fun t kt => ?_) ?_
  · show Steps p.tables e below (T102.setTop (mkF m 356 #[.val (.int p0), .val (.int p1), .val (.int p2), .val (.int p3), .val (.int p4), .val (.int p5), .val (.int n), .val (.int s0), .val (.int d1), .val (.int tt), .val (.int d2), .val (.int s1), .val (.int s2), .val (.int (2 : Int32)), .val (.int (0 : Int32)), .val (.int r), .val (.ref b67), .val (.ref b75), .val (.ref b86), .val (.int (1 : Int32))] [(.int (1 : Int32)), (.ref b75), (.int (((own_up (own_up (own_up (fun _ => 0) s0 (0 : Int32)) s1 (0 : Int32)) s0 (s1 + (1 : Int32))) s0) - (1 : Int32)))])) _
    refine X102.iaload hx (j := (1 : Int32)) (v := (.int s1)) (by rw [e102]; exact Ar103.1) (State.isArrayOf_alike hZ.alike Ar103.2.1) Ar103.2.2 hin103 hat103 (g := (mkF m 356 #[.val (.int p0), .val (.int p1), .val (.int p2), .val (.int p3), .val (.int p4), .val (.int p5), .val (.int n), .val (.int s0), .val (.int d1), .val (.int tt), .val (.int d2), .val (.int s1), .val (.int s2), .val (.int (2 : Int32)), .val (.int (0 : Int32)), .val (.int r), .val (.ref b67), .val (.ref b75), .val (.ref b86), .val (.int (1 : Int32))] [(.int (1 : Int32)), (.ref b75), (.int (((own_up (own_up (own_up (fun _ => 0) s0 (0 : Int32)) s1 (0 : Int32)) s0 (s1 + (1 : Int32))) s0) - (1 : Int32)))])) rfl rfl (hb hby at_356) _ ?_
    refine XS.goto X102.here hx rfl (pc0 := 357) (pc' := 361) rfl (hb hby at_357) (by decide) (by decide) ?_
    refine XS.icmpNo X102.here hx rfl (hb hby at_361) rfl (teq (by simp [own_up, own_as, n01, n10, n02, n20, n12, n21])).2 ?_
    refine XS.iconst X102.here hx rfl (hb hby at_364) ?_
    refine XS.goto X102.here hx rfl (pc0 := 365) (pc' := 369) rfl (hb hby at_365) (by decide) (by decide) ?_
    refine XS.istore X102.here hx rfl (hb hby at_369) rfl (l' := #[.val (.int p0), .val (.int p1), .val (.int p2), .val (.int p3), .val (.int p4), .val (.int p5), .val (.int n), .val (.int s0), .val (.int d1), .val (.int tt), .val (.int d2), .val (.int s1), .val (.int s2), .val (.int (2 : Int32)), .val (.int (0 : Int32)), .val (.int r), .val (.ref b67), .val (.ref b75), .val (.ref b86), .val (.int (1 : Int32))]) rfl ?_
    refine XS.iload X102.here hx rfl (hb hby at_371) rfl ?_
    refine XS.iconst X102.here hx rfl (hb hby at_373) ?_
    refine XS.icmpNo X102.here hx rfl (hb hby at_374) rfl (tlt (by decide)).2.2.2 ?_
    refine XS.iload X102.here hx rfl (hb hby at_377) rfl ?_
    refine XS.ifNo X102.here hx rfl (hb hby at_379) rfl ((if0 _ _).trans (feq (by decide)).1) ?_
    refine XS.aload X102.here hx rfl (hb hby at_382) rfl rfl ?_
    refine XS.aload X102.here hx rfl (hb hby at_384) rfl rfl ?_
    refine XS.iconst X102.here hx rfl (hb hby at_386) ?_
    exact kt
  obtain ⟨cl104, Ar104, -, S104, M104, H104, -⟩ := id c100
  have hin104 : ¬ ((1 : Int32) < 0 ∨ cl104.slots.size ≤ ((1 : Int32)).toNatClampNeg) := inb_of S104 ⟨by decide, by decide⟩
  have hat104 : cl104.slots[((1 : Int32)).toNatClampNeg]? = some (.int s1) := Has.at H104 hin104 rfl
  refine own_thr (a := T102.setTop (mkF m 388 #[.val (.int p0), .val (.int p1), .val (.int p2), .val (.int p3), .val (.int p4), .val (.int p5), .val (.int n), .val (.int s0), .val (.int d1), .val (.int tt), .val (.int d2), .val (.int s1), .val (.int s2), .val (.int (2 : Int32)), .val (.int (0 : Int32)), .val (.int r), .val (.ref b67), .val (.ref b75), .val (.ref b86), .val (.int (1 : Int32))] [(.int s1), (.ref b86)])) (fun t kt => ?_) ?_
  · show Steps p.tables e below (T102.setTop (mkF m 387 #[.val (.int p0), .val (.int p1), .val (.int p2), .val (.int p3), .val (.int p4), .val (.int p5), .val (.int n), .val (.int s0), .val (.int d1), .val (.int tt), .val (.int d2), .val (.int s1), .val (.int s2), .val (.int (2 : Int32)), .val (.int (0 : Int32)), .val (.int r), .val (.ref b67), .val (.ref b75), .val (.ref b86), .val (.int (1 : Int32))] [(.int (1 : Int32)), (.ref b75), (.ref b86)])) _
    refine X102.iaload hx (j := (1 : Int32)) (v := (.int s1)) (by rw [e102]; exact Ar104.1) (State.isArrayOf_alike hZ.alike Ar104.2.1) Ar104.2.2 hin104 hat104 (g := (mkF m 387 #[.val (.int p0), .val (.int p1), .val (.int p2), .val (.int p3), .val (.int p4), .val (.int p5), .val (.int n), .val (.int s0), .val (.int d1), .val (.int tt), .val (.int d2), .val (.int s1), .val (.int s2), .val (.int (2 : Int32)), .val (.int (0 : Int32)), .val (.int r), .val (.ref b67), .val (.ref b75), .val (.ref b86), .val (.int (1 : Int32))] [(.int (1 : Int32)), (.ref b75), (.ref b86)])) rfl rfl (hb hby at_387) _ ?_
    exact kt
  obtain ⟨cq105, kq105, q105a, q105b, q105c⟩ := isOf hZ e102 o96_0
  obtain ⟨_, _, ⟨T105, L105, k105, n105⟩, -, X105, ⟨Lc105, hQ105, l105, y105, z105⟩, st105⟩ := X102.virtualBack hx (y := (⟨"dev/chainlatch/bucket/Order", "after", "(I)I"⟩ : MethodName)) (z := (⟨"dev/chainlatch/bucket/Order", "after", "(I)I"⟩ : MethodName)) hown (mvT hZ (hw _ (List.mem_of_getElem? (i := 39) rfl))) (mvT hZ (hw _ (List.mem_of_getElem? (i := 40) rfl))) (notFace_of_selects (args := #[]) (mvT hZ (hw _ (List.mem_of_getElem? (i := 42) rfl)))) (mvT hZ (hw _ (List.mem_of_getElem? (i := 42) rfl))) (mvT hZ (hw _ (List.mem_of_getElem? (i := 41) rfl))) (by decide) (backOf (W := 0) (rmN l Z a0 hw [] b86 s1 A89 n (own_up (own_up (own_up (fun _ => 0) s0 (0 : Int32)) s1 (0 : Int32)) s0 (s1 + (1 : Int32))) T96.heap n0 Z97 o96_4 o96_6 hs10 hs11) hZ (hw _ (List.mem_of_getElem? (i := 43) rfl)) (hw _ (List.mem_of_getElem? (i := 5) rfl)) (by decide) (by decide)) q105a q105c (g := (mkF m 388 #[.val (.int p0), .val (.int p1), .val (.int p2), .val (.int p3), .val (.int p4), .val (.int p5), .val (.int n), .val (.int s0), .val (.int d1), .val (.int tt), .val (.int d2), .val (.int s1), .val (.int s2), .val (.int (2 : Int32)), .val (.int (0 : Int32)), .val (.int r), .val (.ref b67), .val (.ref b75), .val (.ref b86), .val (.int (1 : Int32))] [(.int s1), (.ref b86)])) rfl (by rw [hml]; rfl) (Steps.refl _) (argsL := [(.int s1)]) (rest := []) (lenOf pd__28I_29I rfl) rfl (by show 2 * 0 + _ ≤ _; exact Nat.le_of_eq rfl) (hb hby at_388) (fun _ _ => ⟨rfl, e102, (by decide : 5 + 0 ≤ _), (by decide : 30 + 0 ≤ _)⟩)
  dsimp only [Pt.U, Pt.locs, Pt.cells, Pt.slots] at X105 l105 y105 z105 st105 hQ105
  obtain ⟨rfl, N105q, e105⟩ := hQ105
  obtain ⟨lc105, X105, N105⟩ := own_pack X105 l105 y105 z105 N102 N105q (C := 5) (S' := 30) rfl rfl
  refine own_thr (a := T105.setTop (mkF m 391 #[.val (.int p0), .val (.int p1), .val (.int p2), .val (.int p3), .val (.int p4), .val (.int p5), .val (.int n), .val (.int s0), .val (.int d1), .val (.int tt), .val (.int d2), .val (.int s1), .val (.int s2), .val (.int (2 : Int32)), .val (.int (0 : Int32)), .val (.int r), .val (.ref b67), .val (.ref b75), .val (.ref b86), .val (.int (1 : Int32))] [(.int (((own_up (own_up (own_up (fun _ => 0) s0 (0 : Int32)) s1 (0 : Int32)) s0 (s1 + (1 : Int32))) s1) - (1 : Int32)))])) (fun t kt => st105.trans kt) ?_
  refine own_thr (a := T105.setTop (mkF m 448 #[.val (.int p0), .val (.int p1), .val (.int p2), .val (.int p3), .val (.int p4), .val (.int p5), .val (.int n), .val (.int s0), .val (.int d1), .val (.int tt), .val (.int d2), .val (.int s1), .val (.int s2), .val (.int (2 : Int32)), .val (.int (0 : Int32)), .val (.int r), .val (.ref b67), .val (.ref b75), .val (.ref b86), .val (.int (1 : Int32))] [(.int (1 : Int32))])) (fun t kt => ?_) ?_
  · show Steps p.tables e below (T105.setTop (mkF m 391 #[.val (.int p0), .val (.int p1), .val (.int p2), .val (.int p3), .val (.int p4), .val (.int p5), .val (.int n), .val (.int s0), .val (.int d1), .val (.int tt), .val (.int d2), .val (.int s1), .val (.int s2), .val (.int (2 : Int32)), .val (.int (0 : Int32)), .val (.int r), .val (.ref b67), .val (.ref b75), .val (.ref b86), .val (.int (1 : Int32))] [(.int (((own_up (own_up (own_up (fun _ => 0) s0 (0 : Int32)) s1 (0 : Int32)) s0 (s1 + (1 : Int32))) s1) - (1 : Int32)))])) _
    refine XS.iload X105.here hx rfl (hb hby at_391) rfl ?_
    refine XS.iconst X105.here hx rfl (hb hby at_393) ?_
    refine XS.icmpYes X105.here hx rfl (pc0 := 394) (pc' := 404) rfl (hb hby at_394) rfl (flt (by decide)).2.2.2 (by decide) (by decide) ?_
    refine XS.iconst X105.here hx rfl (hb hby at_404) ?_
    refine XS.icmpNo X105.here hx rfl (hb hby at_405) rfl (teq (by simp [own_up, own_as, n01, n10, n02, n20, n12, n21])).2 ?_
    refine XS.iconst X105.here hx rfl (hb hby at_408) ?_
    refine XS.goto X105.here hx rfl (pc0 := 409) (pc' := 413) rfl (hb hby at_409) (by decide) (by decide) ?_
    refine XS.istore X105.here hx rfl (hb hby at_413) rfl (l' := #[.val (.int p0), .val (.int p1), .val (.int p2), .val (.int p3), .val (.int p4), .val (.int p5), .val (.int n), .val (.int s0), .val (.int d1), .val (.int tt), .val (.int d2), .val (.int s1), .val (.int s2), .val (.int (2 : Int32)), .val (.int (0 : Int32)), .val (.int r), .val (.ref b67), .val (.ref b75), .val (.ref b86), .val (.int (1 : Int32))]) rfl ?_
    refine XS.iload X105.here hx rfl (hb hby at_415) rfl ?_
    refine XS.iconst X105.here hx rfl (hb hby at_417) ?_
    refine XS.icmpYes X105.here hx rfl (pc0 := 418) (pc' := 446) rfl (hb hby at_418) rfl (flt (by decide)).2.2.2 (by decide) (by decide) ?_
    refine XS.iload X105.here hx rfl (hb hby at_446) rfl ?_
    exact kt
  exact own_end X105 hlk (v := some (.int (1 : Int32))) (fun h => by rw [hret] at h; cases h) (fun fs hr => retN X105 hx (t := .boolean) hret (by simp) (hb hby at_448) hr) ⟨rfl, N105⟩ (by decide : 5 ≤ _) (by decide : 30 ≤ _)
set_option maxRecDepth 65536 in
set_option maxHeartbeats 40000000 in
theorem tl210 {p : Program} {l : Launch} {e : Env} {s : State} {m : MethodId} {below : List Frame} {meth : Method} {c : Code} {Z : State} {a0 : Array Value} (p0 : Int32) (p1 : Int32) (p2 : Int32) (p3 : Int32) (p4 : Int32) (p5 : Int32) {h0 : Heap} {n0 : Nat} (Z0 : n0 ≤ h0.size) (hw : ∀ d ∈ tables_1, d.before a0 Z = true) (hx : p.tables.exec = Jvm.exec) (hZ : Z.Warmed39 s.vm) (hby : c.code = code) (hml : c.maxLocals = 20) (hown : s.vm.findClass "dev/chainlatch/bucket/OrderAppendPinLaw" = some m.cls) (hlk : meth.locks = false) (hret : meth.sig.returnType = ret)
    {T0 : State} {lc0 : List Loc} (X0 : Stand p l e room_1 s m #[(.int p0), (.int p1), (.int p2), (.int p3), (.int p4), (.int p5)] below meth c T0 lc0 0 0) (N0 : Fr n0 lc0) (e0 : T0.heap = h0) (n s0 d1 tt d2 s1 s2 r : Int32) (hH : own_H n s0 s1 s2) : own_G p.tables e below s (Q0 Z p0 p1 p2 p3 p4 p5 h0 n0) room_1.cells room_1.slots (T0.setTop (mkF m 116 #[.val (.int p0), .val (.int p1), .val (.int p2), .val (.int p3), .val (.int p4), .val (.int p5), .val (.int n), .val (.int s0), .val (.int d1), .val (.int tt), .val (.int d2), .val (.int s1), .val (.int s2), .val (.int (2 : Int32)), .val (.int (1 : Int32)), .val (.int (0 : Int32)), .unset, .unset, .unset, .unset] [])) := by
  obtain ⟨⟨hn0, hn1⟩, ⟨hs00, hs01⟩, ⟨hs10, hs11⟩, ⟨hs20, hs21⟩, n01, n02, n12⟩ := hH
  have n10 : ¬ s1 = s0 := fun q => n01 q.symm
  have n20 : ¬ s2 = s0 := fun q => n02 q.symm
  have n21 : ¬ s2 = s1 := fun q => n12 q.symm
  refine own_thr (a := T0.setTop (mkF m 117 #[.val (.int p0), .val (.int p1), .val (.int p2), .val (.int p3), .val (.int p4), .val (.int p5), .val (.int n), .val (.int s0), .val (.int d1), .val (.int tt), .val (.int d2), .val (.int s1), .val (.int s2), .val (.int (2 : Int32)), .val (.int (1 : Int32)), .val (.int (0 : Int32)), .unset, .unset, .unset, .unset] [(.int (3 : Int32))])) (fun t kt => ?_) ?_
  · show Steps p.tables e below (T0.setTop (mkF m 116 #[.val (.int p0), .val (.int p1), .val (.int p2), .val (.int p3), .val (.int p4), .val (.int p5), .val (.int n), .val (.int s0), .val (.int d1), .val (.int tt), .val (.int d2), .val (.int s1), .val (.int s2), .val (.int (2 : Int32)), .val (.int (1 : Int32)), .val (.int (0 : Int32)), .unset, .unset, .unset, .unset] [])) _
    refine XS.iconst X0.here hx rfl (hb hby at_116) ?_
    exact kt
  obtain ⟨T106, h106, k106, X106, e106, E106, A106, st106⟩ := newP X0 hx hZ (hw _ (List.mem_of_getElem? (i := 2) rfl)) e0 (g := (mkF m 117 #[.val (.int p0), .val (.int p1), .val (.int p2), .val (.int p3), .val (.int p4), .val (.int p5), .val (.int n), .val (.int s0), .val (.int d1), .val (.int tt), .val (.int d2), .val (.int s1), .val (.int s2), .val (.int (2 : Int32)), .val (.int (1 : Int32)), .val (.int (0 : Int32)), .unset, .unset, .unset, .unset] [(.int (3 : Int32))])) rfl (hb hby at_117) rfl (by decide) (cap := 3) (by decide) (by decide) (by decide : 0 + 1 ≤ _) (by decide : 0 + 3 ≤ _)
  obtain ⟨b106, g106⟩ : ∃ z, z = h0.size := ⟨_, rfl⟩
  rw [← g106] at A106 st106
  have g_b106 : n0 ≤ b106 := Nat.le_trans Z0 (Nat.le_of_eq g106.symm)
  have sz_b106 : h0.size ≤ b106 := Nat.le_trans (Nat.le_refl h0.size) (Nat.le_of_eq g106.symm)
  have V_b106 : Arv Z h106 b106 k106 .int (3 : Int32) [(.int (0 : Int32)), (.int (0 : Int32)), (.int (0 : Int32))] (.int (0 : Int32)) := (Arv.new A106 (by decide)).pad (pad_rep [] (.int (0 : Int32)) 3)
  have Z107 : n0 ≤ h106.size := Nat.le_trans Z0 E106.1
  have Z107h : h0.size ≤ h106.size := Nat.le_trans (Nat.le_refl h0.size) E106.1
  refine own_thr (a := T106.setTop (mkF m 119 #[.val (.int p0), .val (.int p1), .val (.int p2), .val (.int p3), .val (.int p4), .val (.int p5), .val (.int n), .val (.int s0), .val (.int d1), .val (.int tt), .val (.int d2), .val (.int s1), .val (.int s2), .val (.int (2 : Int32)), .val (.int (1 : Int32)), .val (.int (0 : Int32)), .unset, .unset, .unset, .unset] [(.ref b106)])) (fun t kt => st106 t kt) ?_
  refine own_thr (a := T106.setTop (mkF m 123 #[.val (.int p0), .val (.int p1), .val (.int p2), .val (.int p3), .val (.int p4), .val (.int p5), .val (.int n), .val (.int s0), .val (.int d1), .val (.int tt), .val (.int d2), .val (.int s1), .val (.int s2), .val (.int (2 : Int32)), .val (.int (1 : Int32)), .val (.int (0 : Int32)), .unset, .unset, .unset, .unset] [(.int s0), (.int (0 : Int32)), (.ref b106), (.ref b106)])) (fun t kt => ?_) ?_
  · show Steps p.tables e below (T106.setTop (mkF m 119 #[.val (.int p0), .val (.int p1), .val (.int p2), .val (.int p3), .val (.int p4), .val (.int p5), .val (.int n), .val (.int s0), .val (.int d1), .val (.int tt), .val (.int d2), .val (.int s1), .val (.int s2), .val (.int (2 : Int32)), .val (.int (1 : Int32)), .val (.int (0 : Int32)), .unset, .unset, .unset, .unset] [(.ref b106)])) _
    refine XS.dup X106.here hx rfl (hb hby at_119) rfl rfl ?_
    refine XS.iconst X106.here hx rfl (hb hby at_120) ?_
    refine XS.iload X106.here hx rfl (hb hby at_121) rfl ?_
    exact kt
  obtain ⟨cl108, Ar108, q108, S108, M108, H108, G108⟩ := id V_b106
  have hin108 : ¬ ((0 : Int32) < 0 ∨ cl108.slots.size ≤ ((0 : Int32)).toNatClampNeg) := inb_of S108 ⟨by decide, by decide⟩
  obtain ⟨T108, h108, X108, e108, W108, st108⟩ := stI X106 hx hZ e106 Ar108 (j := (0 : Int32)) hin108 (g := (mkF m 123 #[.val (.int p0), .val (.int p1), .val (.int p2), .val (.int p3), .val (.int p4), .val (.int p5), .val (.int n), .val (.int s0), .val (.int d1), .val (.int tt), .val (.int d2), .val (.int s1), .val (.int s2), .val (.int (2 : Int32)), .val (.int (1 : Int32)), .val (.int (0 : Int32)), .unset, .unset, .unset, .unset] [(.int s0), (.int (0 : Int32)), (.ref b106), (.ref b106)])) rfl rfl (hb hby at_123)
  have Z109 : n0 ≤ h108.size := Nat.le_trans Z107 (Nat.le_of_eq W108.size.symm)
  have Z109h : h0.size ≤ h108.size := Nat.le_trans Z107h (Nat.le_of_eq W108.size.symm)
  have V108 : Arv Z h108 b106 k106 .int (3 : Int32) [(.int s0), (.int (0 : Int32)), (.int (0 : Int32))] (.int (0 : Int32)) := Arv.set Ar108 q108 S108 M108 H108 G108 rfl W108 0 rfl (Nat.le_of_ble_eq_true rfl)
  obtain ⟨lc108, X108, N108⟩ := own_pack1 X108 N0 g_b106
  refine own_thr (a := T108.setTop (mkF m 124 #[.val (.int p0), .val (.int p1), .val (.int p2), .val (.int p3), .val (.int p4), .val (.int p5), .val (.int n), .val (.int s0), .val (.int d1), .val (.int tt), .val (.int d2), .val (.int s1), .val (.int s2), .val (.int (2 : Int32)), .val (.int (1 : Int32)), .val (.int (0 : Int32)), .unset, .unset, .unset, .unset] [(.ref b106)])) (fun t kt => st108 t kt) ?_
  refine own_thr (a := T108.setTop (mkF m 128 #[.val (.int p0), .val (.int p1), .val (.int p2), .val (.int p3), .val (.int p4), .val (.int p5), .val (.int n), .val (.int s0), .val (.int d1), .val (.int tt), .val (.int d2), .val (.int s1), .val (.int s2), .val (.int (2 : Int32)), .val (.int (1 : Int32)), .val (.int (0 : Int32)), .unset, .unset, .unset, .unset] [(.int s1), (.int (1 : Int32)), (.ref b106), (.ref b106)])) (fun t kt => ?_) ?_
  · show Steps p.tables e below (T108.setTop (mkF m 124 #[.val (.int p0), .val (.int p1), .val (.int p2), .val (.int p3), .val (.int p4), .val (.int p5), .val (.int n), .val (.int s0), .val (.int d1), .val (.int tt), .val (.int d2), .val (.int s1), .val (.int s2), .val (.int (2 : Int32)), .val (.int (1 : Int32)), .val (.int (0 : Int32)), .unset, .unset, .unset, .unset] [(.ref b106)])) _
    refine XS.dup X108.here hx rfl (hb hby at_124) rfl rfl ?_
    refine XS.iconst X108.here hx rfl (hb hby at_125) ?_
    refine XS.iload X108.here hx rfl (hb hby at_126) rfl ?_
    exact kt
  obtain ⟨cl110, Ar110, q110, S110, M110, H110, G110⟩ := id V108
  have hin110 : ¬ ((1 : Int32) < 0 ∨ cl110.slots.size ≤ ((1 : Int32)).toNatClampNeg) := inb_of S110 ⟨by decide, by decide⟩
  obtain ⟨T110, h110, X110, e110, W110, st110⟩ := stI X108 hx hZ e108 Ar110 (j := (1 : Int32)) hin110 (g := (mkF m 128 #[.val (.int p0), .val (.int p1), .val (.int p2), .val (.int p3), .val (.int p4), .val (.int p5), .val (.int n), .val (.int s0), .val (.int d1), .val (.int tt), .val (.int d2), .val (.int s1), .val (.int s2), .val (.int (2 : Int32)), .val (.int (1 : Int32)), .val (.int (0 : Int32)), .unset, .unset, .unset, .unset] [(.int s1), (.int (1 : Int32)), (.ref b106), (.ref b106)])) rfl rfl (hb hby at_128)
  have Z111 : n0 ≤ h110.size := Nat.le_trans Z109 (Nat.le_of_eq W110.size.symm)
  have Z111h : h0.size ≤ h110.size := Nat.le_trans Z109h (Nat.le_of_eq W110.size.symm)
  have V110 : Arv Z h110 b106 k106 .int (3 : Int32) [(.int s0), (.int s1), (.int (0 : Int32))] (.int (0 : Int32)) := Arv.set Ar110 q110 S110 M110 H110 G110 rfl W110 1 rfl (Nat.le_of_ble_eq_true rfl)
  obtain ⟨lc110, X110, N110⟩ := own_pack1 X110 N108 g_b106
  refine own_thr (a := T110.setTop (mkF m 129 #[.val (.int p0), .val (.int p1), .val (.int p2), .val (.int p3), .val (.int p4), .val (.int p5), .val (.int n), .val (.int s0), .val (.int d1), .val (.int tt), .val (.int d2), .val (.int s1), .val (.int s2), .val (.int (2 : Int32)), .val (.int (1 : Int32)), .val (.int (0 : Int32)), .unset, .unset, .unset, .unset] [(.ref b106)])) (fun t kt => st110 t kt) ?_
  refine own_thr (a := T110.setTop (mkF m 133 #[.val (.int p0), .val (.int p1), .val (.int p2), .val (.int p3), .val (.int p4), .val (.int p5), .val (.int n), .val (.int s0), .val (.int d1), .val (.int tt), .val (.int d2), .val (.int s1), .val (.int s2), .val (.int (2 : Int32)), .val (.int (1 : Int32)), .val (.int (0 : Int32)), .unset, .unset, .unset, .unset] [(.int s2), (.int (2 : Int32)), (.ref b106), (.ref b106)])) (fun t kt => ?_) ?_
  · show Steps p.tables e below (T110.setTop (mkF m 129 #[.val (.int p0), .val (.int p1), .val (.int p2), .val (.int p3), .val (.int p4), .val (.int p5), .val (.int n), .val (.int s0), .val (.int d1), .val (.int tt), .val (.int d2), .val (.int s1), .val (.int s2), .val (.int (2 : Int32)), .val (.int (1 : Int32)), .val (.int (0 : Int32)), .unset, .unset, .unset, .unset] [(.ref b106)])) _
    refine XS.dup X110.here hx rfl (hb hby at_129) rfl rfl ?_
    refine XS.iconst X110.here hx rfl (hb hby at_130) ?_
    refine XS.iload X110.here hx rfl (hb hby at_131) rfl ?_
    exact kt
  obtain ⟨cl112, Ar112, q112, S112, M112, H112, G112⟩ := id V110
  have hin112 : ¬ ((2 : Int32) < 0 ∨ cl112.slots.size ≤ ((2 : Int32)).toNatClampNeg) := inb_of S112 ⟨by decide, by decide⟩
  obtain ⟨T112, h112, X112, e112, W112, st112⟩ := stI X110 hx hZ e110 Ar112 (j := (2 : Int32)) hin112 (g := (mkF m 133 #[.val (.int p0), .val (.int p1), .val (.int p2), .val (.int p3), .val (.int p4), .val (.int p5), .val (.int n), .val (.int s0), .val (.int d1), .val (.int tt), .val (.int d2), .val (.int s1), .val (.int s2), .val (.int (2 : Int32)), .val (.int (1 : Int32)), .val (.int (0 : Int32)), .unset, .unset, .unset, .unset] [(.int s2), (.int (2 : Int32)), (.ref b106), (.ref b106)])) rfl rfl (hb hby at_133)
  have Z113 : n0 ≤ h112.size := Nat.le_trans Z111 (Nat.le_of_eq W112.size.symm)
  have Z113h : h0.size ≤ h112.size := Nat.le_trans Z111h (Nat.le_of_eq W112.size.symm)
  have V112 : Arv Z h112 b106 k106 .int (3 : Int32) [(.int s0), (.int s1), (.int s2)] (.int (0 : Int32)) := Arv.set Ar112 q112 S112 M112 H112 G112 rfl W112 2 rfl (Nat.le_of_ble_eq_true rfl)
  obtain ⟨lc112, X112, N112⟩ := own_pack1 X112 N110 g_b106
  refine own_thr (a := T112.setTop (mkF m 134 #[.val (.int p0), .val (.int p1), .val (.int p2), .val (.int p3), .val (.int p4), .val (.int p5), .val (.int n), .val (.int s0), .val (.int d1), .val (.int tt), .val (.int d2), .val (.int s1), .val (.int s2), .val (.int (2 : Int32)), .val (.int (1 : Int32)), .val (.int (0 : Int32)), .unset, .unset, .unset, .unset] [(.ref b106)])) (fun t kt => st112 t kt) ?_
  refine own_thr (a := T112.setTop (mkF m 137 #[.val (.int p0), .val (.int p1), .val (.int p2), .val (.int p3), .val (.int p4), .val (.int p5), .val (.int n), .val (.int s0), .val (.int d1), .val (.int tt), .val (.int d2), .val (.int s1), .val (.int s2), .val (.int (2 : Int32)), .val (.int (1 : Int32)), .val (.int (0 : Int32)), .val (.ref b106), .unset, .unset, .unset] [(.int (3 : Int32))])) (fun t kt => ?_) ?_
  · show Steps p.tables e below (T112.setTop (mkF m 134 #[.val (.int p0), .val (.int p1), .val (.int p2), .val (.int p3), .val (.int p4), .val (.int p5), .val (.int n), .val (.int s0), .val (.int d1), .val (.int tt), .val (.int d2), .val (.int s1), .val (.int s2), .val (.int (2 : Int32)), .val (.int (1 : Int32)), .val (.int (0 : Int32)), .unset, .unset, .unset, .unset] [(.ref b106)])) _
    refine XS.astore X112.here hx rfl (hb hby at_134) rfl rfl (l' := #[.val (.int p0), .val (.int p1), .val (.int p2), .val (.int p3), .val (.int p4), .val (.int p5), .val (.int n), .val (.int s0), .val (.int d1), .val (.int tt), .val (.int d2), .val (.int s1), .val (.int s2), .val (.int (2 : Int32)), .val (.int (1 : Int32)), .val (.int (0 : Int32)), .val (.ref b106), .unset, .unset, .unset]) rfl ?_
    refine XS.iconst X112.here hx rfl (hb hby at_136) ?_
    exact kt
  obtain ⟨T114, h114, k114, X114, e114, E114, A114, st114⟩ := newP X112 hx hZ (hw _ (List.mem_of_getElem? (i := 2) rfl)) e112 (g := (mkF m 137 #[.val (.int p0), .val (.int p1), .val (.int p2), .val (.int p3), .val (.int p4), .val (.int p5), .val (.int n), .val (.int s0), .val (.int d1), .val (.int tt), .val (.int d2), .val (.int s1), .val (.int s2), .val (.int (2 : Int32)), .val (.int (1 : Int32)), .val (.int (0 : Int32)), .val (.ref b106), .unset, .unset, .unset] [(.int (3 : Int32))])) rfl (hb hby at_137) rfl (by decide) (cap := 3) (by decide) (by decide) (by decide : 1 + 1 ≤ _) (by decide : 3 + 3 ≤ _)
  obtain ⟨b114, g114⟩ : ∃ z, z = h112.size := ⟨_, rfl⟩
  rw [← g114] at A114 st114
  have g_b114 : n0 ≤ b114 := Nat.le_trans Z113 (Nat.le_of_eq g114.symm)
  have sz_b114 : h0.size ≤ b114 := Nat.le_trans Z113h (Nat.le_of_eq g114.symm)
  have lt_b106_b114 : b106 < b114 := Nat.lt_of_lt_of_le V112.lt (Nat.le_of_eq g114.symm)
  have ne_b106_b114 : b106 ≠ b114 := Nat.ne_of_lt lt_b106_b114
  have V_b114 : Arv Z h114 b114 k114 .int (3 : Int32) [(.int (0 : Int32)), (.int (0 : Int32)), (.int (0 : Int32))] (.int (0 : Int32)) := (Arv.new A114 (by decide)).pad (pad_rep [] (.int (0 : Int32)) 3)
  have Z115 : n0 ≤ h114.size := Nat.le_trans Z113 E114.1
  have Z115h : h0.size ≤ h114.size := Nat.le_trans Z113h E114.1
  refine own_thr (a := T114.setTop (mkF m 139 #[.val (.int p0), .val (.int p1), .val (.int p2), .val (.int p3), .val (.int p4), .val (.int p5), .val (.int n), .val (.int s0), .val (.int d1), .val (.int tt), .val (.int d2), .val (.int s1), .val (.int s2), .val (.int (2 : Int32)), .val (.int (1 : Int32)), .val (.int (0 : Int32)), .val (.ref b106), .unset, .unset, .unset] [(.ref b114)])) (fun t kt => st114 t kt) ?_
  refine own_thr (a := T114.setTop (mkF m 171 #[.val (.int p0), .val (.int p1), .val (.int p2), .val (.int p3), .val (.int p4), .val (.int p5), .val (.int n), .val (.int s0), .val (.int d1), .val (.int tt), .val (.int d2), .val (.int s1), .val (.int s2), .val (.int (2 : Int32)), .val (.int (1 : Int32)), .val (.int (0 : Int32)), .val (.ref b106), .val (.ref b114), .unset, .unset] [(.int (1 : Int32)), (.ref b106), (.int (0 : Int32)), (.ref b114)])) (fun t kt => ?_) ?_
  · show Steps p.tables e below (T114.setTop (mkF m 139 #[.val (.int p0), .val (.int p1), .val (.int p2), .val (.int p3), .val (.int p4), .val (.int p5), .val (.int n), .val (.int s0), .val (.int d1), .val (.int tt), .val (.int d2), .val (.int s1), .val (.int s2), .val (.int (2 : Int32)), .val (.int (1 : Int32)), .val (.int (0 : Int32)), .val (.ref b106), .unset, .unset, .unset] [(.ref b114)])) _
    refine XS.astore X114.here hx rfl (hb hby at_139) rfl rfl (l' := #[.val (.int p0), .val (.int p1), .val (.int p2), .val (.int p3), .val (.int p4), .val (.int p5), .val (.int n), .val (.int s0), .val (.int d1), .val (.int tt), .val (.int d2), .val (.int s1), .val (.int s2), .val (.int (2 : Int32)), .val (.int (1 : Int32)), .val (.int (0 : Int32)), .val (.ref b106), .val (.ref b114), .unset, .unset]) rfl ?_
    refine XS.iload X114.here hx rfl (hb hby at_141) rfl ?_
    refine XS.ifNo X114.here hx rfl (hb hby at_143) rfl ((if0 _ _).trans (feq (by decide)).1) ?_
    refine XS.iload X114.here hx rfl (hb hby at_146) rfl ?_
    refine XS.iconst X114.here hx rfl (hb hby at_148) ?_
    refine XS.icmpNo X114.here hx rfl (hb hby at_149) rfl (tlt (by decide)).2.2.2 ?_
    refine XS.aload X114.here hx rfl (hb hby at_152) rfl rfl ?_
    refine XS.iconst X114.here hx rfl (hb hby at_154) ?_
    refine XS.iconst X114.here hx rfl (hb hby at_155) ?_
    refine XS.iload X114.here hx rfl (hb hby at_156) rfl ?_
    refine XS.icmpYes X114.here hx rfl (pc0 := 158) (pc' := 168) rfl (hb hby at_158) rfl (flt (by decide)).2.1 (by decide) (by decide) ?_
    refine XS.aload X114.here hx rfl (hb hby at_168) rfl rfl ?_
    refine XS.iconst X114.here hx rfl (hb hby at_170) ?_
    exact kt
  obtain ⟨cl116, Ar116, -, S116, M116, H116, -⟩ := id (V112.ext E114)
  have hin116 : ¬ ((1 : Int32) < 0 ∨ cl116.slots.size ≤ ((1 : Int32)).toNatClampNeg) := inb_of S116 ⟨by decide, by decide⟩
  have hat116 : cl116.slots[((1 : Int32)).toNatClampNeg]? = some (.int s1) := Has.at H116 hin116 rfl
  refine own_thr (a := T114.setTop (mkF m 172 #[.val (.int p0), .val (.int p1), .val (.int p2), .val (.int p3), .val (.int p4), .val (.int p5), .val (.int n), .val (.int s0), .val (.int d1), .val (.int tt), .val (.int d2), .val (.int s1), .val (.int s2), .val (.int (2 : Int32)), .val (.int (1 : Int32)), .val (.int (0 : Int32)), .val (.ref b106), .val (.ref b114), .unset, .unset] [(.int s1), (.int (0 : Int32)), (.ref b114)])) (fun t kt => ?_) ?_
  · show Steps p.tables e below (T114.setTop (mkF m 171 #[.val (.int p0), .val (.int p1), .val (.int p2), .val (.int p3), .val (.int p4), .val (.int p5), .val (.int n), .val (.int s0), .val (.int d1), .val (.int tt), .val (.int d2), .val (.int s1), .val (.int s2), .val (.int (2 : Int32)), .val (.int (1 : Int32)), .val (.int (0 : Int32)), .val (.ref b106), .val (.ref b114), .unset, .unset] [(.int (1 : Int32)), (.ref b106), (.int (0 : Int32)), (.ref b114)])) _
    refine X114.iaload hx (j := (1 : Int32)) (v := (.int s1)) (by rw [e114]; exact Ar116.1) (State.isArrayOf_alike hZ.alike Ar116.2.1) Ar116.2.2 hin116 hat116 (g := (mkF m 171 #[.val (.int p0), .val (.int p1), .val (.int p2), .val (.int p3), .val (.int p4), .val (.int p5), .val (.int n), .val (.int s0), .val (.int d1), .val (.int tt), .val (.int d2), .val (.int s1), .val (.int s2), .val (.int (2 : Int32)), .val (.int (1 : Int32)), .val (.int (0 : Int32)), .val (.ref b106), .val (.ref b114), .unset, .unset] [(.int (1 : Int32)), (.ref b106), (.int (0 : Int32)), (.ref b114)])) rfl rfl (hb hby at_171) _ ?_
    exact kt
  obtain ⟨cl117, Ar117, q117, S117, M117, H117, G117⟩ := id V_b114
  have hin117 : ¬ ((0 : Int32) < 0 ∨ cl117.slots.size ≤ ((0 : Int32)).toNatClampNeg) := inb_of S117 ⟨by decide, by decide⟩
  obtain ⟨T117, h117, X117, e117, W117, st117⟩ := stI X114 hx hZ e114 Ar117 (j := (0 : Int32)) hin117 (g := (mkF m 172 #[.val (.int p0), .val (.int p1), .val (.int p2), .val (.int p3), .val (.int p4), .val (.int p5), .val (.int n), .val (.int s0), .val (.int d1), .val (.int tt), .val (.int d2), .val (.int s1), .val (.int s2), .val (.int (2 : Int32)), .val (.int (1 : Int32)), .val (.int (0 : Int32)), .val (.ref b106), .val (.ref b114), .unset, .unset] [(.int s1), (.int (0 : Int32)), (.ref b114)])) rfl rfl (hb hby at_172)
  have Z118 : n0 ≤ h117.size := Nat.le_trans Z115 (Nat.le_of_eq W117.size.symm)
  have Z118h : h0.size ≤ h117.size := Nat.le_trans Z115h (Nat.le_of_eq W117.size.symm)
  have V117 : Arv Z h117 b114 k114 .int (3 : Int32) [(.int s1), (.int (0 : Int32)), (.int (0 : Int32))] (.int (0 : Int32)) := Arv.set Ar117 q117 S117 M117 H117 G117 rfl W117 0 rfl (Nat.le_of_ble_eq_true rfl)
  obtain ⟨lc117, X117, N117⟩ := own_pack1 X117 N112 g_b114
  refine own_thr (a := T117.setTop (mkF m 173 #[.val (.int p0), .val (.int p1), .val (.int p2), .val (.int p3), .val (.int p4), .val (.int p5), .val (.int n), .val (.int s0), .val (.int d1), .val (.int tt), .val (.int d2), .val (.int s1), .val (.int s2), .val (.int (2 : Int32)), .val (.int (1 : Int32)), .val (.int (0 : Int32)), .val (.ref b106), .val (.ref b114), .unset, .unset] [])) (fun t kt => st117 t kt) ?_
  refine own_thr (a := T117.setTop (mkF m 210 #[.val (.int p0), .val (.int p1), .val (.int p2), .val (.int p3), .val (.int p4), .val (.int p5), .val (.int n), .val (.int s0), .val (.int d1), .val (.int tt), .val (.int d2), .val (.int s1), .val (.int s2), .val (.int (2 : Int32)), .val (.int (1 : Int32)), .val (.int (0 : Int32)), .val (.ref b106), .val (.ref b114), .unset, .unset] [(.int (0 : Int32)), (.ref b106), (.int (1 : Int32)), (.ref b114)])) (fun t kt => ?_) ?_
  · show Steps p.tables e below (T117.setTop (mkF m 173 #[.val (.int p0), .val (.int p1), .val (.int p2), .val (.int p3), .val (.int p4), .val (.int p5), .val (.int n), .val (.int s0), .val (.int d1), .val (.int tt), .val (.int d2), .val (.int s1), .val (.int s2), .val (.int (2 : Int32)), .val (.int (1 : Int32)), .val (.int (0 : Int32)), .val (.ref b106), .val (.ref b114), .unset, .unset] [])) _
    refine XS.iload X117.here hx rfl (hb hby at_173) rfl ?_
    refine XS.iconst X117.here hx rfl (hb hby at_175) ?_
    refine XS.icmpYes X117.here hx rfl (pc0 := 176) (pc' := 200) rfl (hb hby at_176) rfl (flt (by decide)).2.2.2 (by decide) (by decide) ?_
    refine XS.aload X117.here hx rfl (hb hby at_200) rfl rfl ?_
    refine XS.iload X117.here hx rfl (hb hby at_202) rfl ?_
    refine XS.iconst X117.here hx rfl (hb hby at_204) ?_
    refine XS.isub X117.here hx rfl (hb hby at_205) rfl ?_
    refine XS.aload X117.here hx rfl (hb hby at_206) rfl rfl ?_
    refine XS.iload X117.here hx rfl (hb hby at_208) rfl ?_
    exact kt
  obtain ⟨cl119, Ar119, -, S119, M119, H119, -⟩ := id ((V112.ext E114).other W117 ne_b106_b114)
  have hin119 : ¬ ((0 : Int32) < 0 ∨ cl119.slots.size ≤ ((0 : Int32)).toNatClampNeg) := inb_of S119 ⟨by decide, by decide⟩
  have hat119 : cl119.slots[((0 : Int32)).toNatClampNeg]? = some (.int s0) := Has.at H119 hin119 rfl
  refine own_thr (a := T117.setTop (mkF m 211 #[.val (.int p0), .val (.int p1), .val (.int p2), .val (.int p3), .val (.int p4), .val (.int p5), .val (.int n), .val (.int s0), .val (.int d1), .val (.int tt), .val (.int d2), .val (.int s1), .val (.int s2), .val (.int (2 : Int32)), .val (.int (1 : Int32)), .val (.int (0 : Int32)), .val (.ref b106), .val (.ref b114), .unset, .unset] [(.int s0), (.int (1 : Int32)), (.ref b114)])) (fun t kt => ?_) ?_
  · show Steps p.tables e below (T117.setTop (mkF m 210 #[.val (.int p0), .val (.int p1), .val (.int p2), .val (.int p3), .val (.int p4), .val (.int p5), .val (.int n), .val (.int s0), .val (.int d1), .val (.int tt), .val (.int d2), .val (.int s1), .val (.int s2), .val (.int (2 : Int32)), .val (.int (1 : Int32)), .val (.int (0 : Int32)), .val (.ref b106), .val (.ref b114), .unset, .unset] [(.int (0 : Int32)), (.ref b106), (.int (1 : Int32)), (.ref b114)])) _
    refine X117.iaload hx (j := (0 : Int32)) (v := (.int s0)) (by rw [e117]; exact Ar119.1) (State.isArrayOf_alike hZ.alike Ar119.2.1) Ar119.2.2 hin119 hat119 (g := (mkF m 210 #[.val (.int p0), .val (.int p1), .val (.int p2), .val (.int p3), .val (.int p4), .val (.int p5), .val (.int n), .val (.int s0), .val (.int d1), .val (.int tt), .val (.int d2), .val (.int s1), .val (.int s2), .val (.int (2 : Int32)), .val (.int (1 : Int32)), .val (.int (0 : Int32)), .val (.ref b106), .val (.ref b114), .unset, .unset] [(.int (0 : Int32)), (.ref b106), (.int (1 : Int32)), (.ref b114)])) rfl rfl (hb hby at_210) _ ?_
    exact kt
  obtain ⟨cl120, Ar120, q120, S120, M120, H120, G120⟩ := id V117
  have hin120 : ¬ ((1 : Int32) < 0 ∨ cl120.slots.size ≤ ((1 : Int32)).toNatClampNeg) := inb_of S120 ⟨by decide, by decide⟩
  obtain ⟨T120, h120, X120, e120, W120, st120⟩ := stI X117 hx hZ e117 Ar120 (j := (1 : Int32)) hin120 (g := (mkF m 211 #[.val (.int p0), .val (.int p1), .val (.int p2), .val (.int p3), .val (.int p4), .val (.int p5), .val (.int n), .val (.int s0), .val (.int d1), .val (.int tt), .val (.int d2), .val (.int s1), .val (.int s2), .val (.int (2 : Int32)), .val (.int (1 : Int32)), .val (.int (0 : Int32)), .val (.ref b106), .val (.ref b114), .unset, .unset] [(.int s0), (.int (1 : Int32)), (.ref b114)])) rfl rfl (hb hby at_211)
  have Z121 : n0 ≤ h120.size := Nat.le_trans Z118 (Nat.le_of_eq W120.size.symm)
  have Z121h : h0.size ≤ h120.size := Nat.le_trans Z118h (Nat.le_of_eq W120.size.symm)
  have V120 : Arv Z h120 b114 k114 .int (3 : Int32) [(.int s1), (.int s0), (.int (0 : Int32))] (.int (0 : Int32)) := Arv.set Ar120 q120 S120 M120 H120 G120 rfl W120 1 rfl (Nat.le_of_ble_eq_true rfl)
  obtain ⟨lc120, X120, N120⟩ := own_pack1 X120 N117 g_b114
  refine own_thr (a := T120.setTop (mkF m 212 #[.val (.int p0), .val (.int p1), .val (.int p2), .val (.int p3), .val (.int p4), .val (.int p5), .val (.int n), .val (.int s0), .val (.int d1), .val (.int tt), .val (.int d2), .val (.int s1), .val (.int s2), .val (.int (2 : Int32)), .val (.int (1 : Int32)), .val (.int (0 : Int32)), .val (.ref b106), .val (.ref b114), .unset, .unset] [])) (fun t kt => st120 t kt) ?_
  refine own_thr (a := T120.setTop (mkF m 239 #[.val (.int p0), .val (.int p1), .val (.int p2), .val (.int p3), .val (.int p4), .val (.int p5), .val (.int n), .val (.int s0), .val (.int d1), .val (.int tt), .val (.int d2), .val (.int s1), .val (.int s2), .val (.int (2 : Int32)), .val (.int (1 : Int32)), .val (.int (0 : Int32)), .val (.ref b106), .val (.ref b114), .unset, .unset] [])) (fun t kt => ?_) ?_
  · show Steps p.tables e below (T120.setTop (mkF m 212 #[.val (.int p0), .val (.int p1), .val (.int p2), .val (.int p3), .val (.int p4), .val (.int p5), .val (.int n), .val (.int s0), .val (.int d1), .val (.int tt), .val (.int d2), .val (.int s1), .val (.int s2), .val (.int (2 : Int32)), .val (.int (1 : Int32)), .val (.int (0 : Int32)), .val (.ref b106), .val (.ref b114), .unset, .unset] [])) _
    refine XS.goto X120.here hx rfl (pc0 := 212) (pc' := 239) rfl (hb hby at_212) (by decide) (by decide) ?_
    exact kt
  have c123 := (((V112.ext E114).other W117 ne_b106_b114).other W120 ne_b106_b114)
  obtain ⟨T122, h122, X122, e122, E122, A122, D122, U122, st122⟩ := newO X120 hx hZ hown (hw _ (List.mem_of_getElem? (i := 3) rfl)) (hw _ (List.mem_of_getElem? (i := 4) rfl)) (hw _ (List.mem_of_getElem? (i := 5) rfl)) e120 (g := (mkF m 239 #[.val (.int p0), .val (.int p1), .val (.int p2), .val (.int p3), .val (.int p4), .val (.int p5), .val (.int n), .val (.int s0), .val (.int d1), .val (.int tt), .val (.int d2), .val (.int s1), .val (.int s2), .val (.int (2 : Int32)), .val (.int (1 : Int32)), .val (.int (0 : Int32)), .val (.ref b106), .val (.ref b114), .unset, .unset] [])) rfl (hb hby at_239) (by decide : 2 + 1 ≤ _) (by decide : 6 + 4 ≤ _)
  obtain ⟨b122, g122⟩ : ∃ z, z = h120.size := ⟨_, rfl⟩
  rw [← g122] at A122 D122 st122 U122
  have g_b122 : n0 ≤ b122 := Nat.le_trans Z121 (Nat.le_of_eq g122.symm)
  have sz_b122 : h0.size ≤ b122 := Nat.le_trans Z121h (Nat.le_of_eq g122.symm)
  have lt_b106_b122 : b106 < b122 := Nat.lt_of_lt_of_le c123.lt (Nat.le_of_eq g122.symm)
  have ne_b106_b122 : b106 ≠ b122 := Nat.ne_of_lt lt_b106_b122
  have lt_b114_b122 : b114 < b122 := Nat.lt_of_lt_of_le V120.lt (Nat.le_of_eq g122.symm)
  have ne_b114_b122 : b114 ≠ b122 := Nat.ne_of_lt lt_b114_b122
  have Z124 : n0 ≤ h122.size := Nat.le_trans Z121 E122.1
  have Z124h : h0.size ≤ h122.size := Nat.le_trans Z121h E122.1
  have F_first_b122 : Fld Z h122 b122 "dev/chainlatch/bucket/Order" "first" "I" (.int (0 : Int32)) := D122 (Or.inl (hw _ (List.mem_of_getElem? (i := 13) rfl))) (ty := .int) (by decide)
  have F_last_b122 : Fld Z h122 b122 "dev/chainlatch/bucket/Order" "last" "I" (.int (0 : Int32)) := D122 (Or.inl (hw _ (List.mem_of_getElem? (i := 15) rfl))) (ty := .int) (by decide)
  have F_before_b122 : Fld Z h122 b122 "dev/chainlatch/bucket/Order" "before" "[I" .null := D122 (Or.inl (hw _ (List.mem_of_getElem? (i := 17) rfl))) (ty := (.array .int)) (by decide)
  have F_after_b122 : Fld Z h122 b122 "dev/chainlatch/bucket/Order" "after" "[I" .null := D122 (Or.inl (hw _ (List.mem_of_getElem? (i := 19) rfl))) (ty := (.array .int)) (by decide)
  refine own_thr (a := T122.setTop (mkF m 242 #[.val (.int p0), .val (.int p1), .val (.int p2), .val (.int p3), .val (.int p4), .val (.int p5), .val (.int n), .val (.int s0), .val (.int d1), .val (.int tt), .val (.int d2), .val (.int s1), .val (.int s2), .val (.int (2 : Int32)), .val (.int (1 : Int32)), .val (.int (0 : Int32)), .val (.ref b106), .val (.ref b114), .unset, .unset] [(.ref b122)])) (fun t kt => st122 t kt) ?_
  refine own_thr (a := T122.setTop (mkF m 245 #[.val (.int p0), .val (.int p1), .val (.int p2), .val (.int p3), .val (.int p4), .val (.int p5), .val (.int n), .val (.int s0), .val (.int d1), .val (.int tt), .val (.int d2), .val (.int s1), .val (.int s2), .val (.int (2 : Int32)), .val (.int (1 : Int32)), .val (.int (0 : Int32)), .val (.ref b106), .val (.ref b114), .unset, .unset] [(.int n), (.ref b122), (.ref b122)])) (fun t kt => ?_) ?_
  · show Steps p.tables e below (T122.setTop (mkF m 242 #[.val (.int p0), .val (.int p1), .val (.int p2), .val (.int p3), .val (.int p4), .val (.int p5), .val (.int n), .val (.int s0), .val (.int d1), .val (.int tt), .val (.int d2), .val (.int s1), .val (.int s2), .val (.int (2 : Int32)), .val (.int (1 : Int32)), .val (.int (0 : Int32)), .val (.ref b106), .val (.ref b114), .unset, .unset] [(.ref b122)])) _
    refine XS.dup X122.here hx rfl (hb hby at_242) rfl rfl ?_
    refine XS.iload X122.here hx rfl (hb hby at_243) rfl ?_
    exact kt
  obtain ⟨_, _, ⟨T125, L125, k125, n125⟩, -, X125, ⟨Lc125, hQ125, l125, y125, z125⟩, st125⟩ := X122.specialBack hx (y := (⟨"dev/chainlatch/bucket/Order", "<init>", "(I)V"⟩ : MethodName)) rfl hown (mvT hZ (hw _ (List.mem_of_getElem? (i := 6) rfl))) (mvT hZ (hw _ (List.mem_of_getElem? (i := 7) rfl))) (mvT hZ (hw _ (List.mem_of_getElem? (i := 8) rfl))) (by decide) (backOf (W := 1) (rmI l Z a0 hw [] b122 n h122 n0 Z124 A122 F_first_b122 F_last_b122 F_before_b122 F_after_b122 g_b122 hn0 hn1) hZ (hw _ (List.mem_of_getElem? (i := 8) rfl)) (hw _ (List.mem_of_getElem? (i := 5) rfl)) (by decide) (by decide)) (g := (mkF m 245 #[.val (.int p0), .val (.int p1), .val (.int p2), .val (.int p3), .val (.int p4), .val (.int p5), .val (.int n), .val (.int s0), .val (.int d1), .val (.int tt), .val (.int d2), .val (.int s1), .val (.int s2), .val (.int (2 : Int32)), .val (.int (1 : Int32)), .val (.int (0 : Int32)), .val (.ref b106), .val (.ref b114), .unset, .unset] [(.int n), (.ref b122), (.ref b122)])) rfl (by rw [hml]; rfl) (Steps.refl _) (a := b122) (argsL := [(.int n)]) (rest := [(.ref b122)]) (lenOf pd__28I_29V rfl) rfl (by show 2 * 0 + _ ≤ _; exact Nat.le_of_eq rfl) (hb hby at_245) (fun _ _ => ⟨rfl, e122, (by decide : 3 + 2 ≤ _), (by decide : 10 + 20 ≤ _)⟩)
  dsimp only [Pt.U, Pt.locs, Pt.cells, Pt.slots] at X125 l125 y125 z125 st125 hQ125
  obtain ⟨B125, A125, rfl, N125q, K125, o125_e, o125_f, o125_l, o125_b, o125_a, o125_B, o125_A, hB125, hBA125⟩ := hQ125
  have ne_b106_B125 : b106 ≠ B125 := Nat.ne_of_lt (Nat.lt_of_lt_of_le (c123.ext E122).lt hB125)
  have ne_b106_A125 : b106 ≠ A125 := Nat.ne_of_lt (Nat.lt_trans (Nat.lt_of_lt_of_le (c123.ext E122).lt hB125) hBA125)
  have ne_b114_B125 : b114 ≠ B125 := Nat.ne_of_lt (Nat.lt_of_lt_of_le (V120.ext E122).lt hB125)
  have ne_b114_A125 : b114 ≠ A125 := Nat.ne_of_lt (Nat.lt_trans (Nat.lt_of_lt_of_le (V120.ext E122).lt hB125) hBA125)
  have ne_b122_B125 : b122 ≠ B125 := Nat.ne_of_lt (Nat.lt_of_lt_of_le A122.lt hB125)
  have ne_b122_A125 : b122 ≠ A125 := Nat.ne_of_lt (Nat.lt_trans (Nat.lt_of_lt_of_le A122.lt hB125) hBA125)
  have ne_B125_A125 : B125 ≠ A125 := Nat.ne_of_lt hBA125
  have g_B125 : n0 ≤ B125 := Nat.le_trans Z124 hB125
  have g_A125 : n0 ≤ A125 := Nat.le_trans g_B125 (Nat.le_of_lt hBA125)
  have Z126 : n0 ≤ T125.heap.size := Nat.le_trans Z124 K125.1
  have Z126h : h0.size ≤ T125.heap.size := Nat.le_trans Z124h K125.1
  obtain ⟨lc125, X125, N125⟩ := own_pack X125 l125 y125 z125 N120 N125q (C := 5) (S' := 30) rfl rfl
  refine own_thr (a := T125.setTop (mkF m 248 #[.val (.int p0), .val (.int p1), .val (.int p2), .val (.int p3), .val (.int p4), .val (.int p5), .val (.int n), .val (.int s0), .val (.int d1), .val (.int tt), .val (.int d2), .val (.int s1), .val (.int s2), .val (.int (2 : Int32)), .val (.int (1 : Int32)), .val (.int (0 : Int32)), .val (.ref b106), .val (.ref b114), .unset, .unset] [(.ref b122)])) (fun t kt => st125.trans kt) ?_
  refine own_thr (a := T125.setTop (mkF m 255 #[.val (.int p0), .val (.int p1), .val (.int p2), .val (.int p3), .val (.int p4), .val (.int p5), .val (.int n), .val (.int s0), .val (.int d1), .val (.int tt), .val (.int d2), .val (.int s1), .val (.int s2), .val (.int (2 : Int32)), .val (.int (1 : Int32)), .val (.int (0 : Int32)), .val (.ref b106), .val (.ref b114), .val (.ref b122), .unset] [(.int (0 : Int32)), (.ref b106), (.ref b122)])) (fun t kt => ?_) ?_
  · show Steps p.tables e below (T125.setTop (mkF m 248 #[.val (.int p0), .val (.int p1), .val (.int p2), .val (.int p3), .val (.int p4), .val (.int p5), .val (.int n), .val (.int s0), .val (.int d1), .val (.int tt), .val (.int d2), .val (.int s1), .val (.int s2), .val (.int (2 : Int32)), .val (.int (1 : Int32)), .val (.int (0 : Int32)), .val (.ref b106), .val (.ref b114), .unset, .unset] [(.ref b122)])) _
    refine XS.astore X125.here hx rfl (hb hby at_248) rfl rfl (l' := #[.val (.int p0), .val (.int p1), .val (.int p2), .val (.int p3), .val (.int p4), .val (.int p5), .val (.int n), .val (.int s0), .val (.int d1), .val (.int tt), .val (.int d2), .val (.int s1), .val (.int s2), .val (.int (2 : Int32)), .val (.int (1 : Int32)), .val (.int (0 : Int32)), .val (.ref b106), .val (.ref b114), .val (.ref b122), .unset]) rfl ?_
    refine XS.aload X125.here hx rfl (hb hby at_250) rfl rfl ?_
    refine XS.aload X125.here hx rfl (hb hby at_252) rfl rfl ?_
    refine XS.iconst X125.here hx rfl (hb hby at_254) ?_
    exact kt
  obtain ⟨cl127, Ar127, -, S127, M127, H127, -⟩ := id ((c123.ext E122).keep K125 (ninS ne_b106_b122 nin0))
  have hin127 : ¬ ((0 : Int32) < 0 ∨ cl127.slots.size ≤ ((0 : Int32)).toNatClampNeg) := inb_of S127 ⟨by decide, by decide⟩
  have hat127 : cl127.slots[((0 : Int32)).toNatClampNeg]? = some (.int s0) := Has.at H127 hin127 rfl
  refine own_thr (a := T125.setTop (mkF m 256 #[.val (.int p0), .val (.int p1), .val (.int p2), .val (.int p3), .val (.int p4), .val (.int p5), .val (.int n), .val (.int s0), .val (.int d1), .val (.int tt), .val (.int d2), .val (.int s1), .val (.int s2), .val (.int (2 : Int32)), .val (.int (1 : Int32)), .val (.int (0 : Int32)), .val (.ref b106), .val (.ref b114), .val (.ref b122), .unset] [(.int s0), (.ref b122)])) (fun t kt => ?_) ?_
  · show Steps p.tables e below (T125.setTop (mkF m 255 #[.val (.int p0), .val (.int p1), .val (.int p2), .val (.int p3), .val (.int p4), .val (.int p5), .val (.int n), .val (.int s0), .val (.int d1), .val (.int tt), .val (.int d2), .val (.int s1), .val (.int s2), .val (.int (2 : Int32)), .val (.int (1 : Int32)), .val (.int (0 : Int32)), .val (.ref b106), .val (.ref b114), .val (.ref b122), .unset] [(.int (0 : Int32)), (.ref b106), (.ref b122)])) _
    refine X125.iaload hx (j := (0 : Int32)) (v := (.int s0)) Ar127.1 (State.isArrayOf_alike hZ.alike Ar127.2.1) Ar127.2.2 hin127 hat127 (g := (mkF m 255 #[.val (.int p0), .val (.int p1), .val (.int p2), .val (.int p3), .val (.int p4), .val (.int p5), .val (.int n), .val (.int s0), .val (.int d1), .val (.int tt), .val (.int d2), .val (.int s1), .val (.int s2), .val (.int (2 : Int32)), .val (.int (1 : Int32)), .val (.int (0 : Int32)), .val (.ref b106), .val (.ref b114), .val (.ref b122), .unset] [(.int (0 : Int32)), (.ref b106), (.ref b122)])) rfl rfl (hb hby at_255) _ ?_
    exact kt
  obtain ⟨cq128, kq128, q128a, q128b, q128c⟩ := isOf hZ rfl o125_e
  obtain ⟨_, _, ⟨T128, L128, k128, n128⟩, -, X128, ⟨Lc128, hQ128, l128, y128, z128⟩, st128⟩ := X125.virtualBack hx (y := (⟨"dev/chainlatch/bucket/Order", "append", "(I)V"⟩ : MethodName)) (z := (⟨"dev/chainlatch/bucket/Order", "append", "(I)V"⟩ : MethodName)) hown (mvT hZ (hw _ (List.mem_of_getElem? (i := 20) rfl))) (mvT hZ (hw _ (List.mem_of_getElem? (i := 21) rfl))) (notFace_of_selects (args := #[]) (mvT hZ (hw _ (List.mem_of_getElem? (i := 23) rfl)))) (mvT hZ (hw _ (List.mem_of_getElem? (i := 23) rfl))) (mvT hZ (hw _ (List.mem_of_getElem? (i := 22) rfl))) (by decide) (backOf (W := 0) (rmA1 l Z a0 hw [] b122 s0 B125 A125 n (-1 : Int32) (-1 : Int32) (fun _ => 0) (fun _ => 0) T125.heap n0 Z126 o125_e o125_f o125_l o125_b o125_a o125_B o125_A g_b122 g_B125 g_A125 ne_b122_B125 ne_b122_A125 ne_B125_A125 hs00 hs01 rfl) hZ (hw _ (List.mem_of_getElem? (i := 24) rfl)) (hw _ (List.mem_of_getElem? (i := 5) rfl)) (by decide) (by decide)) q128a q128c (g := (mkF m 256 #[.val (.int p0), .val (.int p1), .val (.int p2), .val (.int p3), .val (.int p4), .val (.int p5), .val (.int n), .val (.int s0), .val (.int d1), .val (.int tt), .val (.int d2), .val (.int s1), .val (.int s2), .val (.int (2 : Int32)), .val (.int (1 : Int32)), .val (.int (0 : Int32)), .val (.ref b106), .val (.ref b114), .val (.ref b122), .unset] [(.int s0), (.ref b122)])) rfl (by rw [hml]; rfl) (Steps.refl _) (argsL := [(.int s0)]) (rest := []) (lenOf pd__28I_29V rfl) rfl (by show 2 * 0 + _ ≤ _; exact Nat.le_of_eq rfl) (hb hby at_256) (fun _ _ => ⟨rfl, rfl, (by decide : 5 + 0 ≤ _), (by decide : 30 + 0 ≤ _)⟩)
  dsimp only [Pt.U, Pt.locs, Pt.cells, Pt.slots] at X128 l128 y128 z128 st128 hQ128
  obtain ⟨rfl, N128q, K128, o128_0, o128_1, o128_2, o128_3, o128_4, o128_5, o128_6⟩ := hQ128
  have Z129 : n0 ≤ T128.heap.size := Nat.le_trans Z126 K128.1
  have Z129h : h0.size ≤ T128.heap.size := Nat.le_trans Z126h K128.1
  obtain ⟨lc128, X128, N128⟩ := own_pack X128 l128 y128 z128 N125 N128q (C := 5) (S' := 30) rfl rfl
  refine own_thr (a := T128.setTop (mkF m 259 #[.val (.int p0), .val (.int p1), .val (.int p2), .val (.int p3), .val (.int p4), .val (.int p5), .val (.int n), .val (.int s0), .val (.int d1), .val (.int tt), .val (.int d2), .val (.int s1), .val (.int s2), .val (.int (2 : Int32)), .val (.int (1 : Int32)), .val (.int (0 : Int32)), .val (.ref b106), .val (.ref b114), .val (.ref b122), .unset] [])) (fun t kt => st128.trans kt) ?_
  refine own_thr (a := T128.setTop (mkF m 270 #[.val (.int p0), .val (.int p1), .val (.int p2), .val (.int p3), .val (.int p4), .val (.int p5), .val (.int n), .val (.int s0), .val (.int d1), .val (.int tt), .val (.int d2), .val (.int s1), .val (.int s2), .val (.int (2 : Int32)), .val (.int (1 : Int32)), .val (.int (0 : Int32)), .val (.ref b106), .val (.ref b114), .val (.ref b122), .unset] [(.int (1 : Int32)), (.ref b106), (.ref b122)])) (fun t kt => ?_) ?_
  · show Steps p.tables e below (T128.setTop (mkF m 259 #[.val (.int p0), .val (.int p1), .val (.int p2), .val (.int p3), .val (.int p4), .val (.int p5), .val (.int n), .val (.int s0), .val (.int d1), .val (.int tt), .val (.int d2), .val (.int s1), .val (.int s2), .val (.int (2 : Int32)), .val (.int (1 : Int32)), .val (.int (0 : Int32)), .val (.ref b106), .val (.ref b114), .val (.ref b122), .unset] [])) _
    refine XS.iload X128.here hx rfl (hb hby at_259) rfl ?_
    refine XS.iconst X128.here hx rfl (hb hby at_261) ?_
    refine XS.icmpNo X128.here hx rfl (hb hby at_262) rfl (tlt (by decide)).2.2.2 ?_
    refine XS.aload X128.here hx rfl (hb hby at_265) rfl rfl ?_
    refine XS.aload X128.here hx rfl (hb hby at_267) rfl rfl ?_
    refine XS.iconst X128.here hx rfl (hb hby at_269) ?_
    exact kt
  have c131 := (((c123.ext E122).keep K125 (ninS ne_b106_b122 nin0)).keep K128 (ninS ne_b106_b122 (ninS ne_b106_B125 (ninS ne_b106_A125 nin0))))
  obtain ⟨cl130, Ar130, -, S130, M130, H130, -⟩ := id c131
  have hin130 : ¬ ((1 : Int32) < 0 ∨ cl130.slots.size ≤ ((1 : Int32)).toNatClampNeg) := inb_of S130 ⟨by decide, by decide⟩
  have hat130 : cl130.slots[((1 : Int32)).toNatClampNeg]? = some (.int s1) := Has.at H130 hin130 rfl
  refine own_thr (a := T128.setTop (mkF m 271 #[.val (.int p0), .val (.int p1), .val (.int p2), .val (.int p3), .val (.int p4), .val (.int p5), .val (.int n), .val (.int s0), .val (.int d1), .val (.int tt), .val (.int d2), .val (.int s1), .val (.int s2), .val (.int (2 : Int32)), .val (.int (1 : Int32)), .val (.int (0 : Int32)), .val (.ref b106), .val (.ref b114), .val (.ref b122), .unset] [(.int s1), (.ref b122)])) (fun t kt => ?_) ?_
  · show Steps p.tables e below (T128.setTop (mkF m 270 #[.val (.int p0), .val (.int p1), .val (.int p2), .val (.int p3), .val (.int p4), .val (.int p5), .val (.int n), .val (.int s0), .val (.int d1), .val (.int tt), .val (.int d2), .val (.int s1), .val (.int s2), .val (.int (2 : Int32)), .val (.int (1 : Int32)), .val (.int (0 : Int32)), .val (.ref b106), .val (.ref b114), .val (.ref b122), .unset] [(.int (1 : Int32)), (.ref b106), (.ref b122)])) _
    refine X128.iaload hx (j := (1 : Int32)) (v := (.int s1)) Ar130.1 (State.isArrayOf_alike hZ.alike Ar130.2.1) Ar130.2.2 hin130 hat130 (g := (mkF m 270 #[.val (.int p0), .val (.int p1), .val (.int p2), .val (.int p3), .val (.int p4), .val (.int p5), .val (.int n), .val (.int s0), .val (.int d1), .val (.int tt), .val (.int d2), .val (.int s1), .val (.int s2), .val (.int (2 : Int32)), .val (.int (1 : Int32)), .val (.int (0 : Int32)), .val (.ref b106), .val (.ref b114), .val (.ref b122), .unset] [(.int (1 : Int32)), (.ref b106), (.ref b122)])) rfl rfl (hb hby at_270) _ ?_
    exact kt
  obtain ⟨cq132, kq132, q132a, q132b, q132c⟩ := isOf hZ rfl o128_0
  obtain ⟨_, _, ⟨T132, L132, k132, n132⟩, -, X132, ⟨Lc132, hQ132, l132, y132, z132⟩, st132⟩ := X128.virtualBack hx (y := (⟨"dev/chainlatch/bucket/Order", "append", "(I)V"⟩ : MethodName)) (z := (⟨"dev/chainlatch/bucket/Order", "append", "(I)V"⟩ : MethodName)) hown (mvT hZ (hw _ (List.mem_of_getElem? (i := 20) rfl))) (mvT hZ (hw _ (List.mem_of_getElem? (i := 21) rfl))) (notFace_of_selects (args := #[]) (mvT hZ (hw _ (List.mem_of_getElem? (i := 23) rfl)))) (mvT hZ (hw _ (List.mem_of_getElem? (i := 23) rfl))) (mvT hZ (hw _ (List.mem_of_getElem? (i := 22) rfl))) (by decide) (backOf (W := 0) (rmA2 l Z a0 hw [] b122 s1 B125 A125 n s0 s0 (own_up (fun _ => 0) s0 ((-1 : Int32) + (1 : Int32))) (own_up (fun _ => 0) s0 (0 : Int32)) T128.heap n0 Z129 o128_0 o128_1 o128_2 o128_3 o128_4 o128_5 o128_6 g_b122 g_B125 g_A125 ne_b122_B125 ne_b122_A125 ne_B125_A125 hs10 hs11 hs00 hs01) hZ (hw _ (List.mem_of_getElem? (i := 24) rfl)) (hw _ (List.mem_of_getElem? (i := 5) rfl)) (by decide) (by decide)) q132a q132c (g := (mkF m 271 #[.val (.int p0), .val (.int p1), .val (.int p2), .val (.int p3), .val (.int p4), .val (.int p5), .val (.int n), .val (.int s0), .val (.int d1), .val (.int tt), .val (.int d2), .val (.int s1), .val (.int s2), .val (.int (2 : Int32)), .val (.int (1 : Int32)), .val (.int (0 : Int32)), .val (.ref b106), .val (.ref b114), .val (.ref b122), .unset] [(.int s1), (.ref b122)])) rfl (by rw [hml]; rfl) (Steps.refl _) (argsL := [(.int s1)]) (rest := []) (lenOf pd__28I_29V rfl) rfl (by show 2 * 0 + _ ≤ _; exact Nat.le_of_eq rfl) (hb hby at_271) (fun _ _ => ⟨rfl, rfl, (by decide : 5 + 0 ≤ _), (by decide : 30 + 0 ≤ _)⟩)
  dsimp only [Pt.U, Pt.locs, Pt.cells, Pt.slots] at X132 l132 y132 z132 st132 hQ132
  obtain ⟨rfl, N132q, K132, o132_0, o132_1, o132_2, o132_3, o132_4, o132_5, o132_6⟩ := hQ132
  have Z133 : n0 ≤ T132.heap.size := Nat.le_trans Z129 K132.1
  have Z133h : h0.size ≤ T132.heap.size := Nat.le_trans Z129h K132.1
  obtain ⟨lc132, X132, N132⟩ := own_pack X132 l132 y132 z132 N128 N132q (C := 5) (S' := 30) rfl rfl
  refine own_thr (a := T132.setTop (mkF m 274 #[.val (.int p0), .val (.int p1), .val (.int p2), .val (.int p3), .val (.int p4), .val (.int p5), .val (.int n), .val (.int s0), .val (.int d1), .val (.int tt), .val (.int d2), .val (.int s1), .val (.int s2), .val (.int (2 : Int32)), .val (.int (1 : Int32)), .val (.int (0 : Int32)), .val (.ref b106), .val (.ref b114), .val (.ref b122), .unset] [])) (fun t kt => st132.trans kt) ?_
  refine own_thr (a := T132.setTop (mkF m 300 #[.val (.int p0), .val (.int p1), .val (.int p2), .val (.int p3), .val (.int p4), .val (.int p5), .val (.int n), .val (.int s0), .val (.int d1), .val (.int tt), .val (.int d2), .val (.int s1), .val (.int s2), .val (.int (2 : Int32)), .val (.int (1 : Int32)), .val (.int (0 : Int32)), .val (.ref b106), .val (.ref b114), .val (.ref b122), .unset] [(.int (0 : Int32)), (.ref b106), (.ref b122)])) (fun t kt => ?_) ?_
  · show Steps p.tables e below (T132.setTop (mkF m 274 #[.val (.int p0), .val (.int p1), .val (.int p2), .val (.int p3), .val (.int p4), .val (.int p5), .val (.int n), .val (.int s0), .val (.int d1), .val (.int tt), .val (.int d2), .val (.int s1), .val (.int s2), .val (.int (2 : Int32)), .val (.int (1 : Int32)), .val (.int (0 : Int32)), .val (.ref b106), .val (.ref b114), .val (.ref b122), .unset] [])) _
    refine XS.iload X132.here hx rfl (hb hby at_274) rfl ?_
    refine XS.iconst X132.here hx rfl (hb hby at_276) ?_
    refine XS.icmpYes X132.here hx rfl (pc0 := 277) (pc' := 289) rfl (hb hby at_277) rfl (flt (by decide)).2.2.2 (by decide) (by decide) ?_
    refine XS.iload X132.here hx rfl (hb hby at_289) rfl ?_
    refine XS.ifNo X132.here hx rfl (hb hby at_291) rfl ((if0 _ _).trans (feq (by decide)).1) ?_
    refine XS.aload X132.here hx rfl (hb hby at_294) rfl rfl ?_
    refine XS.aload X132.here hx rfl (hb hby at_296) rfl rfl ?_
    refine XS.iload X132.here hx rfl (hb hby at_298) rfl ?_
    exact kt
  have c135 := (c131.keep K132 (ninS ne_b106_b122 (ninS ne_b106_B125 (ninS ne_b106_A125 nin0))))
  obtain ⟨cl134, Ar134, -, S134, M134, H134, -⟩ := id c135
  have hin134 : ¬ ((0 : Int32) < 0 ∨ cl134.slots.size ≤ ((0 : Int32)).toNatClampNeg) := inb_of S134 ⟨by decide, by decide⟩
  have hat134 : cl134.slots[((0 : Int32)).toNatClampNeg]? = some (.int s0) := Has.at H134 hin134 rfl
  refine own_thr (a := T132.setTop (mkF m 301 #[.val (.int p0), .val (.int p1), .val (.int p2), .val (.int p3), .val (.int p4), .val (.int p5), .val (.int n), .val (.int s0), .val (.int d1), .val (.int tt), .val (.int d2), .val (.int s1), .val (.int s2), .val (.int (2 : Int32)), .val (.int (1 : Int32)), .val (.int (0 : Int32)), .val (.ref b106), .val (.ref b114), .val (.ref b122), .unset] [(.int s0), (.ref b122)])) (fun t kt => ?_) ?_
  · show Steps p.tables e below (T132.setTop (mkF m 300 #[.val (.int p0), .val (.int p1), .val (.int p2), .val (.int p3), .val (.int p4), .val (.int p5), .val (.int n), .val (.int s0), .val (.int d1), .val (.int tt), .val (.int d2), .val (.int s1), .val (.int s2), .val (.int (2 : Int32)), .val (.int (1 : Int32)), .val (.int (0 : Int32)), .val (.ref b106), .val (.ref b114), .val (.ref b122), .unset] [(.int (0 : Int32)), (.ref b106), (.ref b122)])) _
    refine X132.iaload hx (j := (0 : Int32)) (v := (.int s0)) Ar134.1 (State.isArrayOf_alike hZ.alike Ar134.2.1) Ar134.2.2 hin134 hat134 (g := (mkF m 300 #[.val (.int p0), .val (.int p1), .val (.int p2), .val (.int p3), .val (.int p4), .val (.int p5), .val (.int n), .val (.int s0), .val (.int d1), .val (.int tt), .val (.int d2), .val (.int s1), .val (.int s2), .val (.int (2 : Int32)), .val (.int (1 : Int32)), .val (.int (0 : Int32)), .val (.ref b106), .val (.ref b114), .val (.ref b122), .unset] [(.int (0 : Int32)), (.ref b106), (.ref b122)])) rfl rfl (hb hby at_300) _ ?_
    exact kt
  obtain ⟨cq136, kq136, q136a, q136b, q136c⟩ := isOf hZ rfl o132_0
  obtain ⟨_, _, ⟨T136, L136, k136, n136⟩, -, X136, ⟨Lc136, hQ136, l136, y136, z136⟩, st136⟩ := X132.virtualBack hx (y := (⟨"dev/chainlatch/bucket/Order", "remove", "(I)V"⟩ : MethodName)) (z := (⟨"dev/chainlatch/bucket/Order", "remove", "(I)V"⟩ : MethodName)) hown (mvT hZ (hw _ (List.mem_of_getElem? (i := 25) rfl))) (mvT hZ (hw _ (List.mem_of_getElem? (i := 26) rfl))) (notFace_of_selects (args := #[]) (mvT hZ (hw _ (List.mem_of_getElem? (i := 28) rfl)))) (mvT hZ (hw _ (List.mem_of_getElem? (i := 28) rfl))) (mvT hZ (hw _ (List.mem_of_getElem? (i := 27) rfl))) (by decide) (backOf (W := 0) (rmR01 l Z a0 hw [] b122 s0 B125 A125 n s0 s1 (own_up (own_up (fun _ => 0) s0 ((-1 : Int32) + (1 : Int32))) s1 (s0 + (1 : Int32))) (own_up (own_up (own_up (fun _ => 0) s0 (0 : Int32)) s1 (0 : Int32)) s0 (s1 + (1 : Int32))) T132.heap n0 Z133 o132_0 o132_1 o132_2 o132_3 o132_4 o132_5 o132_6 g_b122 g_B125 g_A125 ne_b122_B125 ne_b122_A125 ne_B125_A125 hs00 hs01 (by simp [own_up, own_as, n01, n10, n02, n20, n12, n21] : (((own_up (own_up (fun _ => 0) s0 ((-1 : Int32) + (1 : Int32))) s1 (s0 + (1 : Int32))) s0) - (1 : Int32)) = (-1 : Int32)) (by rw [show (((own_up (own_up (own_up (fun _ => 0) s0 (0 : Int32)) s1 (0 : Int32)) s0 (s1 + (1 : Int32))) s0) - (1 : Int32)) = s1 by simp [own_up, own_as, n01, n10, n02, n20, n12, n21]]; exact hs10) (by rw [show (((own_up (own_up (own_up (fun _ => 0) s0 (0 : Int32)) s1 (0 : Int32)) s0 (s1 + (1 : Int32))) s0) - (1 : Int32)) = s1 by simp [own_up, own_as, n01, n10, n02, n20, n12, n21]]; exact hs11)) hZ (hw _ (List.mem_of_getElem? (i := 29) rfl)) (hw _ (List.mem_of_getElem? (i := 5) rfl)) (by decide) (by decide)) q136a q136c (g := (mkF m 301 #[.val (.int p0), .val (.int p1), .val (.int p2), .val (.int p3), .val (.int p4), .val (.int p5), .val (.int n), .val (.int s0), .val (.int d1), .val (.int tt), .val (.int d2), .val (.int s1), .val (.int s2), .val (.int (2 : Int32)), .val (.int (1 : Int32)), .val (.int (0 : Int32)), .val (.ref b106), .val (.ref b114), .val (.ref b122), .unset] [(.int s0), (.ref b122)])) rfl (by rw [hml]; rfl) (Steps.refl _) (argsL := [(.int s0)]) (rest := []) (lenOf pd__28I_29V rfl) rfl (by show 2 * 0 + _ ≤ _; exact Nat.le_of_eq rfl) (hb hby at_301) (fun _ _ => ⟨rfl, rfl, (by decide : 5 + 0 ≤ _), (by decide : 30 + 0 ≤ _)⟩)
  dsimp only [Pt.U, Pt.locs, Pt.cells, Pt.slots] at X136 l136 y136 z136 st136 hQ136
  obtain ⟨rfl, N136q, K136, o136_0, o136_1, o136_2, o136_3, o136_4, o136_5, o136_6⟩ := hQ136
  have Z137 : n0 ≤ T136.heap.size := Nat.le_trans Z133 K136.1
  have Z137h : h0.size ≤ T136.heap.size := Nat.le_trans Z133h K136.1
  obtain ⟨lc136, X136, N136⟩ := own_pack X136 l136 y136 z136 N132 N136q (C := 5) (S' := 30) rfl rfl
  refine own_thr (a := T136.setTop (mkF m 304 #[.val (.int p0), .val (.int p1), .val (.int p2), .val (.int p3), .val (.int p4), .val (.int p5), .val (.int n), .val (.int s0), .val (.int d1), .val (.int tt), .val (.int d2), .val (.int s1), .val (.int s2), .val (.int (2 : Int32)), .val (.int (1 : Int32)), .val (.int (0 : Int32)), .val (.ref b106), .val (.ref b114), .val (.ref b122), .unset] [])) (fun t kt => st136.trans kt) ?_
  have el_first : (((own_up (own_up (own_up (fun _ => 0) s0 (0 : Int32)) s1 (0 : Int32)) s0 (s1 + (1 : Int32))) s0) - (1 : Int32)) = s1 := by simp [own_up, own_as, n01, n10, n02, n20, n12, n21]
  rw [el_first] at o136_1
  refine own_thr (a := T136.setTop (mkF m 310 #[.val (.int p0), .val (.int p1), .val (.int p2), .val (.int p3), .val (.int p4), .val (.int p5), .val (.int n), .val (.int s0), .val (.int d1), .val (.int tt), .val (.int d2), .val (.int s1), .val (.int s2), .val (.int (2 : Int32)), .val (.int (1 : Int32)), .val (.int (0 : Int32)), .val (.ref b106), .val (.ref b114), .val (.ref b122), .unset] [(.int (0 : Int32)), (.ref b106), (.ref b122)])) (fun t kt => ?_) ?_
  · show Steps p.tables e below (T136.setTop (mkF m 304 #[.val (.int p0), .val (.int p1), .val (.int p2), .val (.int p3), .val (.int p4), .val (.int p5), .val (.int n), .val (.int s0), .val (.int d1), .val (.int tt), .val (.int d2), .val (.int s1), .val (.int s2), .val (.int (2 : Int32)), .val (.int (1 : Int32)), .val (.int (0 : Int32)), .val (.ref b106), .val (.ref b114), .val (.ref b122), .unset] [])) _
    refine XS.aload X136.here hx rfl (hb hby at_304) rfl rfl ?_
    refine XS.aload X136.here hx rfl (hb hby at_306) rfl rfl ?_
    refine XS.iload X136.here hx rfl (hb hby at_308) rfl ?_
    exact kt
  have c139 := (c135.keep K136 (ninS ne_b106_b122 (ninS ne_b106_B125 (ninS ne_b106_A125 nin0))))
  obtain ⟨cl138, Ar138, -, S138, M138, H138, -⟩ := id c139
  have hin138 : ¬ ((0 : Int32) < 0 ∨ cl138.slots.size ≤ ((0 : Int32)).toNatClampNeg) := inb_of S138 ⟨by decide, by decide⟩
  have hat138 : cl138.slots[((0 : Int32)).toNatClampNeg]? = some (.int s0) := Has.at H138 hin138 rfl
  refine own_thr (a := T136.setTop (mkF m 311 #[.val (.int p0), .val (.int p1), .val (.int p2), .val (.int p3), .val (.int p4), .val (.int p5), .val (.int n), .val (.int s0), .val (.int d1), .val (.int tt), .val (.int d2), .val (.int s1), .val (.int s2), .val (.int (2 : Int32)), .val (.int (1 : Int32)), .val (.int (0 : Int32)), .val (.ref b106), .val (.ref b114), .val (.ref b122), .unset] [(.int s0), (.ref b122)])) (fun t kt => ?_) ?_
  · show Steps p.tables e below (T136.setTop (mkF m 310 #[.val (.int p0), .val (.int p1), .val (.int p2), .val (.int p3), .val (.int p4), .val (.int p5), .val (.int n), .val (.int s0), .val (.int d1), .val (.int tt), .val (.int d2), .val (.int s1), .val (.int s2), .val (.int (2 : Int32)), .val (.int (1 : Int32)), .val (.int (0 : Int32)), .val (.ref b106), .val (.ref b114), .val (.ref b122), .unset] [(.int (0 : Int32)), (.ref b106), (.ref b122)])) _
    refine X136.iaload hx (j := (0 : Int32)) (v := (.int s0)) Ar138.1 (State.isArrayOf_alike hZ.alike Ar138.2.1) Ar138.2.2 hin138 hat138 (g := (mkF m 310 #[.val (.int p0), .val (.int p1), .val (.int p2), .val (.int p3), .val (.int p4), .val (.int p5), .val (.int n), .val (.int s0), .val (.int d1), .val (.int tt), .val (.int d2), .val (.int s1), .val (.int s2), .val (.int (2 : Int32)), .val (.int (1 : Int32)), .val (.int (0 : Int32)), .val (.ref b106), .val (.ref b114), .val (.ref b122), .unset] [(.int (0 : Int32)), (.ref b106), (.ref b122)])) rfl rfl (hb hby at_310) _ ?_
    exact kt
  obtain ⟨cq140, kq140, q140a, q140b, q140c⟩ := isOf hZ rfl o136_0
  obtain ⟨_, _, ⟨T140, L140, k140, n140⟩, -, X140, ⟨Lc140, hQ140, l140, y140, z140⟩, st140⟩ := X136.virtualBack hx (y := (⟨"dev/chainlatch/bucket/Order", "append", "(I)V"⟩ : MethodName)) (z := (⟨"dev/chainlatch/bucket/Order", "append", "(I)V"⟩ : MethodName)) hown (mvT hZ (hw _ (List.mem_of_getElem? (i := 20) rfl))) (mvT hZ (hw _ (List.mem_of_getElem? (i := 21) rfl))) (notFace_of_selects (args := #[]) (mvT hZ (hw _ (List.mem_of_getElem? (i := 23) rfl)))) (mvT hZ (hw _ (List.mem_of_getElem? (i := 23) rfl))) (mvT hZ (hw _ (List.mem_of_getElem? (i := 22) rfl))) (by decide) (backOf (W := 0) (rmA2 l Z a0 hw [] b122 s0 B125 A125 n s1 s1 (own_up (own_up (own_up (own_up (fun _ => 0) s0 ((-1 : Int32) + (1 : Int32))) s1 (s0 + (1 : Int32))) (((own_up (own_up (own_up (fun _ => 0) s0 (0 : Int32)) s1 (0 : Int32)) s0 (s1 + (1 : Int32))) s0) - (1 : Int32)) ((((own_up (own_up (fun _ => 0) s0 ((-1 : Int32) + (1 : Int32))) s1 (s0 + (1 : Int32))) s0) - (1 : Int32)) + (1 : Int32))) s0 (0 : Int32)) (own_up (own_up (own_up (own_up (fun _ => 0) s0 (0 : Int32)) s1 (0 : Int32)) s0 (s1 + (1 : Int32))) s0 (0 : Int32)) T136.heap n0 Z137 o136_0 o136_1 o136_2 o136_3 o136_4 o136_5 o136_6 g_b122 g_B125 g_A125 ne_b122_B125 ne_b122_A125 ne_B125_A125 hs00 hs01 hs10 hs11) hZ (hw _ (List.mem_of_getElem? (i := 24) rfl)) (hw _ (List.mem_of_getElem? (i := 5) rfl)) (by decide) (by decide)) q140a q140c (g := (mkF m 311 #[.val (.int p0), .val (.int p1), .val (.int p2), .val (.int p3), .val (.int p4), .val (.int p5), .val (.int n), .val (.int s0), .val (.int d1), .val (.int tt), .val (.int d2), .val (.int s1), .val (.int s2), .val (.int (2 : Int32)), .val (.int (1 : Int32)), .val (.int (0 : Int32)), .val (.ref b106), .val (.ref b114), .val (.ref b122), .unset] [(.int s0), (.ref b122)])) rfl (by rw [hml]; rfl) (Steps.refl _) (argsL := [(.int s0)]) (rest := []) (lenOf pd__28I_29V rfl) rfl (by show 2 * 0 + _ ≤ _; exact Nat.le_of_eq rfl) (hb hby at_311) (fun _ _ => ⟨rfl, rfl, (by decide : 5 + 0 ≤ _), (by decide : 30 + 0 ≤ _)⟩)
  dsimp only [Pt.U, Pt.locs, Pt.cells, Pt.slots] at X140 l140 y140 z140 st140 hQ140
  obtain ⟨rfl, N140q, K140, o140_0, o140_1, o140_2, o140_3, o140_4, o140_5, o140_6⟩ := hQ140
  have Z141 : n0 ≤ T140.heap.size := Nat.le_trans Z137 K140.1
  have Z141h : h0.size ≤ T140.heap.size := Nat.le_trans Z137h K140.1
  obtain ⟨lc140, X140, N140⟩ := own_pack X140 l140 y140 z140 N136 N140q (C := 5) (S' := 30) rfl rfl
  refine own_thr (a := T140.setTop (mkF m 314 #[.val (.int p0), .val (.int p1), .val (.int p2), .val (.int p3), .val (.int p4), .val (.int p5), .val (.int n), .val (.int s0), .val (.int d1), .val (.int tt), .val (.int d2), .val (.int s1), .val (.int s2), .val (.int (2 : Int32)), .val (.int (1 : Int32)), .val (.int (0 : Int32)), .val (.ref b106), .val (.ref b114), .val (.ref b122), .unset] [])) (fun t kt => st140.trans kt) ?_
  refine own_thr (a := T140.setTop (mkF m 316 #[.val (.int p0), .val (.int p1), .val (.int p2), .val (.int p3), .val (.int p4), .val (.int p5), .val (.int n), .val (.int s0), .val (.int d1), .val (.int tt), .val (.int d2), .val (.int s1), .val (.int s2), .val (.int (2 : Int32)), .val (.int (1 : Int32)), .val (.int (0 : Int32)), .val (.ref b106), .val (.ref b114), .val (.ref b122), .unset] [(.ref b122)])) (fun t kt => ?_) ?_
  · show Steps p.tables e below (T140.setTop (mkF m 314 #[.val (.int p0), .val (.int p1), .val (.int p2), .val (.int p3), .val (.int p4), .val (.int p5), .val (.int n), .val (.int s0), .val (.int d1), .val (.int tt), .val (.int d2), .val (.int s1), .val (.int s2), .val (.int (2 : Int32)), .val (.int (1 : Int32)), .val (.int (0 : Int32)), .val (.ref b106), .val (.ref b114), .val (.ref b122), .unset] [])) _
    refine XS.aload X140.here hx rfl (hb hby at_314) rfl rfl ?_
    exact kt
  obtain ⟨cq142, kq142, q142a, q142b, q142c⟩ := isOf hZ rfl o140_0
  obtain ⟨_, _, ⟨T142, L142, k142, n142⟩, -, X142, ⟨Lc142, hQ142, l142, y142, z142⟩, st142⟩ := X140.virtualBack hx (y := (⟨"dev/chainlatch/bucket/Order", "first", "()I"⟩ : MethodName)) (z := (⟨"dev/chainlatch/bucket/Order", "first", "()I"⟩ : MethodName)) hown (mvT hZ (hw _ (List.mem_of_getElem? (i := 34) rfl))) (mvT hZ (hw _ (List.mem_of_getElem? (i := 35) rfl))) (notFace_of_selects (args := #[]) (mvT hZ (hw _ (List.mem_of_getElem? (i := 37) rfl)))) (mvT hZ (hw _ (List.mem_of_getElem? (i := 37) rfl))) (mvT hZ (hw _ (List.mem_of_getElem? (i := 36) rfl))) (by decide) (backOf (W := 0) (rmF l Z a0 hw [] b122 s1 T140.heap n0 Z141 o140_1) hZ (hw _ (List.mem_of_getElem? (i := 38) rfl)) (hw _ (List.mem_of_getElem? (i := 5) rfl)) (by decide) (by decide)) q142a q142c (g := (mkF m 316 #[.val (.int p0), .val (.int p1), .val (.int p2), .val (.int p3), .val (.int p4), .val (.int p5), .val (.int n), .val (.int s0), .val (.int d1), .val (.int tt), .val (.int d2), .val (.int s1), .val (.int s2), .val (.int (2 : Int32)), .val (.int (1 : Int32)), .val (.int (0 : Int32)), .val (.ref b106), .val (.ref b114), .val (.ref b122), .unset] [(.ref b122)])) rfl (by rw [hml]; rfl) (Steps.refl _) (argsL := []) (rest := []) (lenOf pd__28_29I rfl) rfl (by show 2 * 0 + _ ≤ _; exact Nat.le_of_eq rfl) (hb hby at_316) (fun _ _ => ⟨rfl, rfl, (by decide : 5 + 0 ≤ _), (by decide : 30 + 0 ≤ _)⟩)
  dsimp only [Pt.U, Pt.locs, Pt.cells, Pt.slots] at X142 l142 y142 z142 st142 hQ142
  obtain ⟨rfl, N142q, e142⟩ := hQ142
  obtain ⟨lc142, X142, N142⟩ := own_pack X142 l142 y142 z142 N140 N142q (C := 5) (S' := 30) rfl rfl
  refine own_thr (a := T142.setTop (mkF m 319 #[.val (.int p0), .val (.int p1), .val (.int p2), .val (.int p3), .val (.int p4), .val (.int p5), .val (.int n), .val (.int s0), .val (.int d1), .val (.int tt), .val (.int d2), .val (.int s1), .val (.int s2), .val (.int (2 : Int32)), .val (.int (1 : Int32)), .val (.int (0 : Int32)), .val (.ref b106), .val (.ref b114), .val (.ref b122), .unset] [(.int s1)])) (fun t kt => st142.trans kt) ?_
  refine own_thr (a := T142.setTop (mkF m 322 #[.val (.int p0), .val (.int p1), .val (.int p2), .val (.int p3), .val (.int p4), .val (.int p5), .val (.int n), .val (.int s0), .val (.int d1), .val (.int tt), .val (.int d2), .val (.int s1), .val (.int s2), .val (.int (2 : Int32)), .val (.int (1 : Int32)), .val (.int (0 : Int32)), .val (.ref b106), .val (.ref b114), .val (.ref b122), .unset] [(.int (0 : Int32)), (.ref b114), (.int s1)])) (fun t kt => ?_) ?_
  · show Steps p.tables e below (T142.setTop (mkF m 319 #[.val (.int p0), .val (.int p1), .val (.int p2), .val (.int p3), .val (.int p4), .val (.int p5), .val (.int n), .val (.int s0), .val (.int d1), .val (.int tt), .val (.int d2), .val (.int s1), .val (.int s2), .val (.int (2 : Int32)), .val (.int (1 : Int32)), .val (.int (0 : Int32)), .val (.ref b106), .val (.ref b114), .val (.ref b122), .unset] [(.int s1)])) _
    refine XS.aload X142.here hx rfl (hb hby at_319) rfl rfl ?_
    refine XS.iconst X142.here hx rfl (hb hby at_321) ?_
    exact kt
  have c144 := ((((((V120.ext E122).keep K125 (ninS ne_b114_b122 nin0)).keep K128 (ninS ne_b114_b122 (ninS ne_b114_B125 (ninS ne_b114_A125 nin0)))).keep K132 (ninS ne_b114_b122 (ninS ne_b114_B125 (ninS ne_b114_A125 nin0)))).keep K136 (ninS ne_b114_b122 (ninS ne_b114_B125 (ninS ne_b114_A125 nin0)))).keep K140 (ninS ne_b114_b122 (ninS ne_b114_B125 (ninS ne_b114_A125 nin0))))
  obtain ⟨cl143, Ar143, -, S143, M143, H143, -⟩ := id c144
  have hin143 : ¬ ((0 : Int32) < 0 ∨ cl143.slots.size ≤ ((0 : Int32)).toNatClampNeg) := inb_of S143 ⟨by decide, by decide⟩
  have hat143 : cl143.slots[((0 : Int32)).toNatClampNeg]? = some (.int s1) := Has.at H143 hin143 rfl
  refine own_thr (a := T142.setTop (mkF m 343 #[.val (.int p0), .val (.int p1), .val (.int p2), .val (.int p3), .val (.int p4), .val (.int p5), .val (.int n), .val (.int s0), .val (.int d1), .val (.int tt), .val (.int d2), .val (.int s1), .val (.int s2), .val (.int (2 : Int32)), .val (.int (1 : Int32)), .val (.int (0 : Int32)), .val (.ref b106), .val (.ref b114), .val (.ref b122), .val (.int (1 : Int32))] [(.int (0 : Int32)), (.ref b114), (.ref b122)])) (fun t kt => ?_) ?_
  · show Steps p.tables e below (T142.setTop (mkF m 322 #[.val (.int p0), .val (.int p1), .val (.int p2), .val (.int p3), .val (.int p4), .val (.int p5), .val (.int n), .val (.int s0), .val (.int d1), .val (.int tt), .val (.int d2), .val (.int s1), .val (.int s2), .val (.int (2 : Int32)), .val (.int (1 : Int32)), .val (.int (0 : Int32)), .val (.ref b106), .val (.ref b114), .val (.ref b122), .unset] [(.int (0 : Int32)), (.ref b114), (.int s1)])) _
    refine X142.iaload hx (j := (0 : Int32)) (v := (.int s1)) (by rw [e142]; exact Ar143.1) (State.isArrayOf_alike hZ.alike Ar143.2.1) Ar143.2.2 hin143 hat143 (g := (mkF m 322 #[.val (.int p0), .val (.int p1), .val (.int p2), .val (.int p3), .val (.int p4), .val (.int p5), .val (.int n), .val (.int s0), .val (.int d1), .val (.int tt), .val (.int d2), .val (.int s1), .val (.int s2), .val (.int (2 : Int32)), .val (.int (1 : Int32)), .val (.int (0 : Int32)), .val (.ref b106), .val (.ref b114), .val (.ref b122), .unset] [(.int (0 : Int32)), (.ref b114), (.int s1)])) rfl rfl (hb hby at_322) _ ?_
    refine XS.icmpNo X142.here hx rfl (hb hby at_323) rfl (teq (by simp [own_up, own_as, n01, n10, n02, n20, n12, n21])).2 ?_
    refine XS.iconst X142.here hx rfl (hb hby at_326) ?_
    refine XS.goto X142.here hx rfl (pc0 := 327) (pc' := 331) rfl (hb hby at_327) (by decide) (by decide) ?_
    refine XS.istore X142.here hx rfl (hb hby at_331) rfl (l' := #[.val (.int p0), .val (.int p1), .val (.int p2), .val (.int p3), .val (.int p4), .val (.int p5), .val (.int n), .val (.int s0), .val (.int d1), .val (.int tt), .val (.int d2), .val (.int s1), .val (.int s2), .val (.int (2 : Int32)), .val (.int (1 : Int32)), .val (.int (0 : Int32)), .val (.ref b106), .val (.ref b114), .val (.ref b122), .val (.int (1 : Int32))]) rfl ?_
    refine XS.iload X142.here hx rfl (hb hby at_333) rfl ?_
    refine XS.ifNo X142.here hx rfl (hb hby at_335) rfl ((if0 _ _).trans (feq (by decide)).1) ?_
    refine XS.aload X142.here hx rfl (hb hby at_338) rfl rfl ?_
    refine XS.aload X142.here hx rfl (hb hby at_340) rfl rfl ?_
    refine XS.iconst X142.here hx rfl (hb hby at_342) ?_
    exact kt
  obtain ⟨cl145, Ar145, -, S145, M145, H145, -⟩ := id c144
  have hin145 : ¬ ((0 : Int32) < 0 ∨ cl145.slots.size ≤ ((0 : Int32)).toNatClampNeg) := inb_of S145 ⟨by decide, by decide⟩
  have hat145 : cl145.slots[((0 : Int32)).toNatClampNeg]? = some (.int s1) := Has.at H145 hin145 rfl
  refine own_thr (a := T142.setTop (mkF m 344 #[.val (.int p0), .val (.int p1), .val (.int p2), .val (.int p3), .val (.int p4), .val (.int p5), .val (.int n), .val (.int s0), .val (.int d1), .val (.int tt), .val (.int d2), .val (.int s1), .val (.int s2), .val (.int (2 : Int32)), .val (.int (1 : Int32)), .val (.int (0 : Int32)), .val (.ref b106), .val (.ref b114), .val (.ref b122), .val (.int (1 : Int32))] [(.int s1), (.ref b122)])) (fun t kt => ?_) ?_
  · show Steps p.tables e below (T142.setTop (mkF m 343 #[.val (.int p0), .val (.int p1), .val (.int p2), .val (.int p3), .val (.int p4), .val (.int p5), .val (.int n), .val (.int s0), .val (.int d1), .val (.int tt), .val (.int d2), .val (.int s1), .val (.int s2), .val (.int (2 : Int32)), .val (.int (1 : Int32)), .val (.int (0 : Int32)), .val (.ref b106), .val (.ref b114), .val (.ref b122), .val (.int (1 : Int32))] [(.int (0 : Int32)), (.ref b114), (.ref b122)])) _
    refine X142.iaload hx (j := (0 : Int32)) (v := (.int s1)) (by rw [e142]; exact Ar145.1) (State.isArrayOf_alike hZ.alike Ar145.2.1) Ar145.2.2 hin145 hat145 (g := (mkF m 343 #[.val (.int p0), .val (.int p1), .val (.int p2), .val (.int p3), .val (.int p4), .val (.int p5), .val (.int n), .val (.int s0), .val (.int d1), .val (.int tt), .val (.int d2), .val (.int s1), .val (.int s2), .val (.int (2 : Int32)), .val (.int (1 : Int32)), .val (.int (0 : Int32)), .val (.ref b106), .val (.ref b114), .val (.ref b122), .val (.int (1 : Int32))] [(.int (0 : Int32)), (.ref b114), (.ref b122)])) rfl rfl (hb hby at_343) _ ?_
    exact kt
  obtain ⟨cq146, kq146, q146a, q146b, q146c⟩ := isOf hZ e142 o140_0
  obtain ⟨_, _, ⟨T146, L146, k146, n146⟩, -, X146, ⟨Lc146, hQ146, l146, y146, z146⟩, st146⟩ := X142.virtualBack hx (y := (⟨"dev/chainlatch/bucket/Order", "after", "(I)I"⟩ : MethodName)) (z := (⟨"dev/chainlatch/bucket/Order", "after", "(I)I"⟩ : MethodName)) hown (mvT hZ (hw _ (List.mem_of_getElem? (i := 39) rfl))) (mvT hZ (hw _ (List.mem_of_getElem? (i := 40) rfl))) (notFace_of_selects (args := #[]) (mvT hZ (hw _ (List.mem_of_getElem? (i := 42) rfl)))) (mvT hZ (hw _ (List.mem_of_getElem? (i := 42) rfl))) (mvT hZ (hw _ (List.mem_of_getElem? (i := 41) rfl))) (by decide) (backOf (W := 0) (rmN l Z a0 hw [] b122 s1 A125 n (own_up (own_up (own_up (own_up (own_up (own_up (fun _ => 0) s0 (0 : Int32)) s1 (0 : Int32)) s0 (s1 + (1 : Int32))) s0 (0 : Int32)) s0 (0 : Int32)) s1 (s0 + (1 : Int32))) T140.heap n0 Z141 o140_4 o140_6 hs10 hs11) hZ (hw _ (List.mem_of_getElem? (i := 43) rfl)) (hw _ (List.mem_of_getElem? (i := 5) rfl)) (by decide) (by decide)) q146a q146c (g := (mkF m 344 #[.val (.int p0), .val (.int p1), .val (.int p2), .val (.int p3), .val (.int p4), .val (.int p5), .val (.int n), .val (.int s0), .val (.int d1), .val (.int tt), .val (.int d2), .val (.int s1), .val (.int s2), .val (.int (2 : Int32)), .val (.int (1 : Int32)), .val (.int (0 : Int32)), .val (.ref b106), .val (.ref b114), .val (.ref b122), .val (.int (1 : Int32))] [(.int s1), (.ref b122)])) rfl (by rw [hml]; rfl) (Steps.refl _) (argsL := [(.int s1)]) (rest := []) (lenOf pd__28I_29I rfl) rfl (by show 2 * 0 + _ ≤ _; exact Nat.le_of_eq rfl) (hb hby at_344) (fun _ _ => ⟨rfl, e142, (by decide : 5 + 0 ≤ _), (by decide : 30 + 0 ≤ _)⟩)
  dsimp only [Pt.U, Pt.locs, Pt.cells, Pt.slots] at X146 l146 y146 z146 st146 hQ146
  obtain ⟨rfl, N146q, e146⟩ := hQ146
  obtain ⟨lc146, X146, N146⟩ := own_pack X146 l146 y146 z146 N142 N146q (C := 5) (S' := 30) rfl rfl
  refine own_thr (a := T146.setTop (mkF m 347 #[.val (.int p0), .val (.int p1), .val (.int p2), .val (.int p3), .val (.int p4), .val (.int p5), .val (.int n), .val (.int s0), .val (.int d1), .val (.int tt), .val (.int d2), .val (.int s1), .val (.int s2), .val (.int (2 : Int32)), .val (.int (1 : Int32)), .val (.int (0 : Int32)), .val (.ref b106), .val (.ref b114), .val (.ref b122), .val (.int (1 : Int32))] [(.int (((own_up (own_up (own_up (own_up (own_up (own_up (fun _ => 0) s0 (0 : Int32)) s1 (0 : Int32)) s0 (s1 + (1 : Int32))) s0 (0 : Int32)) s0 (0 : Int32)) s1 (s0 + (1 : Int32))) s1) - (1 : Int32)))])) (fun t kt => st146.trans kt) ?_
  refine own_thr (a := T146.setTop (mkF m 356 #[.val (.int p0), .val (.int p1), .val (.int p2), .val (.int p3), .val (.int p4), .val (.int p5), .val (.int n), .val (.int s0), .val (.int d1), .val (.int tt), .val (.int d2), .val (.int s1), .val (.int s2), .val (.int (2 : Int32)), .val (.int (1 : Int32)), .val (.int (0 : Int32)), .val (.ref b106), .val (.ref b114), .val (.ref b122), .val (.int (1 : Int32))] [(.int (1 : Int32)), (.ref b114), (.int (((own_up (own_up (own_up (own_up (own_up (own_up (fun _ => 0) s0 (0 : Int32)) s1 (0 : Int32)) s0 (s1 + (1 : Int32))) s0 (0 : Int32)) s0 (0 : Int32)) s1 (s0 + (1 : Int32))) s1) - (1 : Int32)))])) (fun t kt => ?_) ?_
  · show Steps p.tables e below (T146.setTop (mkF m 347 #[.val (.int p0), .val (.int p1), .val (.int p2), .val (.int p3), .val (.int p4), .val (.int p5), .val (.int n), .val (.int s0), .val (.int d1), .val (.int tt), .val (.int d2), .val (.int s1), .val (.int s2), .val (.int (2 : Int32)), .val (.int (1 : Int32)), .val (.int (0 : Int32)), .val (.ref b106), .val (.ref b114), .val (.ref b122), .val (.int (1 : Int32))] [(.int (((own_up (own_up (own_up (own_up (own_up (own_up (fun _ => 0) s0 (0 : Int32)) s1 (0 : Int32)) s0 (s1 + (1 : Int32))) s0 (0 : Int32)) s0 (0 : Int32)) s1 (s0 + (1 : Int32))) s1) - (1 : Int32)))])) _
    refine XS.iload X146.here hx rfl (hb hby at_347) rfl ?_
    refine XS.iconst X146.here hx rfl (hb hby at_349) ?_
    refine XS.icmpNo X146.here hx rfl (hb hby at_350) rfl (tlt (by decide)).2.2.2 ?_
    refine XS.aload X146.here hx rfl (hb hby at_353) rfl rfl ?_
    refine XS.iconst X146.here hx rfl (hb hby at_355) ?_
    exact kt
  obtain ⟨cl147, Ar147, -, S147, M147, H147, -⟩ := id c144
  have hin147 : ¬ ((1 : Int32) < 0 ∨ cl147.slots.size ≤ ((1 : Int32)).toNatClampNeg) := inb_of S147 ⟨by decide, by decide⟩
  have hat147 : cl147.slots[((1 : Int32)).toNatClampNeg]? = some (.int s0) := Has.at H147 hin147 rfl
  refine own_thr (a := T146.setTop (mkF m 387 #[.val (.int p0), .val (.int p1), .val (.int p2), .val (.int p3), .val (.int p4), .val (.int p5), .val (.int n), .val (.int s0), .val (.int d1), .val (.int tt), .val (.int d2), .val (.int s1), .val (.int s2), .val (.int (2 : Int32)), .val (.int (1 : Int32)), .val (.int (0 : Int32)), .val (.ref b106), .val (.ref b114), .val (.ref b122), .val (.int (1 : Int32))] [(.int (1 : Int32)), (.ref b114), (.ref b122)])) (fun t kt => ?_) ?_
  · show Steps p.tables e below (T146.setTop (mkF m 356 #[.val (.int p0), .val (.int p1), .val (.int p2), .val (.int p3), .val (.int p4), .val (.int p5), .val (.int n), .val (.int s0), .val (.int d1), .val (.int tt), .val (.int d2), .val (.int s1), .val (.int s2), .val (.int (2 : Int32)), .val (.int (1 : Int32)), .val (.int (0 : Int32)), .val (.ref b106), .val (.ref b114), .val (.ref b122), .val (.int (1 : Int32))] [(.int (1 : Int32)), (.ref b114), (.int (((own_up (own_up (own_up (own_up (own_up (own_up (fun _ => 0) s0 (0 : Int32)) s1 (0 : Int32)) s0 (s1 + (1 : Int32))) s0 (0 : Int32)) s0 (0 : Int32)) s1 (s0 + (1 : Int32))) s1) - (1 : Int32)))])) _
    refine X146.iaload hx (j := (1 : Int32)) (v := (.int s0)) (by rw [e146]; exact Ar147.1) (State.isArrayOf_alike hZ.alike Ar147.2.1) Ar147.2.2 hin147 hat147 (g := (mkF m 356 #[.val (.int p0), .val (.int p1), .val (.int p2), .val (.int p3), .val (.int p4), .val (.int p5), .val (.int n), .val (.int s0), .val (.int d1), .val (.int tt), .val (.int d2), .val (.int s1), .val (.int s2), .val (.int (2 : Int32)), .val (.int (1 : Int32)), .val (.int (0 : Int32)), .val (.ref b106), .val (.ref b114), .val (.ref b122), .val (.int (1 : Int32))] [(.int (1 : Int32)), (.ref b114), (.int (((own_up (own_up (own_up (own_up (own_up (own_up (fun _ => 0) s0 (0 : Int32)) s1 (0 : Int32)) s0 (s1 + (1 : Int32))) s0 (0 : Int32)) s0 (0 : Int32)) s1 (s0 + (1 : Int32))) s1) - (1 : Int32)))])) rfl rfl (hb hby at_356) _ ?_
    refine XS.goto X146.here hx rfl (pc0 := 357) (pc' := 361) rfl (hb hby at_357) (by decide) (by decide) ?_
    refine XS.icmpNo X146.here hx rfl (hb hby at_361) rfl (teq (by simp [own_up, own_as, n01, n10, n02, n20, n12, n21])).2 ?_
    refine XS.iconst X146.here hx rfl (hb hby at_364) ?_
    refine XS.goto X146.here hx rfl (pc0 := 365) (pc' := 369) rfl (hb hby at_365) (by decide) (by decide) ?_
    refine XS.istore X146.here hx rfl (hb hby at_369) rfl (l' := #[.val (.int p0), .val (.int p1), .val (.int p2), .val (.int p3), .val (.int p4), .val (.int p5), .val (.int n), .val (.int s0), .val (.int d1), .val (.int tt), .val (.int d2), .val (.int s1), .val (.int s2), .val (.int (2 : Int32)), .val (.int (1 : Int32)), .val (.int (0 : Int32)), .val (.ref b106), .val (.ref b114), .val (.ref b122), .val (.int (1 : Int32))]) rfl ?_
    refine XS.iload X146.here hx rfl (hb hby at_371) rfl ?_
    refine XS.iconst X146.here hx rfl (hb hby at_373) ?_
    refine XS.icmpNo X146.here hx rfl (hb hby at_374) rfl (tlt (by decide)).2.2.2 ?_
    refine XS.iload X146.here hx rfl (hb hby at_377) rfl ?_
    refine XS.ifNo X146.here hx rfl (hb hby at_379) rfl ((if0 _ _).trans (feq (by decide)).1) ?_
    refine XS.aload X146.here hx rfl (hb hby at_382) rfl rfl ?_
    refine XS.aload X146.here hx rfl (hb hby at_384) rfl rfl ?_
    refine XS.iconst X146.here hx rfl (hb hby at_386) ?_
    exact kt
  obtain ⟨cl148, Ar148, -, S148, M148, H148, -⟩ := id c144
  have hin148 : ¬ ((1 : Int32) < 0 ∨ cl148.slots.size ≤ ((1 : Int32)).toNatClampNeg) := inb_of S148 ⟨by decide, by decide⟩
  have hat148 : cl148.slots[((1 : Int32)).toNatClampNeg]? = some (.int s0) := Has.at H148 hin148 rfl
  refine own_thr (a := T146.setTop (mkF m 388 #[.val (.int p0), .val (.int p1), .val (.int p2), .val (.int p3), .val (.int p4), .val (.int p5), .val (.int n), .val (.int s0), .val (.int d1), .val (.int tt), .val (.int d2), .val (.int s1), .val (.int s2), .val (.int (2 : Int32)), .val (.int (1 : Int32)), .val (.int (0 : Int32)), .val (.ref b106), .val (.ref b114), .val (.ref b122), .val (.int (1 : Int32))] [(.int s0), (.ref b122)])) (fun t kt => ?_) ?_
  · show Steps p.tables e below (T146.setTop (mkF m 387 #[.val (.int p0), .val (.int p1), .val (.int p2), .val (.int p3), .val (.int p4), .val (.int p5), .val (.int n), .val (.int s0), .val (.int d1), .val (.int tt), .val (.int d2), .val (.int s1), .val (.int s2), .val (.int (2 : Int32)), .val (.int (1 : Int32)), .val (.int (0 : Int32)), .val (.ref b106), .val (.ref b114), .val (.ref b122), .val (.int (1 : Int32))] [(.int (1 : Int32)), (.ref b114), (.ref b122)])) _
    refine X146.iaload hx (j := (1 : Int32)) (v := (.int s0)) (by rw [e146]; exact Ar148.1) (State.isArrayOf_alike hZ.alike Ar148.2.1) Ar148.2.2 hin148 hat148 (g := (mkF m 387 #[.val (.int p0), .val (.int p1), .val (.int p2), .val (.int p3), .val (.int p4), .val (.int p5), .val (.int n), .val (.int s0), .val (.int d1), .val (.int tt), .val (.int d2), .val (.int s1), .val (.int s2), .val (.int (2 : Int32)), .val (.int (1 : Int32)), .val (.int (0 : Int32)), .val (.ref b106), .val (.ref b114), .val (.ref b122), .val (.int (1 : Int32))] [(.int (1 : Int32)), (.ref b114), (.ref b122)])) rfl rfl (hb hby at_387) _ ?_
    exact kt
  obtain ⟨cq149, kq149, q149a, q149b, q149c⟩ := isOf hZ e146 o140_0
  obtain ⟨_, _, ⟨T149, L149, k149, n149⟩, -, X149, ⟨Lc149, hQ149, l149, y149, z149⟩, st149⟩ := X146.virtualBack hx (y := (⟨"dev/chainlatch/bucket/Order", "after", "(I)I"⟩ : MethodName)) (z := (⟨"dev/chainlatch/bucket/Order", "after", "(I)I"⟩ : MethodName)) hown (mvT hZ (hw _ (List.mem_of_getElem? (i := 39) rfl))) (mvT hZ (hw _ (List.mem_of_getElem? (i := 40) rfl))) (notFace_of_selects (args := #[]) (mvT hZ (hw _ (List.mem_of_getElem? (i := 42) rfl)))) (mvT hZ (hw _ (List.mem_of_getElem? (i := 42) rfl))) (mvT hZ (hw _ (List.mem_of_getElem? (i := 41) rfl))) (by decide) (backOf (W := 0) (rmN l Z a0 hw [] b122 s0 A125 n (own_up (own_up (own_up (own_up (own_up (own_up (fun _ => 0) s0 (0 : Int32)) s1 (0 : Int32)) s0 (s1 + (1 : Int32))) s0 (0 : Int32)) s0 (0 : Int32)) s1 (s0 + (1 : Int32))) T140.heap n0 Z141 o140_4 o140_6 hs00 hs01) hZ (hw _ (List.mem_of_getElem? (i := 43) rfl)) (hw _ (List.mem_of_getElem? (i := 5) rfl)) (by decide) (by decide)) q149a q149c (g := (mkF m 388 #[.val (.int p0), .val (.int p1), .val (.int p2), .val (.int p3), .val (.int p4), .val (.int p5), .val (.int n), .val (.int s0), .val (.int d1), .val (.int tt), .val (.int d2), .val (.int s1), .val (.int s2), .val (.int (2 : Int32)), .val (.int (1 : Int32)), .val (.int (0 : Int32)), .val (.ref b106), .val (.ref b114), .val (.ref b122), .val (.int (1 : Int32))] [(.int s0), (.ref b122)])) rfl (by rw [hml]; rfl) (Steps.refl _) (argsL := [(.int s0)]) (rest := []) (lenOf pd__28I_29I rfl) rfl (by show 2 * 0 + _ ≤ _; exact Nat.le_of_eq rfl) (hb hby at_388) (fun _ _ => ⟨rfl, e146, (by decide : 5 + 0 ≤ _), (by decide : 30 + 0 ≤ _)⟩)
  dsimp only [Pt.U, Pt.locs, Pt.cells, Pt.slots] at X149 l149 y149 z149 st149 hQ149
  obtain ⟨rfl, N149q, e149⟩ := hQ149
  obtain ⟨lc149, X149, N149⟩ := own_pack X149 l149 y149 z149 N146 N149q (C := 5) (S' := 30) rfl rfl
  refine own_thr (a := T149.setTop (mkF m 391 #[.val (.int p0), .val (.int p1), .val (.int p2), .val (.int p3), .val (.int p4), .val (.int p5), .val (.int n), .val (.int s0), .val (.int d1), .val (.int tt), .val (.int d2), .val (.int s1), .val (.int s2), .val (.int (2 : Int32)), .val (.int (1 : Int32)), .val (.int (0 : Int32)), .val (.ref b106), .val (.ref b114), .val (.ref b122), .val (.int (1 : Int32))] [(.int (((own_up (own_up (own_up (own_up (own_up (own_up (fun _ => 0) s0 (0 : Int32)) s1 (0 : Int32)) s0 (s1 + (1 : Int32))) s0 (0 : Int32)) s0 (0 : Int32)) s1 (s0 + (1 : Int32))) s0) - (1 : Int32)))])) (fun t kt => st149.trans kt) ?_
  refine own_thr (a := T149.setTop (mkF m 448 #[.val (.int p0), .val (.int p1), .val (.int p2), .val (.int p3), .val (.int p4), .val (.int p5), .val (.int n), .val (.int s0), .val (.int d1), .val (.int tt), .val (.int d2), .val (.int s1), .val (.int s2), .val (.int (2 : Int32)), .val (.int (1 : Int32)), .val (.int (0 : Int32)), .val (.ref b106), .val (.ref b114), .val (.ref b122), .val (.int (1 : Int32))] [(.int (1 : Int32))])) (fun t kt => ?_) ?_
  · show Steps p.tables e below (T149.setTop (mkF m 391 #[.val (.int p0), .val (.int p1), .val (.int p2), .val (.int p3), .val (.int p4), .val (.int p5), .val (.int n), .val (.int s0), .val (.int d1), .val (.int tt), .val (.int d2), .val (.int s1), .val (.int s2), .val (.int (2 : Int32)), .val (.int (1 : Int32)), .val (.int (0 : Int32)), .val (.ref b106), .val (.ref b114), .val (.ref b122), .val (.int (1 : Int32))] [(.int (((own_up (own_up (own_up (own_up (own_up (own_up (fun _ => 0) s0 (0 : Int32)) s1 (0 : Int32)) s0 (s1 + (1 : Int32))) s0 (0 : Int32)) s0 (0 : Int32)) s1 (s0 + (1 : Int32))) s0) - (1 : Int32)))])) _
    refine XS.iload X149.here hx rfl (hb hby at_391) rfl ?_
    refine XS.iconst X149.here hx rfl (hb hby at_393) ?_
    refine XS.icmpYes X149.here hx rfl (pc0 := 394) (pc' := 404) rfl (hb hby at_394) rfl (flt (by decide)).2.2.2 (by decide) (by decide) ?_
    refine XS.iconst X149.here hx rfl (hb hby at_404) ?_
    refine XS.icmpNo X149.here hx rfl (hb hby at_405) rfl (teq (by simp [own_up, own_as, n01, n10, n02, n20, n12, n21])).2 ?_
    refine XS.iconst X149.here hx rfl (hb hby at_408) ?_
    refine XS.goto X149.here hx rfl (pc0 := 409) (pc' := 413) rfl (hb hby at_409) (by decide) (by decide) ?_
    refine XS.istore X149.here hx rfl (hb hby at_413) rfl (l' := #[.val (.int p0), .val (.int p1), .val (.int p2), .val (.int p3), .val (.int p4), .val (.int p5), .val (.int n), .val (.int s0), .val (.int d1), .val (.int tt), .val (.int d2), .val (.int s1), .val (.int s2), .val (.int (2 : Int32)), .val (.int (1 : Int32)), .val (.int (0 : Int32)), .val (.ref b106), .val (.ref b114), .val (.ref b122), .val (.int (1 : Int32))]) rfl ?_
    refine XS.iload X149.here hx rfl (hb hby at_415) rfl ?_
    refine XS.iconst X149.here hx rfl (hb hby at_417) ?_
    refine XS.icmpYes X149.here hx rfl (pc0 := 418) (pc' := 446) rfl (hb hby at_418) rfl (flt (by decide)).2.2.2 (by decide) (by decide) ?_
    refine XS.iload X149.here hx rfl (hb hby at_446) rfl ?_
    exact kt
  exact own_end X149 hlk (v := some (.int (1 : Int32))) (fun h => by rw [hret] at h; cases h) (fun fs hr => retN X149 hx (t := .boolean) hret (by simp) (hb hby at_448) hr) ⟨rfl, N149⟩ (by decide : 5 ≤ _) (by decide : 30 ≤ _)
set_option maxRecDepth 65536 in
set_option maxHeartbeats 40000000 in
theorem tl211 {p : Program} {l : Launch} {e : Env} {s : State} {m : MethodId} {below : List Frame} {meth : Method} {c : Code} {Z : State} {a0 : Array Value} (p0 : Int32) (p1 : Int32) (p2 : Int32) (p3 : Int32) (p4 : Int32) (p5 : Int32) {h0 : Heap} {n0 : Nat} (Z0 : n0 ≤ h0.size) (hw : ∀ d ∈ tables_1, d.before a0 Z = true) (hx : p.tables.exec = Jvm.exec) (hZ : Z.Warmed39 s.vm) (hby : c.code = code) (hml : c.maxLocals = 20) (hown : s.vm.findClass "dev/chainlatch/bucket/OrderAppendPinLaw" = some m.cls) (hlk : meth.locks = false) (hret : meth.sig.returnType = ret)
    {T0 : State} {lc0 : List Loc} (X0 : Stand p l e room_1 s m #[(.int p0), (.int p1), (.int p2), (.int p3), (.int p4), (.int p5)] below meth c T0 lc0 0 0) (N0 : Fr n0 lc0) (e0 : T0.heap = h0) (n s0 d1 tt d2 s1 s2 r : Int32) (hH : own_H n s0 s1 s2) : own_G p.tables e below s (Q0 Z p0 p1 p2 p3 p4 p5 h0 n0) room_1.cells room_1.slots (T0.setTop (mkF m 116 #[.val (.int p0), .val (.int p1), .val (.int p2), .val (.int p3), .val (.int p4), .val (.int p5), .val (.int n), .val (.int s0), .val (.int d1), .val (.int tt), .val (.int d2), .val (.int s1), .val (.int s2), .val (.int (2 : Int32)), .val (.int (1 : Int32)), .val (.int (1 : Int32)), .unset, .unset, .unset, .unset] [])) := by
  obtain ⟨⟨hn0, hn1⟩, ⟨hs00, hs01⟩, ⟨hs10, hs11⟩, ⟨hs20, hs21⟩, n01, n02, n12⟩ := hH
  have n10 : ¬ s1 = s0 := fun q => n01 q.symm
  have n20 : ¬ s2 = s0 := fun q => n02 q.symm
  have n21 : ¬ s2 = s1 := fun q => n12 q.symm
  refine own_thr (a := T0.setTop (mkF m 117 #[.val (.int p0), .val (.int p1), .val (.int p2), .val (.int p3), .val (.int p4), .val (.int p5), .val (.int n), .val (.int s0), .val (.int d1), .val (.int tt), .val (.int d2), .val (.int s1), .val (.int s2), .val (.int (2 : Int32)), .val (.int (1 : Int32)), .val (.int (1 : Int32)), .unset, .unset, .unset, .unset] [(.int (3 : Int32))])) (fun t kt => ?_) ?_
  · show Steps p.tables e below (T0.setTop (mkF m 116 #[.val (.int p0), .val (.int p1), .val (.int p2), .val (.int p3), .val (.int p4), .val (.int p5), .val (.int n), .val (.int s0), .val (.int d1), .val (.int tt), .val (.int d2), .val (.int s1), .val (.int s2), .val (.int (2 : Int32)), .val (.int (1 : Int32)), .val (.int (1 : Int32)), .unset, .unset, .unset, .unset] [])) _
    refine XS.iconst X0.here hx rfl (hb hby at_116) ?_
    exact kt
  obtain ⟨T150, h150, k150, X150, e150, E150, A150, st150⟩ := newP X0 hx hZ (hw _ (List.mem_of_getElem? (i := 2) rfl)) e0 (g := (mkF m 117 #[.val (.int p0), .val (.int p1), .val (.int p2), .val (.int p3), .val (.int p4), .val (.int p5), .val (.int n), .val (.int s0), .val (.int d1), .val (.int tt), .val (.int d2), .val (.int s1), .val (.int s2), .val (.int (2 : Int32)), .val (.int (1 : Int32)), .val (.int (1 : Int32)), .unset, .unset, .unset, .unset] [(.int (3 : Int32))])) rfl (hb hby at_117) rfl (by decide) (cap := 3) (by decide) (by decide) (by decide : 0 + 1 ≤ _) (by decide : 0 + 3 ≤ _)
  obtain ⟨b150, g150⟩ : ∃ z, z = h0.size := ⟨_, rfl⟩
  rw [← g150] at A150 st150
  have g_b150 : n0 ≤ b150 := Nat.le_trans Z0 (Nat.le_of_eq g150.symm)
  have sz_b150 : h0.size ≤ b150 := Nat.le_trans (Nat.le_refl h0.size) (Nat.le_of_eq g150.symm)
  have V_b150 : Arv Z h150 b150 k150 .int (3 : Int32) [(.int (0 : Int32)), (.int (0 : Int32)), (.int (0 : Int32))] (.int (0 : Int32)) := (Arv.new A150 (by decide)).pad (pad_rep [] (.int (0 : Int32)) 3)
  have Z151 : n0 ≤ h150.size := Nat.le_trans Z0 E150.1
  have Z151h : h0.size ≤ h150.size := Nat.le_trans (Nat.le_refl h0.size) E150.1
  refine own_thr (a := T150.setTop (mkF m 119 #[.val (.int p0), .val (.int p1), .val (.int p2), .val (.int p3), .val (.int p4), .val (.int p5), .val (.int n), .val (.int s0), .val (.int d1), .val (.int tt), .val (.int d2), .val (.int s1), .val (.int s2), .val (.int (2 : Int32)), .val (.int (1 : Int32)), .val (.int (1 : Int32)), .unset, .unset, .unset, .unset] [(.ref b150)])) (fun t kt => st150 t kt) ?_
  refine own_thr (a := T150.setTop (mkF m 123 #[.val (.int p0), .val (.int p1), .val (.int p2), .val (.int p3), .val (.int p4), .val (.int p5), .val (.int n), .val (.int s0), .val (.int d1), .val (.int tt), .val (.int d2), .val (.int s1), .val (.int s2), .val (.int (2 : Int32)), .val (.int (1 : Int32)), .val (.int (1 : Int32)), .unset, .unset, .unset, .unset] [(.int s0), (.int (0 : Int32)), (.ref b150), (.ref b150)])) (fun t kt => ?_) ?_
  · show Steps p.tables e below (T150.setTop (mkF m 119 #[.val (.int p0), .val (.int p1), .val (.int p2), .val (.int p3), .val (.int p4), .val (.int p5), .val (.int n), .val (.int s0), .val (.int d1), .val (.int tt), .val (.int d2), .val (.int s1), .val (.int s2), .val (.int (2 : Int32)), .val (.int (1 : Int32)), .val (.int (1 : Int32)), .unset, .unset, .unset, .unset] [(.ref b150)])) _
    refine XS.dup X150.here hx rfl (hb hby at_119) rfl rfl ?_
    refine XS.iconst X150.here hx rfl (hb hby at_120) ?_
    refine XS.iload X150.here hx rfl (hb hby at_121) rfl ?_
    exact kt
  obtain ⟨cl152, Ar152, q152, S152, M152, H152, G152⟩ := id V_b150
  have hin152 : ¬ ((0 : Int32) < 0 ∨ cl152.slots.size ≤ ((0 : Int32)).toNatClampNeg) := inb_of S152 ⟨by decide, by decide⟩
  obtain ⟨T152, h152, X152, e152, W152, st152⟩ := stI X150 hx hZ e150 Ar152 (j := (0 : Int32)) hin152 (g := (mkF m 123 #[.val (.int p0), .val (.int p1), .val (.int p2), .val (.int p3), .val (.int p4), .val (.int p5), .val (.int n), .val (.int s0), .val (.int d1), .val (.int tt), .val (.int d2), .val (.int s1), .val (.int s2), .val (.int (2 : Int32)), .val (.int (1 : Int32)), .val (.int (1 : Int32)), .unset, .unset, .unset, .unset] [(.int s0), (.int (0 : Int32)), (.ref b150), (.ref b150)])) rfl rfl (hb hby at_123)
  have Z153 : n0 ≤ h152.size := Nat.le_trans Z151 (Nat.le_of_eq W152.size.symm)
  have Z153h : h0.size ≤ h152.size := Nat.le_trans Z151h (Nat.le_of_eq W152.size.symm)
  have V152 : Arv Z h152 b150 k150 .int (3 : Int32) [(.int s0), (.int (0 : Int32)), (.int (0 : Int32))] (.int (0 : Int32)) := Arv.set Ar152 q152 S152 M152 H152 G152 rfl W152 0 rfl (Nat.le_of_ble_eq_true rfl)
  obtain ⟨lc152, X152, N152⟩ := own_pack1 X152 N0 g_b150
  refine own_thr (a := T152.setTop (mkF m 124 #[.val (.int p0), .val (.int p1), .val (.int p2), .val (.int p3), .val (.int p4), .val (.int p5), .val (.int n), .val (.int s0), .val (.int d1), .val (.int tt), .val (.int d2), .val (.int s1), .val (.int s2), .val (.int (2 : Int32)), .val (.int (1 : Int32)), .val (.int (1 : Int32)), .unset, .unset, .unset, .unset] [(.ref b150)])) (fun t kt => st152 t kt) ?_
  refine own_thr (a := T152.setTop (mkF m 128 #[.val (.int p0), .val (.int p1), .val (.int p2), .val (.int p3), .val (.int p4), .val (.int p5), .val (.int n), .val (.int s0), .val (.int d1), .val (.int tt), .val (.int d2), .val (.int s1), .val (.int s2), .val (.int (2 : Int32)), .val (.int (1 : Int32)), .val (.int (1 : Int32)), .unset, .unset, .unset, .unset] [(.int s1), (.int (1 : Int32)), (.ref b150), (.ref b150)])) (fun t kt => ?_) ?_
  · show Steps p.tables e below (T152.setTop (mkF m 124 #[.val (.int p0), .val (.int p1), .val (.int p2), .val (.int p3), .val (.int p4), .val (.int p5), .val (.int n), .val (.int s0), .val (.int d1), .val (.int tt), .val (.int d2), .val (.int s1), .val (.int s2), .val (.int (2 : Int32)), .val (.int (1 : Int32)), .val (.int (1 : Int32)), .unset, .unset, .unset, .unset] [(.ref b150)])) _
    refine XS.dup X152.here hx rfl (hb hby at_124) rfl rfl ?_
    refine XS.iconst X152.here hx rfl (hb hby at_125) ?_
    refine XS.iload X152.here hx rfl (hb hby at_126) rfl ?_
    exact kt
  obtain ⟨cl154, Ar154, q154, S154, M154, H154, G154⟩ := id V152
  have hin154 : ¬ ((1 : Int32) < 0 ∨ cl154.slots.size ≤ ((1 : Int32)).toNatClampNeg) := inb_of S154 ⟨by decide, by decide⟩
  obtain ⟨T154, h154, X154, e154, W154, st154⟩ := stI X152 hx hZ e152 Ar154 (j := (1 : Int32)) hin154 (g := (mkF m 128 #[.val (.int p0), .val (.int p1), .val (.int p2), .val (.int p3), .val (.int p4), .val (.int p5), .val (.int n), .val (.int s0), .val (.int d1), .val (.int tt), .val (.int d2), .val (.int s1), .val (.int s2), .val (.int (2 : Int32)), .val (.int (1 : Int32)), .val (.int (1 : Int32)), .unset, .unset, .unset, .unset] [(.int s1), (.int (1 : Int32)), (.ref b150), (.ref b150)])) rfl rfl (hb hby at_128)
  have Z155 : n0 ≤ h154.size := Nat.le_trans Z153 (Nat.le_of_eq W154.size.symm)
  have Z155h : h0.size ≤ h154.size := Nat.le_trans Z153h (Nat.le_of_eq W154.size.symm)
  have V154 : Arv Z h154 b150 k150 .int (3 : Int32) [(.int s0), (.int s1), (.int (0 : Int32))] (.int (0 : Int32)) := Arv.set Ar154 q154 S154 M154 H154 G154 rfl W154 1 rfl (Nat.le_of_ble_eq_true rfl)
  obtain ⟨lc154, X154, N154⟩ := own_pack1 X154 N152 g_b150
  refine own_thr (a := T154.setTop (mkF m 129 #[.val (.int p0), .val (.int p1), .val (.int p2), .val (.int p3), .val (.int p4), .val (.int p5), .val (.int n), .val (.int s0), .val (.int d1), .val (.int tt), .val (.int d2), .val (.int s1), .val (.int s2), .val (.int (2 : Int32)), .val (.int (1 : Int32)), .val (.int (1 : Int32)), .unset, .unset, .unset, .unset] [(.ref b150)])) (fun t kt => st154 t kt) ?_
  refine own_thr (a := T154.setTop (mkF m 133 #[.val (.int p0), .val (.int p1), .val (.int p2), .val (.int p3), .val (.int p4), .val (.int p5), .val (.int n), .val (.int s0), .val (.int d1), .val (.int tt), .val (.int d2), .val (.int s1), .val (.int s2), .val (.int (2 : Int32)), .val (.int (1 : Int32)), .val (.int (1 : Int32)), .unset, .unset, .unset, .unset] [(.int s2), (.int (2 : Int32)), (.ref b150), (.ref b150)])) (fun t kt => ?_) ?_
  · show Steps p.tables e below (T154.setTop (mkF m 129 #[.val (.int p0), .val (.int p1), .val (.int p2), .val (.int p3), .val (.int p4), .val (.int p5), .val (.int n), .val (.int s0), .val (.int d1), .val (.int tt), .val (.int d2), .val (.int s1), .val (.int s2), .val (.int (2 : Int32)), .val (.int (1 : Int32)), .val (.int (1 : Int32)), .unset, .unset, .unset, .unset] [(.ref b150)])) _
    refine XS.dup X154.here hx rfl (hb hby at_129) rfl rfl ?_
    refine XS.iconst X154.here hx rfl (hb hby at_130) ?_
    refine XS.iload X154.here hx rfl (hb hby at_131) rfl ?_
    exact kt
  obtain ⟨cl156, Ar156, q156, S156, M156, H156, G156⟩ := id V154
  have hin156 : ¬ ((2 : Int32) < 0 ∨ cl156.slots.size ≤ ((2 : Int32)).toNatClampNeg) := inb_of S156 ⟨by decide, by decide⟩
  obtain ⟨T156, h156, X156, e156, W156, st156⟩ := stI X154 hx hZ e154 Ar156 (j := (2 : Int32)) hin156 (g := (mkF m 133 #[.val (.int p0), .val (.int p1), .val (.int p2), .val (.int p3), .val (.int p4), .val (.int p5), .val (.int n), .val (.int s0), .val (.int d1), .val (.int tt), .val (.int d2), .val (.int s1), .val (.int s2), .val (.int (2 : Int32)), .val (.int (1 : Int32)), .val (.int (1 : Int32)), .unset, .unset, .unset, .unset] [(.int s2), (.int (2 : Int32)), (.ref b150), (.ref b150)])) rfl rfl (hb hby at_133)
  have Z157 : n0 ≤ h156.size := Nat.le_trans Z155 (Nat.le_of_eq W156.size.symm)
  have Z157h : h0.size ≤ h156.size := Nat.le_trans Z155h (Nat.le_of_eq W156.size.symm)
  have V156 : Arv Z h156 b150 k150 .int (3 : Int32) [(.int s0), (.int s1), (.int s2)] (.int (0 : Int32)) := Arv.set Ar156 q156 S156 M156 H156 G156 rfl W156 2 rfl (Nat.le_of_ble_eq_true rfl)
  obtain ⟨lc156, X156, N156⟩ := own_pack1 X156 N154 g_b150
  refine own_thr (a := T156.setTop (mkF m 134 #[.val (.int p0), .val (.int p1), .val (.int p2), .val (.int p3), .val (.int p4), .val (.int p5), .val (.int n), .val (.int s0), .val (.int d1), .val (.int tt), .val (.int d2), .val (.int s1), .val (.int s2), .val (.int (2 : Int32)), .val (.int (1 : Int32)), .val (.int (1 : Int32)), .unset, .unset, .unset, .unset] [(.ref b150)])) (fun t kt => st156 t kt) ?_
  refine own_thr (a := T156.setTop (mkF m 137 #[.val (.int p0), .val (.int p1), .val (.int p2), .val (.int p3), .val (.int p4), .val (.int p5), .val (.int n), .val (.int s0), .val (.int d1), .val (.int tt), .val (.int d2), .val (.int s1), .val (.int s2), .val (.int (2 : Int32)), .val (.int (1 : Int32)), .val (.int (1 : Int32)), .val (.ref b150), .unset, .unset, .unset] [(.int (3 : Int32))])) (fun t kt => ?_) ?_
  · show Steps p.tables e below (T156.setTop (mkF m 134 #[.val (.int p0), .val (.int p1), .val (.int p2), .val (.int p3), .val (.int p4), .val (.int p5), .val (.int n), .val (.int s0), .val (.int d1), .val (.int tt), .val (.int d2), .val (.int s1), .val (.int s2), .val (.int (2 : Int32)), .val (.int (1 : Int32)), .val (.int (1 : Int32)), .unset, .unset, .unset, .unset] [(.ref b150)])) _
    refine XS.astore X156.here hx rfl (hb hby at_134) rfl rfl (l' := #[.val (.int p0), .val (.int p1), .val (.int p2), .val (.int p3), .val (.int p4), .val (.int p5), .val (.int n), .val (.int s0), .val (.int d1), .val (.int tt), .val (.int d2), .val (.int s1), .val (.int s2), .val (.int (2 : Int32)), .val (.int (1 : Int32)), .val (.int (1 : Int32)), .val (.ref b150), .unset, .unset, .unset]) rfl ?_
    refine XS.iconst X156.here hx rfl (hb hby at_136) ?_
    exact kt
  obtain ⟨T158, h158, k158, X158, e158, E158, A158, st158⟩ := newP X156 hx hZ (hw _ (List.mem_of_getElem? (i := 2) rfl)) e156 (g := (mkF m 137 #[.val (.int p0), .val (.int p1), .val (.int p2), .val (.int p3), .val (.int p4), .val (.int p5), .val (.int n), .val (.int s0), .val (.int d1), .val (.int tt), .val (.int d2), .val (.int s1), .val (.int s2), .val (.int (2 : Int32)), .val (.int (1 : Int32)), .val (.int (1 : Int32)), .val (.ref b150), .unset, .unset, .unset] [(.int (3 : Int32))])) rfl (hb hby at_137) rfl (by decide) (cap := 3) (by decide) (by decide) (by decide : 1 + 1 ≤ _) (by decide : 3 + 3 ≤ _)
  obtain ⟨b158, g158⟩ : ∃ z, z = h156.size := ⟨_, rfl⟩
  rw [← g158] at A158 st158
  have g_b158 : n0 ≤ b158 := Nat.le_trans Z157 (Nat.le_of_eq g158.symm)
  have sz_b158 : h0.size ≤ b158 := Nat.le_trans Z157h (Nat.le_of_eq g158.symm)
  have lt_b150_b158 : b150 < b158 := Nat.lt_of_lt_of_le V156.lt (Nat.le_of_eq g158.symm)
  have ne_b150_b158 : b150 ≠ b158 := Nat.ne_of_lt lt_b150_b158
  have V_b158 : Arv Z h158 b158 k158 .int (3 : Int32) [(.int (0 : Int32)), (.int (0 : Int32)), (.int (0 : Int32))] (.int (0 : Int32)) := (Arv.new A158 (by decide)).pad (pad_rep [] (.int (0 : Int32)) 3)
  have Z159 : n0 ≤ h158.size := Nat.le_trans Z157 E158.1
  have Z159h : h0.size ≤ h158.size := Nat.le_trans Z157h E158.1
  refine own_thr (a := T158.setTop (mkF m 139 #[.val (.int p0), .val (.int p1), .val (.int p2), .val (.int p3), .val (.int p4), .val (.int p5), .val (.int n), .val (.int s0), .val (.int d1), .val (.int tt), .val (.int d2), .val (.int s1), .val (.int s2), .val (.int (2 : Int32)), .val (.int (1 : Int32)), .val (.int (1 : Int32)), .val (.ref b150), .unset, .unset, .unset] [(.ref b158)])) (fun t kt => st158 t kt) ?_
  refine own_thr (a := T158.setTop (mkF m 164 #[.val (.int p0), .val (.int p1), .val (.int p2), .val (.int p3), .val (.int p4), .val (.int p5), .val (.int n), .val (.int s0), .val (.int d1), .val (.int tt), .val (.int d2), .val (.int s1), .val (.int s2), .val (.int (2 : Int32)), .val (.int (1 : Int32)), .val (.int (1 : Int32)), .val (.ref b150), .val (.ref b158), .unset, .unset] [(.int (0 : Int32)), (.ref b150), (.int (0 : Int32)), (.ref b158)])) (fun t kt => ?_) ?_
  · show Steps p.tables e below (T158.setTop (mkF m 139 #[.val (.int p0), .val (.int p1), .val (.int p2), .val (.int p3), .val (.int p4), .val (.int p5), .val (.int n), .val (.int s0), .val (.int d1), .val (.int tt), .val (.int d2), .val (.int s1), .val (.int s2), .val (.int (2 : Int32)), .val (.int (1 : Int32)), .val (.int (1 : Int32)), .val (.ref b150), .unset, .unset, .unset] [(.ref b158)])) _
    refine XS.astore X158.here hx rfl (hb hby at_139) rfl rfl (l' := #[.val (.int p0), .val (.int p1), .val (.int p2), .val (.int p3), .val (.int p4), .val (.int p5), .val (.int n), .val (.int s0), .val (.int d1), .val (.int tt), .val (.int d2), .val (.int s1), .val (.int s2), .val (.int (2 : Int32)), .val (.int (1 : Int32)), .val (.int (1 : Int32)), .val (.ref b150), .val (.ref b158), .unset, .unset]) rfl ?_
    refine XS.iload X158.here hx rfl (hb hby at_141) rfl ?_
    refine XS.ifNo X158.here hx rfl (hb hby at_143) rfl ((if0 _ _).trans (feq (by decide)).1) ?_
    refine XS.iload X158.here hx rfl (hb hby at_146) rfl ?_
    refine XS.iconst X158.here hx rfl (hb hby at_148) ?_
    refine XS.icmpNo X158.here hx rfl (hb hby at_149) rfl (tlt (by decide)).2.2.2 ?_
    refine XS.aload X158.here hx rfl (hb hby at_152) rfl rfl ?_
    refine XS.iconst X158.here hx rfl (hb hby at_154) ?_
    refine XS.iconst X158.here hx rfl (hb hby at_155) ?_
    refine XS.iload X158.here hx rfl (hb hby at_156) rfl ?_
    refine XS.icmpNo X158.here hx rfl (hb hby at_158) rfl (tlt (by decide)).2.1 ?_
    refine XS.aload X158.here hx rfl (hb hby at_161) rfl rfl ?_
    refine XS.iconst X158.here hx rfl (hb hby at_163) ?_
    exact kt
  obtain ⟨cl160, Ar160, -, S160, M160, H160, -⟩ := id (V156.ext E158)
  have hin160 : ¬ ((0 : Int32) < 0 ∨ cl160.slots.size ≤ ((0 : Int32)).toNatClampNeg) := inb_of S160 ⟨by decide, by decide⟩
  have hat160 : cl160.slots[((0 : Int32)).toNatClampNeg]? = some (.int s0) := Has.at H160 hin160 rfl
  refine own_thr (a := T158.setTop (mkF m 172 #[.val (.int p0), .val (.int p1), .val (.int p2), .val (.int p3), .val (.int p4), .val (.int p5), .val (.int n), .val (.int s0), .val (.int d1), .val (.int tt), .val (.int d2), .val (.int s1), .val (.int s2), .val (.int (2 : Int32)), .val (.int (1 : Int32)), .val (.int (1 : Int32)), .val (.ref b150), .val (.ref b158), .unset, .unset] [(.int s0), (.int (0 : Int32)), (.ref b158)])) (fun t kt => ?_) ?_
  · show Steps p.tables e below (T158.setTop (mkF m 164 #[.val (.int p0), .val (.int p1), .val (.int p2), .val (.int p3), .val (.int p4), .val (.int p5), .val (.int n), .val (.int s0), .val (.int d1), .val (.int tt), .val (.int d2), .val (.int s1), .val (.int s2), .val (.int (2 : Int32)), .val (.int (1 : Int32)), .val (.int (1 : Int32)), .val (.ref b150), .val (.ref b158), .unset, .unset] [(.int (0 : Int32)), (.ref b150), (.int (0 : Int32)), (.ref b158)])) _
    refine X158.iaload hx (j := (0 : Int32)) (v := (.int s0)) (by rw [e158]; exact Ar160.1) (State.isArrayOf_alike hZ.alike Ar160.2.1) Ar160.2.2 hin160 hat160 (g := (mkF m 164 #[.val (.int p0), .val (.int p1), .val (.int p2), .val (.int p3), .val (.int p4), .val (.int p5), .val (.int n), .val (.int s0), .val (.int d1), .val (.int tt), .val (.int d2), .val (.int s1), .val (.int s2), .val (.int (2 : Int32)), .val (.int (1 : Int32)), .val (.int (1 : Int32)), .val (.ref b150), .val (.ref b158), .unset, .unset] [(.int (0 : Int32)), (.ref b150), (.int (0 : Int32)), (.ref b158)])) rfl rfl (hb hby at_164) _ ?_
    refine XS.goto X158.here hx rfl (pc0 := 165) (pc' := 172) rfl (hb hby at_165) (by decide) (by decide) ?_
    exact kt
  obtain ⟨cl161, Ar161, q161, S161, M161, H161, G161⟩ := id V_b158
  have hin161 : ¬ ((0 : Int32) < 0 ∨ cl161.slots.size ≤ ((0 : Int32)).toNatClampNeg) := inb_of S161 ⟨by decide, by decide⟩
  obtain ⟨T161, h161, X161, e161, W161, st161⟩ := stI X158 hx hZ e158 Ar161 (j := (0 : Int32)) hin161 (g := (mkF m 172 #[.val (.int p0), .val (.int p1), .val (.int p2), .val (.int p3), .val (.int p4), .val (.int p5), .val (.int n), .val (.int s0), .val (.int d1), .val (.int tt), .val (.int d2), .val (.int s1), .val (.int s2), .val (.int (2 : Int32)), .val (.int (1 : Int32)), .val (.int (1 : Int32)), .val (.ref b150), .val (.ref b158), .unset, .unset] [(.int s0), (.int (0 : Int32)), (.ref b158)])) rfl rfl (hb hby at_172)
  have Z162 : n0 ≤ h161.size := Nat.le_trans Z159 (Nat.le_of_eq W161.size.symm)
  have Z162h : h0.size ≤ h161.size := Nat.le_trans Z159h (Nat.le_of_eq W161.size.symm)
  have V161 : Arv Z h161 b158 k158 .int (3 : Int32) [(.int s0), (.int (0 : Int32)), (.int (0 : Int32))] (.int (0 : Int32)) := Arv.set Ar161 q161 S161 M161 H161 G161 rfl W161 0 rfl (Nat.le_of_ble_eq_true rfl)
  obtain ⟨lc161, X161, N161⟩ := own_pack1 X161 N156 g_b158
  refine own_thr (a := T161.setTop (mkF m 173 #[.val (.int p0), .val (.int p1), .val (.int p2), .val (.int p3), .val (.int p4), .val (.int p5), .val (.int n), .val (.int s0), .val (.int d1), .val (.int tt), .val (.int d2), .val (.int s1), .val (.int s2), .val (.int (2 : Int32)), .val (.int (1 : Int32)), .val (.int (1 : Int32)), .val (.ref b150), .val (.ref b158), .unset, .unset] [])) (fun t kt => st161 t kt) ?_
  refine own_thr (a := T161.setTop (mkF m 210 #[.val (.int p0), .val (.int p1), .val (.int p2), .val (.int p3), .val (.int p4), .val (.int p5), .val (.int n), .val (.int s0), .val (.int d1), .val (.int tt), .val (.int d2), .val (.int s1), .val (.int s2), .val (.int (2 : Int32)), .val (.int (1 : Int32)), .val (.int (1 : Int32)), .val (.ref b150), .val (.ref b158), .unset, .unset] [(.int (1 : Int32)), (.ref b150), (.int (1 : Int32)), (.ref b158)])) (fun t kt => ?_) ?_
  · show Steps p.tables e below (T161.setTop (mkF m 173 #[.val (.int p0), .val (.int p1), .val (.int p2), .val (.int p3), .val (.int p4), .val (.int p5), .val (.int n), .val (.int s0), .val (.int d1), .val (.int tt), .val (.int d2), .val (.int s1), .val (.int s2), .val (.int (2 : Int32)), .val (.int (1 : Int32)), .val (.int (1 : Int32)), .val (.ref b150), .val (.ref b158), .unset, .unset] [])) _
    refine XS.iload X161.here hx rfl (hb hby at_173) rfl ?_
    refine XS.iconst X161.here hx rfl (hb hby at_175) ?_
    refine XS.icmpYes X161.here hx rfl (pc0 := 176) (pc' := 200) rfl (hb hby at_176) rfl (flt (by decide)).2.2.2 (by decide) (by decide) ?_
    refine XS.aload X161.here hx rfl (hb hby at_200) rfl rfl ?_
    refine XS.iload X161.here hx rfl (hb hby at_202) rfl ?_
    refine XS.iconst X161.here hx rfl (hb hby at_204) ?_
    refine XS.isub X161.here hx rfl (hb hby at_205) rfl ?_
    refine XS.aload X161.here hx rfl (hb hby at_206) rfl rfl ?_
    refine XS.iload X161.here hx rfl (hb hby at_208) rfl ?_
    exact kt
  obtain ⟨cl163, Ar163, -, S163, M163, H163, -⟩ := id ((V156.ext E158).other W161 ne_b150_b158)
  have hin163 : ¬ ((1 : Int32) < 0 ∨ cl163.slots.size ≤ ((1 : Int32)).toNatClampNeg) := inb_of S163 ⟨by decide, by decide⟩
  have hat163 : cl163.slots[((1 : Int32)).toNatClampNeg]? = some (.int s1) := Has.at H163 hin163 rfl
  refine own_thr (a := T161.setTop (mkF m 211 #[.val (.int p0), .val (.int p1), .val (.int p2), .val (.int p3), .val (.int p4), .val (.int p5), .val (.int n), .val (.int s0), .val (.int d1), .val (.int tt), .val (.int d2), .val (.int s1), .val (.int s2), .val (.int (2 : Int32)), .val (.int (1 : Int32)), .val (.int (1 : Int32)), .val (.ref b150), .val (.ref b158), .unset, .unset] [(.int s1), (.int (1 : Int32)), (.ref b158)])) (fun t kt => ?_) ?_
  · show Steps p.tables e below (T161.setTop (mkF m 210 #[.val (.int p0), .val (.int p1), .val (.int p2), .val (.int p3), .val (.int p4), .val (.int p5), .val (.int n), .val (.int s0), .val (.int d1), .val (.int tt), .val (.int d2), .val (.int s1), .val (.int s2), .val (.int (2 : Int32)), .val (.int (1 : Int32)), .val (.int (1 : Int32)), .val (.ref b150), .val (.ref b158), .unset, .unset] [(.int (1 : Int32)), (.ref b150), (.int (1 : Int32)), (.ref b158)])) _
    refine X161.iaload hx (j := (1 : Int32)) (v := (.int s1)) (by rw [e161]; exact Ar163.1) (State.isArrayOf_alike hZ.alike Ar163.2.1) Ar163.2.2 hin163 hat163 (g := (mkF m 210 #[.val (.int p0), .val (.int p1), .val (.int p2), .val (.int p3), .val (.int p4), .val (.int p5), .val (.int n), .val (.int s0), .val (.int d1), .val (.int tt), .val (.int d2), .val (.int s1), .val (.int s2), .val (.int (2 : Int32)), .val (.int (1 : Int32)), .val (.int (1 : Int32)), .val (.ref b150), .val (.ref b158), .unset, .unset] [(.int (1 : Int32)), (.ref b150), (.int (1 : Int32)), (.ref b158)])) rfl rfl (hb hby at_210) _ ?_
    exact kt
  obtain ⟨cl164, Ar164, q164, S164, M164, H164, G164⟩ := id V161
  have hin164 : ¬ ((1 : Int32) < 0 ∨ cl164.slots.size ≤ ((1 : Int32)).toNatClampNeg) := inb_of S164 ⟨by decide, by decide⟩
  obtain ⟨T164, h164, X164, e164, W164, st164⟩ := stI X161 hx hZ e161 Ar164 (j := (1 : Int32)) hin164 (g := (mkF m 211 #[.val (.int p0), .val (.int p1), .val (.int p2), .val (.int p3), .val (.int p4), .val (.int p5), .val (.int n), .val (.int s0), .val (.int d1), .val (.int tt), .val (.int d2), .val (.int s1), .val (.int s2), .val (.int (2 : Int32)), .val (.int (1 : Int32)), .val (.int (1 : Int32)), .val (.ref b150), .val (.ref b158), .unset, .unset] [(.int s1), (.int (1 : Int32)), (.ref b158)])) rfl rfl (hb hby at_211)
  have Z165 : n0 ≤ h164.size := Nat.le_trans Z162 (Nat.le_of_eq W164.size.symm)
  have Z165h : h0.size ≤ h164.size := Nat.le_trans Z162h (Nat.le_of_eq W164.size.symm)
  have V164 : Arv Z h164 b158 k158 .int (3 : Int32) [(.int s0), (.int s1), (.int (0 : Int32))] (.int (0 : Int32)) := Arv.set Ar164 q164 S164 M164 H164 G164 rfl W164 1 rfl (Nat.le_of_ble_eq_true rfl)
  obtain ⟨lc164, X164, N164⟩ := own_pack1 X164 N161 g_b158
  refine own_thr (a := T164.setTop (mkF m 212 #[.val (.int p0), .val (.int p1), .val (.int p2), .val (.int p3), .val (.int p4), .val (.int p5), .val (.int n), .val (.int s0), .val (.int d1), .val (.int tt), .val (.int d2), .val (.int s1), .val (.int s2), .val (.int (2 : Int32)), .val (.int (1 : Int32)), .val (.int (1 : Int32)), .val (.ref b150), .val (.ref b158), .unset, .unset] [])) (fun t kt => st164 t kt) ?_
  refine own_thr (a := T164.setTop (mkF m 239 #[.val (.int p0), .val (.int p1), .val (.int p2), .val (.int p3), .val (.int p4), .val (.int p5), .val (.int n), .val (.int s0), .val (.int d1), .val (.int tt), .val (.int d2), .val (.int s1), .val (.int s2), .val (.int (2 : Int32)), .val (.int (1 : Int32)), .val (.int (1 : Int32)), .val (.ref b150), .val (.ref b158), .unset, .unset] [])) (fun t kt => ?_) ?_
  · show Steps p.tables e below (T164.setTop (mkF m 212 #[.val (.int p0), .val (.int p1), .val (.int p2), .val (.int p3), .val (.int p4), .val (.int p5), .val (.int n), .val (.int s0), .val (.int d1), .val (.int tt), .val (.int d2), .val (.int s1), .val (.int s2), .val (.int (2 : Int32)), .val (.int (1 : Int32)), .val (.int (1 : Int32)), .val (.ref b150), .val (.ref b158), .unset, .unset] [])) _
    refine XS.goto X164.here hx rfl (pc0 := 212) (pc' := 239) rfl (hb hby at_212) (by decide) (by decide) ?_
    exact kt
  have c167 := (((V156.ext E158).other W161 ne_b150_b158).other W164 ne_b150_b158)
  obtain ⟨T166, h166, X166, e166, E166, A166, D166, U166, st166⟩ := newO X164 hx hZ hown (hw _ (List.mem_of_getElem? (i := 3) rfl)) (hw _ (List.mem_of_getElem? (i := 4) rfl)) (hw _ (List.mem_of_getElem? (i := 5) rfl)) e164 (g := (mkF m 239 #[.val (.int p0), .val (.int p1), .val (.int p2), .val (.int p3), .val (.int p4), .val (.int p5), .val (.int n), .val (.int s0), .val (.int d1), .val (.int tt), .val (.int d2), .val (.int s1), .val (.int s2), .val (.int (2 : Int32)), .val (.int (1 : Int32)), .val (.int (1 : Int32)), .val (.ref b150), .val (.ref b158), .unset, .unset] [])) rfl (hb hby at_239) (by decide : 2 + 1 ≤ _) (by decide : 6 + 4 ≤ _)
  obtain ⟨b166, g166⟩ : ∃ z, z = h164.size := ⟨_, rfl⟩
  rw [← g166] at A166 D166 st166 U166
  have g_b166 : n0 ≤ b166 := Nat.le_trans Z165 (Nat.le_of_eq g166.symm)
  have sz_b166 : h0.size ≤ b166 := Nat.le_trans Z165h (Nat.le_of_eq g166.symm)
  have lt_b150_b166 : b150 < b166 := Nat.lt_of_lt_of_le c167.lt (Nat.le_of_eq g166.symm)
  have ne_b150_b166 : b150 ≠ b166 := Nat.ne_of_lt lt_b150_b166
  have lt_b158_b166 : b158 < b166 := Nat.lt_of_lt_of_le V164.lt (Nat.le_of_eq g166.symm)
  have ne_b158_b166 : b158 ≠ b166 := Nat.ne_of_lt lt_b158_b166
  have Z168 : n0 ≤ h166.size := Nat.le_trans Z165 E166.1
  have Z168h : h0.size ≤ h166.size := Nat.le_trans Z165h E166.1
  have F_first_b166 : Fld Z h166 b166 "dev/chainlatch/bucket/Order" "first" "I" (.int (0 : Int32)) := D166 (Or.inl (hw _ (List.mem_of_getElem? (i := 13) rfl))) (ty := .int) (by decide)
  have F_last_b166 : Fld Z h166 b166 "dev/chainlatch/bucket/Order" "last" "I" (.int (0 : Int32)) := D166 (Or.inl (hw _ (List.mem_of_getElem? (i := 15) rfl))) (ty := .int) (by decide)
  have F_before_b166 : Fld Z h166 b166 "dev/chainlatch/bucket/Order" "before" "[I" .null := D166 (Or.inl (hw _ (List.mem_of_getElem? (i := 17) rfl))) (ty := (.array .int)) (by decide)
  have F_after_b166 : Fld Z h166 b166 "dev/chainlatch/bucket/Order" "after" "[I" .null := D166 (Or.inl (hw _ (List.mem_of_getElem? (i := 19) rfl))) (ty := (.array .int)) (by decide)
  refine own_thr (a := T166.setTop (mkF m 242 #[.val (.int p0), .val (.int p1), .val (.int p2), .val (.int p3), .val (.int p4), .val (.int p5), .val (.int n), .val (.int s0), .val (.int d1), .val (.int tt), .val (.int d2), .val (.int s1), .val (.int s2), .val (.int (2 : Int32)), .val (.int (1 : Int32)), .val (.int (1 : Int32)), .val (.ref b150), .val (.ref b158), .unset, .unset] [(.ref b166)])) (fun t kt => st166 t kt) ?_
  refine own_thr (a := T166.setTop (mkF m 245 #[.val (.int p0), .val (.int p1), .val (.int p2), .val (.int p3), .val (.int p4), .val (.int p5), .val (.int n), .val (.int s0), .val (.int d1), .val (.int tt), .val (.int d2), .val (.int s1), .val (.int s2), .val (.int (2 : Int32)), .val (.int (1 : Int32)), .val (.int (1 : Int32)), .val (.ref b150), .val (.ref b158), .unset, .unset] [(.int n), (.ref b166), (.ref b166)])) (fun t kt => ?_) ?_
  · show Steps p.tables e below (T166.setTop (mkF m 242 #[.val (.int p0), .val (.int p1), .val (.int p2), .val (.int p3), .val (.int p4), .val (.int p5), .val (.int n), .val (.int s0), .val (.int d1), .val (.int tt), .val (.int d2), .val (.int s1), .val (.int s2), .val (.int (2 : Int32)), .val (.int (1 : Int32)), .val (.int (1 : Int32)), .val (.ref b150), .val (.ref b158), .unset, .unset] [(.ref b166)])) _
    refine XS.dup X166.here hx rfl (hb hby at_242) rfl rfl ?_
    refine XS.iload X166.here hx rfl (hb hby at_243) rfl ?_
    exact kt
  obtain ⟨_, _, ⟨T169, L169, k169, n169⟩, -, X169, ⟨Lc169, hQ169, l169, y169, z169⟩, st169⟩ := X166.specialBack hx (y := (⟨"dev/chainlatch/bucket/Order", "<init>", "(I)V"⟩ : MethodName)) rfl hown (mvT hZ (hw _ (List.mem_of_getElem? (i := 6) rfl))) (mvT hZ (hw _ (List.mem_of_getElem? (i := 7) rfl))) (mvT hZ (hw _ (List.mem_of_getElem? (i := 8) rfl))) (by decide) (backOf (W := 1) (rmI l Z a0 hw [] b166 n h166 n0 Z168 A166 F_first_b166 F_last_b166 F_before_b166 F_after_b166 g_b166 hn0 hn1) hZ (hw _ (List.mem_of_getElem? (i := 8) rfl)) (hw _ (List.mem_of_getElem? (i := 5) rfl)) (by decide) (by decide)) (g := (mkF m 245 #[.val (.int p0), .val (.int p1), .val (.int p2), .val (.int p3), .val (.int p4), .val (.int p5), .val (.int n), .val (.int s0), .val (.int d1), .val (.int tt), .val (.int d2), .val (.int s1), .val (.int s2), .val (.int (2 : Int32)), .val (.int (1 : Int32)), .val (.int (1 : Int32)), .val (.ref b150), .val (.ref b158), .unset, .unset] [(.int n), (.ref b166), (.ref b166)])) rfl (by rw [hml]; rfl) (Steps.refl _) (a := b166) (argsL := [(.int n)]) (rest := [(.ref b166)]) (lenOf pd__28I_29V rfl) rfl (by show 2 * 0 + _ ≤ _; exact Nat.le_of_eq rfl) (hb hby at_245) (fun _ _ => ⟨rfl, e166, (by decide : 3 + 2 ≤ _), (by decide : 10 + 20 ≤ _)⟩)
  dsimp only [Pt.U, Pt.locs, Pt.cells, Pt.slots] at X169 l169 y169 z169 st169 hQ169
  obtain ⟨B169, A169, rfl, N169q, K169, o169_e, o169_f, o169_l, o169_b, o169_a, o169_B, o169_A, hB169, hBA169⟩ := hQ169
  have ne_b150_B169 : b150 ≠ B169 := Nat.ne_of_lt (Nat.lt_of_lt_of_le (c167.ext E166).lt hB169)
  have ne_b150_A169 : b150 ≠ A169 := Nat.ne_of_lt (Nat.lt_trans (Nat.lt_of_lt_of_le (c167.ext E166).lt hB169) hBA169)
  have ne_b158_B169 : b158 ≠ B169 := Nat.ne_of_lt (Nat.lt_of_lt_of_le (V164.ext E166).lt hB169)
  have ne_b158_A169 : b158 ≠ A169 := Nat.ne_of_lt (Nat.lt_trans (Nat.lt_of_lt_of_le (V164.ext E166).lt hB169) hBA169)
  have ne_b166_B169 : b166 ≠ B169 := Nat.ne_of_lt (Nat.lt_of_lt_of_le A166.lt hB169)
  have ne_b166_A169 : b166 ≠ A169 := Nat.ne_of_lt (Nat.lt_trans (Nat.lt_of_lt_of_le A166.lt hB169) hBA169)
  have ne_B169_A169 : B169 ≠ A169 := Nat.ne_of_lt hBA169
  have g_B169 : n0 ≤ B169 := Nat.le_trans Z168 hB169
  have g_A169 : n0 ≤ A169 := Nat.le_trans g_B169 (Nat.le_of_lt hBA169)
  have Z170 : n0 ≤ T169.heap.size := Nat.le_trans Z168 K169.1
  have Z170h : h0.size ≤ T169.heap.size := Nat.le_trans Z168h K169.1
  obtain ⟨lc169, X169, N169⟩ := own_pack X169 l169 y169 z169 N164 N169q (C := 5) (S' := 30) rfl rfl
  refine own_thr (a := T169.setTop (mkF m 248 #[.val (.int p0), .val (.int p1), .val (.int p2), .val (.int p3), .val (.int p4), .val (.int p5), .val (.int n), .val (.int s0), .val (.int d1), .val (.int tt), .val (.int d2), .val (.int s1), .val (.int s2), .val (.int (2 : Int32)), .val (.int (1 : Int32)), .val (.int (1 : Int32)), .val (.ref b150), .val (.ref b158), .unset, .unset] [(.ref b166)])) (fun t kt => st169.trans kt) ?_
  refine own_thr (a := T169.setTop (mkF m 255 #[.val (.int p0), .val (.int p1), .val (.int p2), .val (.int p3), .val (.int p4), .val (.int p5), .val (.int n), .val (.int s0), .val (.int d1), .val (.int tt), .val (.int d2), .val (.int s1), .val (.int s2), .val (.int (2 : Int32)), .val (.int (1 : Int32)), .val (.int (1 : Int32)), .val (.ref b150), .val (.ref b158), .val (.ref b166), .unset] [(.int (0 : Int32)), (.ref b150), (.ref b166)])) (fun t kt => ?_) ?_
  · show Steps p.tables e below (T169.setTop (mkF m 248 #[.val (.int p0), .val (.int p1), .val (.int p2), .val (.int p3), .val (.int p4), .val (.int p5), .val (.int n), .val (.int s0), .val (.int d1), .val (.int tt), .val (.int d2), .val (.int s1), .val (.int s2), .val (.int (2 : Int32)), .val (.int (1 : Int32)), .val (.int (1 : Int32)), .val (.ref b150), .val (.ref b158), .unset, .unset] [(.ref b166)])) _
    refine XS.astore X169.here hx rfl (hb hby at_248) rfl rfl (l' := #[.val (.int p0), .val (.int p1), .val (.int p2), .val (.int p3), .val (.int p4), .val (.int p5), .val (.int n), .val (.int s0), .val (.int d1), .val (.int tt), .val (.int d2), .val (.int s1), .val (.int s2), .val (.int (2 : Int32)), .val (.int (1 : Int32)), .val (.int (1 : Int32)), .val (.ref b150), .val (.ref b158), .val (.ref b166), .unset]) rfl ?_
    refine XS.aload X169.here hx rfl (hb hby at_250) rfl rfl ?_
    refine XS.aload X169.here hx rfl (hb hby at_252) rfl rfl ?_
    refine XS.iconst X169.here hx rfl (hb hby at_254) ?_
    exact kt
  obtain ⟨cl171, Ar171, -, S171, M171, H171, -⟩ := id ((c167.ext E166).keep K169 (ninS ne_b150_b166 nin0))
  have hin171 : ¬ ((0 : Int32) < 0 ∨ cl171.slots.size ≤ ((0 : Int32)).toNatClampNeg) := inb_of S171 ⟨by decide, by decide⟩
  have hat171 : cl171.slots[((0 : Int32)).toNatClampNeg]? = some (.int s0) := Has.at H171 hin171 rfl
  refine own_thr (a := T169.setTop (mkF m 256 #[.val (.int p0), .val (.int p1), .val (.int p2), .val (.int p3), .val (.int p4), .val (.int p5), .val (.int n), .val (.int s0), .val (.int d1), .val (.int tt), .val (.int d2), .val (.int s1), .val (.int s2), .val (.int (2 : Int32)), .val (.int (1 : Int32)), .val (.int (1 : Int32)), .val (.ref b150), .val (.ref b158), .val (.ref b166), .unset] [(.int s0), (.ref b166)])) (fun t kt => ?_) ?_
  · show Steps p.tables e below (T169.setTop (mkF m 255 #[.val (.int p0), .val (.int p1), .val (.int p2), .val (.int p3), .val (.int p4), .val (.int p5), .val (.int n), .val (.int s0), .val (.int d1), .val (.int tt), .val (.int d2), .val (.int s1), .val (.int s2), .val (.int (2 : Int32)), .val (.int (1 : Int32)), .val (.int (1 : Int32)), .val (.ref b150), .val (.ref b158), .val (.ref b166), .unset] [(.int (0 : Int32)), (.ref b150), (.ref b166)])) _
    refine X169.iaload hx (j := (0 : Int32)) (v := (.int s0)) Ar171.1 (State.isArrayOf_alike hZ.alike Ar171.2.1) Ar171.2.2 hin171 hat171 (g := (mkF m 255 #[.val (.int p0), .val (.int p1), .val (.int p2), .val (.int p3), .val (.int p4), .val (.int p5), .val (.int n), .val (.int s0), .val (.int d1), .val (.int tt), .val (.int d2), .val (.int s1), .val (.int s2), .val (.int (2 : Int32)), .val (.int (1 : Int32)), .val (.int (1 : Int32)), .val (.ref b150), .val (.ref b158), .val (.ref b166), .unset] [(.int (0 : Int32)), (.ref b150), (.ref b166)])) rfl rfl (hb hby at_255) _ ?_
    exact kt
  obtain ⟨cq172, kq172, q172a, q172b, q172c⟩ := isOf hZ rfl o169_e
  obtain ⟨_, _, ⟨T172, L172, k172, n172⟩, -, X172, ⟨Lc172, hQ172, l172, y172, z172⟩, st172⟩ := X169.virtualBack hx (y := (⟨"dev/chainlatch/bucket/Order", "append", "(I)V"⟩ : MethodName)) (z := (⟨"dev/chainlatch/bucket/Order", "append", "(I)V"⟩ : MethodName)) hown (mvT hZ (hw _ (List.mem_of_getElem? (i := 20) rfl))) (mvT hZ (hw _ (List.mem_of_getElem? (i := 21) rfl))) (notFace_of_selects (args := #[]) (mvT hZ (hw _ (List.mem_of_getElem? (i := 23) rfl)))) (mvT hZ (hw _ (List.mem_of_getElem? (i := 23) rfl))) (mvT hZ (hw _ (List.mem_of_getElem? (i := 22) rfl))) (by decide) (backOf (W := 0) (rmA1 l Z a0 hw [] b166 s0 B169 A169 n (-1 : Int32) (-1 : Int32) (fun _ => 0) (fun _ => 0) T169.heap n0 Z170 o169_e o169_f o169_l o169_b o169_a o169_B o169_A g_b166 g_B169 g_A169 ne_b166_B169 ne_b166_A169 ne_B169_A169 hs00 hs01 rfl) hZ (hw _ (List.mem_of_getElem? (i := 24) rfl)) (hw _ (List.mem_of_getElem? (i := 5) rfl)) (by decide) (by decide)) q172a q172c (g := (mkF m 256 #[.val (.int p0), .val (.int p1), .val (.int p2), .val (.int p3), .val (.int p4), .val (.int p5), .val (.int n), .val (.int s0), .val (.int d1), .val (.int tt), .val (.int d2), .val (.int s1), .val (.int s2), .val (.int (2 : Int32)), .val (.int (1 : Int32)), .val (.int (1 : Int32)), .val (.ref b150), .val (.ref b158), .val (.ref b166), .unset] [(.int s0), (.ref b166)])) rfl (by rw [hml]; rfl) (Steps.refl _) (argsL := [(.int s0)]) (rest := []) (lenOf pd__28I_29V rfl) rfl (by show 2 * 0 + _ ≤ _; exact Nat.le_of_eq rfl) (hb hby at_256) (fun _ _ => ⟨rfl, rfl, (by decide : 5 + 0 ≤ _), (by decide : 30 + 0 ≤ _)⟩)
  dsimp only [Pt.U, Pt.locs, Pt.cells, Pt.slots] at X172 l172 y172 z172 st172 hQ172
  obtain ⟨rfl, N172q, K172, o172_0, o172_1, o172_2, o172_3, o172_4, o172_5, o172_6⟩ := hQ172
  have Z173 : n0 ≤ T172.heap.size := Nat.le_trans Z170 K172.1
  have Z173h : h0.size ≤ T172.heap.size := Nat.le_trans Z170h K172.1
  obtain ⟨lc172, X172, N172⟩ := own_pack X172 l172 y172 z172 N169 N172q (C := 5) (S' := 30) rfl rfl
  refine own_thr (a := T172.setTop (mkF m 259 #[.val (.int p0), .val (.int p1), .val (.int p2), .val (.int p3), .val (.int p4), .val (.int p5), .val (.int n), .val (.int s0), .val (.int d1), .val (.int tt), .val (.int d2), .val (.int s1), .val (.int s2), .val (.int (2 : Int32)), .val (.int (1 : Int32)), .val (.int (1 : Int32)), .val (.ref b150), .val (.ref b158), .val (.ref b166), .unset] [])) (fun t kt => st172.trans kt) ?_
  refine own_thr (a := T172.setTop (mkF m 270 #[.val (.int p0), .val (.int p1), .val (.int p2), .val (.int p3), .val (.int p4), .val (.int p5), .val (.int n), .val (.int s0), .val (.int d1), .val (.int tt), .val (.int d2), .val (.int s1), .val (.int s2), .val (.int (2 : Int32)), .val (.int (1 : Int32)), .val (.int (1 : Int32)), .val (.ref b150), .val (.ref b158), .val (.ref b166), .unset] [(.int (1 : Int32)), (.ref b150), (.ref b166)])) (fun t kt => ?_) ?_
  · show Steps p.tables e below (T172.setTop (mkF m 259 #[.val (.int p0), .val (.int p1), .val (.int p2), .val (.int p3), .val (.int p4), .val (.int p5), .val (.int n), .val (.int s0), .val (.int d1), .val (.int tt), .val (.int d2), .val (.int s1), .val (.int s2), .val (.int (2 : Int32)), .val (.int (1 : Int32)), .val (.int (1 : Int32)), .val (.ref b150), .val (.ref b158), .val (.ref b166), .unset] [])) _
    refine XS.iload X172.here hx rfl (hb hby at_259) rfl ?_
    refine XS.iconst X172.here hx rfl (hb hby at_261) ?_
    refine XS.icmpNo X172.here hx rfl (hb hby at_262) rfl (tlt (by decide)).2.2.2 ?_
    refine XS.aload X172.here hx rfl (hb hby at_265) rfl rfl ?_
    refine XS.aload X172.here hx rfl (hb hby at_267) rfl rfl ?_
    refine XS.iconst X172.here hx rfl (hb hby at_269) ?_
    exact kt
  have c175 := (((c167.ext E166).keep K169 (ninS ne_b150_b166 nin0)).keep K172 (ninS ne_b150_b166 (ninS ne_b150_B169 (ninS ne_b150_A169 nin0))))
  obtain ⟨cl174, Ar174, -, S174, M174, H174, -⟩ := id c175
  have hin174 : ¬ ((1 : Int32) < 0 ∨ cl174.slots.size ≤ ((1 : Int32)).toNatClampNeg) := inb_of S174 ⟨by decide, by decide⟩
  have hat174 : cl174.slots[((1 : Int32)).toNatClampNeg]? = some (.int s1) := Has.at H174 hin174 rfl
  refine own_thr (a := T172.setTop (mkF m 271 #[.val (.int p0), .val (.int p1), .val (.int p2), .val (.int p3), .val (.int p4), .val (.int p5), .val (.int n), .val (.int s0), .val (.int d1), .val (.int tt), .val (.int d2), .val (.int s1), .val (.int s2), .val (.int (2 : Int32)), .val (.int (1 : Int32)), .val (.int (1 : Int32)), .val (.ref b150), .val (.ref b158), .val (.ref b166), .unset] [(.int s1), (.ref b166)])) (fun t kt => ?_) ?_
  · show Steps p.tables e below (T172.setTop (mkF m 270 #[.val (.int p0), .val (.int p1), .val (.int p2), .val (.int p3), .val (.int p4), .val (.int p5), .val (.int n), .val (.int s0), .val (.int d1), .val (.int tt), .val (.int d2), .val (.int s1), .val (.int s2), .val (.int (2 : Int32)), .val (.int (1 : Int32)), .val (.int (1 : Int32)), .val (.ref b150), .val (.ref b158), .val (.ref b166), .unset] [(.int (1 : Int32)), (.ref b150), (.ref b166)])) _
    refine X172.iaload hx (j := (1 : Int32)) (v := (.int s1)) Ar174.1 (State.isArrayOf_alike hZ.alike Ar174.2.1) Ar174.2.2 hin174 hat174 (g := (mkF m 270 #[.val (.int p0), .val (.int p1), .val (.int p2), .val (.int p3), .val (.int p4), .val (.int p5), .val (.int n), .val (.int s0), .val (.int d1), .val (.int tt), .val (.int d2), .val (.int s1), .val (.int s2), .val (.int (2 : Int32)), .val (.int (1 : Int32)), .val (.int (1 : Int32)), .val (.ref b150), .val (.ref b158), .val (.ref b166), .unset] [(.int (1 : Int32)), (.ref b150), (.ref b166)])) rfl rfl (hb hby at_270) _ ?_
    exact kt
  obtain ⟨cq176, kq176, q176a, q176b, q176c⟩ := isOf hZ rfl o172_0
  obtain ⟨_, _, ⟨T176, L176, k176, n176⟩, -, X176, ⟨Lc176, hQ176, l176, y176, z176⟩, st176⟩ := X172.virtualBack hx (y := (⟨"dev/chainlatch/bucket/Order", "append", "(I)V"⟩ : MethodName)) (z := (⟨"dev/chainlatch/bucket/Order", "append", "(I)V"⟩ : MethodName)) hown (mvT hZ (hw _ (List.mem_of_getElem? (i := 20) rfl))) (mvT hZ (hw _ (List.mem_of_getElem? (i := 21) rfl))) (notFace_of_selects (args := #[]) (mvT hZ (hw _ (List.mem_of_getElem? (i := 23) rfl)))) (mvT hZ (hw _ (List.mem_of_getElem? (i := 23) rfl))) (mvT hZ (hw _ (List.mem_of_getElem? (i := 22) rfl))) (by decide) (backOf (W := 0) (rmA2 l Z a0 hw [] b166 s1 B169 A169 n s0 s0 (own_up (fun _ => 0) s0 ((-1 : Int32) + (1 : Int32))) (own_up (fun _ => 0) s0 (0 : Int32)) T172.heap n0 Z173 o172_0 o172_1 o172_2 o172_3 o172_4 o172_5 o172_6 g_b166 g_B169 g_A169 ne_b166_B169 ne_b166_A169 ne_B169_A169 hs10 hs11 hs00 hs01) hZ (hw _ (List.mem_of_getElem? (i := 24) rfl)) (hw _ (List.mem_of_getElem? (i := 5) rfl)) (by decide) (by decide)) q176a q176c (g := (mkF m 271 #[.val (.int p0), .val (.int p1), .val (.int p2), .val (.int p3), .val (.int p4), .val (.int p5), .val (.int n), .val (.int s0), .val (.int d1), .val (.int tt), .val (.int d2), .val (.int s1), .val (.int s2), .val (.int (2 : Int32)), .val (.int (1 : Int32)), .val (.int (1 : Int32)), .val (.ref b150), .val (.ref b158), .val (.ref b166), .unset] [(.int s1), (.ref b166)])) rfl (by rw [hml]; rfl) (Steps.refl _) (argsL := [(.int s1)]) (rest := []) (lenOf pd__28I_29V rfl) rfl (by show 2 * 0 + _ ≤ _; exact Nat.le_of_eq rfl) (hb hby at_271) (fun _ _ => ⟨rfl, rfl, (by decide : 5 + 0 ≤ _), (by decide : 30 + 0 ≤ _)⟩)
  dsimp only [Pt.U, Pt.locs, Pt.cells, Pt.slots] at X176 l176 y176 z176 st176 hQ176
  obtain ⟨rfl, N176q, K176, o176_0, o176_1, o176_2, o176_3, o176_4, o176_5, o176_6⟩ := hQ176
  have Z177 : n0 ≤ T176.heap.size := Nat.le_trans Z173 K176.1
  have Z177h : h0.size ≤ T176.heap.size := Nat.le_trans Z173h K176.1
  obtain ⟨lc176, X176, N176⟩ := own_pack X176 l176 y176 z176 N172 N176q (C := 5) (S' := 30) rfl rfl
  refine own_thr (a := T176.setTop (mkF m 274 #[.val (.int p0), .val (.int p1), .val (.int p2), .val (.int p3), .val (.int p4), .val (.int p5), .val (.int n), .val (.int s0), .val (.int d1), .val (.int tt), .val (.int d2), .val (.int s1), .val (.int s2), .val (.int (2 : Int32)), .val (.int (1 : Int32)), .val (.int (1 : Int32)), .val (.ref b150), .val (.ref b158), .val (.ref b166), .unset] [])) (fun t kt => st176.trans kt) ?_
  refine own_thr (a := T176.setTop (mkF m 300 #[.val (.int p0), .val (.int p1), .val (.int p2), .val (.int p3), .val (.int p4), .val (.int p5), .val (.int n), .val (.int s0), .val (.int d1), .val (.int tt), .val (.int d2), .val (.int s1), .val (.int s2), .val (.int (2 : Int32)), .val (.int (1 : Int32)), .val (.int (1 : Int32)), .val (.ref b150), .val (.ref b158), .val (.ref b166), .unset] [(.int (1 : Int32)), (.ref b150), (.ref b166)])) (fun t kt => ?_) ?_
  · show Steps p.tables e below (T176.setTop (mkF m 274 #[.val (.int p0), .val (.int p1), .val (.int p2), .val (.int p3), .val (.int p4), .val (.int p5), .val (.int n), .val (.int s0), .val (.int d1), .val (.int tt), .val (.int d2), .val (.int s1), .val (.int s2), .val (.int (2 : Int32)), .val (.int (1 : Int32)), .val (.int (1 : Int32)), .val (.ref b150), .val (.ref b158), .val (.ref b166), .unset] [])) _
    refine XS.iload X176.here hx rfl (hb hby at_274) rfl ?_
    refine XS.iconst X176.here hx rfl (hb hby at_276) ?_
    refine XS.icmpYes X176.here hx rfl (pc0 := 277) (pc' := 289) rfl (hb hby at_277) rfl (flt (by decide)).2.2.2 (by decide) (by decide) ?_
    refine XS.iload X176.here hx rfl (hb hby at_289) rfl ?_
    refine XS.ifNo X176.here hx rfl (hb hby at_291) rfl ((if0 _ _).trans (feq (by decide)).1) ?_
    refine XS.aload X176.here hx rfl (hb hby at_294) rfl rfl ?_
    refine XS.aload X176.here hx rfl (hb hby at_296) rfl rfl ?_
    refine XS.iload X176.here hx rfl (hb hby at_298) rfl ?_
    exact kt
  have c179 := (c175.keep K176 (ninS ne_b150_b166 (ninS ne_b150_B169 (ninS ne_b150_A169 nin0))))
  obtain ⟨cl178, Ar178, -, S178, M178, H178, -⟩ := id c179
  have hin178 : ¬ ((1 : Int32) < 0 ∨ cl178.slots.size ≤ ((1 : Int32)).toNatClampNeg) := inb_of S178 ⟨by decide, by decide⟩
  have hat178 : cl178.slots[((1 : Int32)).toNatClampNeg]? = some (.int s1) := Has.at H178 hin178 rfl
  refine own_thr (a := T176.setTop (mkF m 301 #[.val (.int p0), .val (.int p1), .val (.int p2), .val (.int p3), .val (.int p4), .val (.int p5), .val (.int n), .val (.int s0), .val (.int d1), .val (.int tt), .val (.int d2), .val (.int s1), .val (.int s2), .val (.int (2 : Int32)), .val (.int (1 : Int32)), .val (.int (1 : Int32)), .val (.ref b150), .val (.ref b158), .val (.ref b166), .unset] [(.int s1), (.ref b166)])) (fun t kt => ?_) ?_
  · show Steps p.tables e below (T176.setTop (mkF m 300 #[.val (.int p0), .val (.int p1), .val (.int p2), .val (.int p3), .val (.int p4), .val (.int p5), .val (.int n), .val (.int s0), .val (.int d1), .val (.int tt), .val (.int d2), .val (.int s1), .val (.int s2), .val (.int (2 : Int32)), .val (.int (1 : Int32)), .val (.int (1 : Int32)), .val (.ref b150), .val (.ref b158), .val (.ref b166), .unset] [(.int (1 : Int32)), (.ref b150), (.ref b166)])) _
    refine X176.iaload hx (j := (1 : Int32)) (v := (.int s1)) Ar178.1 (State.isArrayOf_alike hZ.alike Ar178.2.1) Ar178.2.2 hin178 hat178 (g := (mkF m 300 #[.val (.int p0), .val (.int p1), .val (.int p2), .val (.int p3), .val (.int p4), .val (.int p5), .val (.int n), .val (.int s0), .val (.int d1), .val (.int tt), .val (.int d2), .val (.int s1), .val (.int s2), .val (.int (2 : Int32)), .val (.int (1 : Int32)), .val (.int (1 : Int32)), .val (.ref b150), .val (.ref b158), .val (.ref b166), .unset] [(.int (1 : Int32)), (.ref b150), (.ref b166)])) rfl rfl (hb hby at_300) _ ?_
    exact kt
  obtain ⟨cq180, kq180, q180a, q180b, q180c⟩ := isOf hZ rfl o176_0
  obtain ⟨_, _, ⟨T180, L180, k180, n180⟩, -, X180, ⟨Lc180, hQ180, l180, y180, z180⟩, st180⟩ := X176.virtualBack hx (y := (⟨"dev/chainlatch/bucket/Order", "remove", "(I)V"⟩ : MethodName)) (z := (⟨"dev/chainlatch/bucket/Order", "remove", "(I)V"⟩ : MethodName)) hown (mvT hZ (hw _ (List.mem_of_getElem? (i := 25) rfl))) (mvT hZ (hw _ (List.mem_of_getElem? (i := 26) rfl))) (notFace_of_selects (args := #[]) (mvT hZ (hw _ (List.mem_of_getElem? (i := 28) rfl)))) (mvT hZ (hw _ (List.mem_of_getElem? (i := 28) rfl))) (mvT hZ (hw _ (List.mem_of_getElem? (i := 27) rfl))) (by decide) (backOf (W := 0) (rmR10 l Z a0 hw [] b166 s1 B169 A169 n s0 s1 (own_up (own_up (fun _ => 0) s0 ((-1 : Int32) + (1 : Int32))) s1 (s0 + (1 : Int32))) (own_up (own_up (own_up (fun _ => 0) s0 (0 : Int32)) s1 (0 : Int32)) s0 (s1 + (1 : Int32))) T176.heap n0 Z177 o176_0 o176_1 o176_2 o176_3 o176_4 o176_5 o176_6 g_b166 g_B169 g_A169 ne_b166_B169 ne_b166_A169 ne_B169_A169 hs10 hs11 (by rw [show (((own_up (own_up (fun _ => 0) s0 ((-1 : Int32) + (1 : Int32))) s1 (s0 + (1 : Int32))) s1) - (1 : Int32)) = s0 by simp [own_up, own_as, n01, n10, n02, n20, n12, n21]]; exact hs00) (by rw [show (((own_up (own_up (fun _ => 0) s0 ((-1 : Int32) + (1 : Int32))) s1 (s0 + (1 : Int32))) s1) - (1 : Int32)) = s0 by simp [own_up, own_as, n01, n10, n02, n20, n12, n21]]; exact hs01) (by simp [own_up, own_as, n01, n10, n02, n20, n12, n21] : (((own_up (own_up (own_up (fun _ => 0) s0 (0 : Int32)) s1 (0 : Int32)) s0 (s1 + (1 : Int32))) s1) - (1 : Int32)) = (-1 : Int32))) hZ (hw _ (List.mem_of_getElem? (i := 29) rfl)) (hw _ (List.mem_of_getElem? (i := 5) rfl)) (by decide) (by decide)) q180a q180c (g := (mkF m 301 #[.val (.int p0), .val (.int p1), .val (.int p2), .val (.int p3), .val (.int p4), .val (.int p5), .val (.int n), .val (.int s0), .val (.int d1), .val (.int tt), .val (.int d2), .val (.int s1), .val (.int s2), .val (.int (2 : Int32)), .val (.int (1 : Int32)), .val (.int (1 : Int32)), .val (.ref b150), .val (.ref b158), .val (.ref b166), .unset] [(.int s1), (.ref b166)])) rfl (by rw [hml]; rfl) (Steps.refl _) (argsL := [(.int s1)]) (rest := []) (lenOf pd__28I_29V rfl) rfl (by show 2 * 0 + _ ≤ _; exact Nat.le_of_eq rfl) (hb hby at_301) (fun _ _ => ⟨rfl, rfl, (by decide : 5 + 0 ≤ _), (by decide : 30 + 0 ≤ _)⟩)
  dsimp only [Pt.U, Pt.locs, Pt.cells, Pt.slots] at X180 l180 y180 z180 st180 hQ180
  obtain ⟨rfl, N180q, K180, o180_0, o180_1, o180_2, o180_3, o180_4, o180_5, o180_6⟩ := hQ180
  have Z181 : n0 ≤ T180.heap.size := Nat.le_trans Z177 K180.1
  have Z181h : h0.size ≤ T180.heap.size := Nat.le_trans Z177h K180.1
  obtain ⟨lc180, X180, N180⟩ := own_pack X180 l180 y180 z180 N176 N180q (C := 5) (S' := 30) rfl rfl
  refine own_thr (a := T180.setTop (mkF m 304 #[.val (.int p0), .val (.int p1), .val (.int p2), .val (.int p3), .val (.int p4), .val (.int p5), .val (.int n), .val (.int s0), .val (.int d1), .val (.int tt), .val (.int d2), .val (.int s1), .val (.int s2), .val (.int (2 : Int32)), .val (.int (1 : Int32)), .val (.int (1 : Int32)), .val (.ref b150), .val (.ref b158), .val (.ref b166), .unset] [])) (fun t kt => st180.trans kt) ?_
  have el_last : (((own_up (own_up (fun _ => 0) s0 ((-1 : Int32) + (1 : Int32))) s1 (s0 + (1 : Int32))) s1) - (1 : Int32)) = s0 := by simp [own_up, own_as, n01, n10, n02, n20, n12, n21]
  rw [el_last] at o180_2
  refine own_thr (a := T180.setTop (mkF m 310 #[.val (.int p0), .val (.int p1), .val (.int p2), .val (.int p3), .val (.int p4), .val (.int p5), .val (.int n), .val (.int s0), .val (.int d1), .val (.int tt), .val (.int d2), .val (.int s1), .val (.int s2), .val (.int (2 : Int32)), .val (.int (1 : Int32)), .val (.int (1 : Int32)), .val (.ref b150), .val (.ref b158), .val (.ref b166), .unset] [(.int (1 : Int32)), (.ref b150), (.ref b166)])) (fun t kt => ?_) ?_
  · show Steps p.tables e below (T180.setTop (mkF m 304 #[.val (.int p0), .val (.int p1), .val (.int p2), .val (.int p3), .val (.int p4), .val (.int p5), .val (.int n), .val (.int s0), .val (.int d1), .val (.int tt), .val (.int d2), .val (.int s1), .val (.int s2), .val (.int (2 : Int32)), .val (.int (1 : Int32)), .val (.int (1 : Int32)), .val (.ref b150), .val (.ref b158), .val (.ref b166), .unset] [])) _
    refine XS.aload X180.here hx rfl (hb hby at_304) rfl rfl ?_
    refine XS.aload X180.here hx rfl (hb hby at_306) rfl rfl ?_
    refine XS.iload X180.here hx rfl (hb hby at_308) rfl ?_
    exact kt
  have c183 := (c179.keep K180 (ninS ne_b150_b166 (ninS ne_b150_B169 (ninS ne_b150_A169 nin0))))
  obtain ⟨cl182, Ar182, -, S182, M182, H182, -⟩ := id c183
  have hin182 : ¬ ((1 : Int32) < 0 ∨ cl182.slots.size ≤ ((1 : Int32)).toNatClampNeg) := inb_of S182 ⟨by decide, by decide⟩
  have hat182 : cl182.slots[((1 : Int32)).toNatClampNeg]? = some (.int s1) := Has.at H182 hin182 rfl
  refine own_thr (a := T180.setTop (mkF m 311 #[.val (.int p0), .val (.int p1), .val (.int p2), .val (.int p3), .val (.int p4), .val (.int p5), .val (.int n), .val (.int s0), .val (.int d1), .val (.int tt), .val (.int d2), .val (.int s1), .val (.int s2), .val (.int (2 : Int32)), .val (.int (1 : Int32)), .val (.int (1 : Int32)), .val (.ref b150), .val (.ref b158), .val (.ref b166), .unset] [(.int s1), (.ref b166)])) (fun t kt => ?_) ?_
  · show Steps p.tables e below (T180.setTop (mkF m 310 #[.val (.int p0), .val (.int p1), .val (.int p2), .val (.int p3), .val (.int p4), .val (.int p5), .val (.int n), .val (.int s0), .val (.int d1), .val (.int tt), .val (.int d2), .val (.int s1), .val (.int s2), .val (.int (2 : Int32)), .val (.int (1 : Int32)), .val (.int (1 : Int32)), .val (.ref b150), .val (.ref b158), .val (.ref b166), .unset] [(.int (1 : Int32)), (.ref b150), (.ref b166)])) _
    refine X180.iaload hx (j := (1 : Int32)) (v := (.int s1)) Ar182.1 (State.isArrayOf_alike hZ.alike Ar182.2.1) Ar182.2.2 hin182 hat182 (g := (mkF m 310 #[.val (.int p0), .val (.int p1), .val (.int p2), .val (.int p3), .val (.int p4), .val (.int p5), .val (.int n), .val (.int s0), .val (.int d1), .val (.int tt), .val (.int d2), .val (.int s1), .val (.int s2), .val (.int (2 : Int32)), .val (.int (1 : Int32)), .val (.int (1 : Int32)), .val (.ref b150), .val (.ref b158), .val (.ref b166), .unset] [(.int (1 : Int32)), (.ref b150), (.ref b166)])) rfl rfl (hb hby at_310) _ ?_
    exact kt
  obtain ⟨cq184, kq184, q184a, q184b, q184c⟩ := isOf hZ rfl o180_0
  obtain ⟨_, _, ⟨T184, L184, k184, n184⟩, -, X184, ⟨Lc184, hQ184, l184, y184, z184⟩, st184⟩ := X180.virtualBack hx (y := (⟨"dev/chainlatch/bucket/Order", "append", "(I)V"⟩ : MethodName)) (z := (⟨"dev/chainlatch/bucket/Order", "append", "(I)V"⟩ : MethodName)) hown (mvT hZ (hw _ (List.mem_of_getElem? (i := 20) rfl))) (mvT hZ (hw _ (List.mem_of_getElem? (i := 21) rfl))) (notFace_of_selects (args := #[]) (mvT hZ (hw _ (List.mem_of_getElem? (i := 23) rfl)))) (mvT hZ (hw _ (List.mem_of_getElem? (i := 23) rfl))) (mvT hZ (hw _ (List.mem_of_getElem? (i := 22) rfl))) (by decide) (backOf (W := 0) (rmA2 l Z a0 hw [] b166 s1 B169 A169 n s0 s0 (own_up (own_up (own_up (fun _ => 0) s0 ((-1 : Int32) + (1 : Int32))) s1 (s0 + (1 : Int32))) s1 (0 : Int32)) (own_up (own_up (own_up (own_up (own_up (fun _ => 0) s0 (0 : Int32)) s1 (0 : Int32)) s0 (s1 + (1 : Int32))) (((own_up (own_up (fun _ => 0) s0 ((-1 : Int32) + (1 : Int32))) s1 (s0 + (1 : Int32))) s1) - (1 : Int32)) ((((own_up (own_up (own_up (fun _ => 0) s0 (0 : Int32)) s1 (0 : Int32)) s0 (s1 + (1 : Int32))) s1) - (1 : Int32)) + (1 : Int32))) s1 (0 : Int32)) T180.heap n0 Z181 o180_0 o180_1 o180_2 o180_3 o180_4 o180_5 o180_6 g_b166 g_B169 g_A169 ne_b166_B169 ne_b166_A169 ne_B169_A169 hs10 hs11 hs00 hs01) hZ (hw _ (List.mem_of_getElem? (i := 24) rfl)) (hw _ (List.mem_of_getElem? (i := 5) rfl)) (by decide) (by decide)) q184a q184c (g := (mkF m 311 #[.val (.int p0), .val (.int p1), .val (.int p2), .val (.int p3), .val (.int p4), .val (.int p5), .val (.int n), .val (.int s0), .val (.int d1), .val (.int tt), .val (.int d2), .val (.int s1), .val (.int s2), .val (.int (2 : Int32)), .val (.int (1 : Int32)), .val (.int (1 : Int32)), .val (.ref b150), .val (.ref b158), .val (.ref b166), .unset] [(.int s1), (.ref b166)])) rfl (by rw [hml]; rfl) (Steps.refl _) (argsL := [(.int s1)]) (rest := []) (lenOf pd__28I_29V rfl) rfl (by show 2 * 0 + _ ≤ _; exact Nat.le_of_eq rfl) (hb hby at_311) (fun _ _ => ⟨rfl, rfl, (by decide : 5 + 0 ≤ _), (by decide : 30 + 0 ≤ _)⟩)
  dsimp only [Pt.U, Pt.locs, Pt.cells, Pt.slots] at X184 l184 y184 z184 st184 hQ184
  obtain ⟨rfl, N184q, K184, o184_0, o184_1, o184_2, o184_3, o184_4, o184_5, o184_6⟩ := hQ184
  have Z185 : n0 ≤ T184.heap.size := Nat.le_trans Z181 K184.1
  have Z185h : h0.size ≤ T184.heap.size := Nat.le_trans Z181h K184.1
  obtain ⟨lc184, X184, N184⟩ := own_pack X184 l184 y184 z184 N180 N184q (C := 5) (S' := 30) rfl rfl
  refine own_thr (a := T184.setTop (mkF m 314 #[.val (.int p0), .val (.int p1), .val (.int p2), .val (.int p3), .val (.int p4), .val (.int p5), .val (.int n), .val (.int s0), .val (.int d1), .val (.int tt), .val (.int d2), .val (.int s1), .val (.int s2), .val (.int (2 : Int32)), .val (.int (1 : Int32)), .val (.int (1 : Int32)), .val (.ref b150), .val (.ref b158), .val (.ref b166), .unset] [])) (fun t kt => st184.trans kt) ?_
  refine own_thr (a := T184.setTop (mkF m 316 #[.val (.int p0), .val (.int p1), .val (.int p2), .val (.int p3), .val (.int p4), .val (.int p5), .val (.int n), .val (.int s0), .val (.int d1), .val (.int tt), .val (.int d2), .val (.int s1), .val (.int s2), .val (.int (2 : Int32)), .val (.int (1 : Int32)), .val (.int (1 : Int32)), .val (.ref b150), .val (.ref b158), .val (.ref b166), .unset] [(.ref b166)])) (fun t kt => ?_) ?_
  · show Steps p.tables e below (T184.setTop (mkF m 314 #[.val (.int p0), .val (.int p1), .val (.int p2), .val (.int p3), .val (.int p4), .val (.int p5), .val (.int n), .val (.int s0), .val (.int d1), .val (.int tt), .val (.int d2), .val (.int s1), .val (.int s2), .val (.int (2 : Int32)), .val (.int (1 : Int32)), .val (.int (1 : Int32)), .val (.ref b150), .val (.ref b158), .val (.ref b166), .unset] [])) _
    refine XS.aload X184.here hx rfl (hb hby at_314) rfl rfl ?_
    exact kt
  obtain ⟨cq186, kq186, q186a, q186b, q186c⟩ := isOf hZ rfl o184_0
  obtain ⟨_, _, ⟨T186, L186, k186, n186⟩, -, X186, ⟨Lc186, hQ186, l186, y186, z186⟩, st186⟩ := X184.virtualBack hx (y := (⟨"dev/chainlatch/bucket/Order", "first", "()I"⟩ : MethodName)) (z := (⟨"dev/chainlatch/bucket/Order", "first", "()I"⟩ : MethodName)) hown (mvT hZ (hw _ (List.mem_of_getElem? (i := 34) rfl))) (mvT hZ (hw _ (List.mem_of_getElem? (i := 35) rfl))) (notFace_of_selects (args := #[]) (mvT hZ (hw _ (List.mem_of_getElem? (i := 37) rfl)))) (mvT hZ (hw _ (List.mem_of_getElem? (i := 37) rfl))) (mvT hZ (hw _ (List.mem_of_getElem? (i := 36) rfl))) (by decide) (backOf (W := 0) (rmF l Z a0 hw [] b166 s0 T184.heap n0 Z185 o184_1) hZ (hw _ (List.mem_of_getElem? (i := 38) rfl)) (hw _ (List.mem_of_getElem? (i := 5) rfl)) (by decide) (by decide)) q186a q186c (g := (mkF m 316 #[.val (.int p0), .val (.int p1), .val (.int p2), .val (.int p3), .val (.int p4), .val (.int p5), .val (.int n), .val (.int s0), .val (.int d1), .val (.int tt), .val (.int d2), .val (.int s1), .val (.int s2), .val (.int (2 : Int32)), .val (.int (1 : Int32)), .val (.int (1 : Int32)), .val (.ref b150), .val (.ref b158), .val (.ref b166), .unset] [(.ref b166)])) rfl (by rw [hml]; rfl) (Steps.refl _) (argsL := []) (rest := []) (lenOf pd__28_29I rfl) rfl (by show 2 * 0 + _ ≤ _; exact Nat.le_of_eq rfl) (hb hby at_316) (fun _ _ => ⟨rfl, rfl, (by decide : 5 + 0 ≤ _), (by decide : 30 + 0 ≤ _)⟩)
  dsimp only [Pt.U, Pt.locs, Pt.cells, Pt.slots] at X186 l186 y186 z186 st186 hQ186
  obtain ⟨rfl, N186q, e186⟩ := hQ186
  obtain ⟨lc186, X186, N186⟩ := own_pack X186 l186 y186 z186 N184 N186q (C := 5) (S' := 30) rfl rfl
  refine own_thr (a := T186.setTop (mkF m 319 #[.val (.int p0), .val (.int p1), .val (.int p2), .val (.int p3), .val (.int p4), .val (.int p5), .val (.int n), .val (.int s0), .val (.int d1), .val (.int tt), .val (.int d2), .val (.int s1), .val (.int s2), .val (.int (2 : Int32)), .val (.int (1 : Int32)), .val (.int (1 : Int32)), .val (.ref b150), .val (.ref b158), .val (.ref b166), .unset] [(.int s0)])) (fun t kt => st186.trans kt) ?_
  refine own_thr (a := T186.setTop (mkF m 322 #[.val (.int p0), .val (.int p1), .val (.int p2), .val (.int p3), .val (.int p4), .val (.int p5), .val (.int n), .val (.int s0), .val (.int d1), .val (.int tt), .val (.int d2), .val (.int s1), .val (.int s2), .val (.int (2 : Int32)), .val (.int (1 : Int32)), .val (.int (1 : Int32)), .val (.ref b150), .val (.ref b158), .val (.ref b166), .unset] [(.int (0 : Int32)), (.ref b158), (.int s0)])) (fun t kt => ?_) ?_
  · show Steps p.tables e below (T186.setTop (mkF m 319 #[.val (.int p0), .val (.int p1), .val (.int p2), .val (.int p3), .val (.int p4), .val (.int p5), .val (.int n), .val (.int s0), .val (.int d1), .val (.int tt), .val (.int d2), .val (.int s1), .val (.int s2), .val (.int (2 : Int32)), .val (.int (1 : Int32)), .val (.int (1 : Int32)), .val (.ref b150), .val (.ref b158), .val (.ref b166), .unset] [(.int s0)])) _
    refine XS.aload X186.here hx rfl (hb hby at_319) rfl rfl ?_
    refine XS.iconst X186.here hx rfl (hb hby at_321) ?_
    exact kt
  have c188 := ((((((V164.ext E166).keep K169 (ninS ne_b158_b166 nin0)).keep K172 (ninS ne_b158_b166 (ninS ne_b158_B169 (ninS ne_b158_A169 nin0)))).keep K176 (ninS ne_b158_b166 (ninS ne_b158_B169 (ninS ne_b158_A169 nin0)))).keep K180 (ninS ne_b158_b166 (ninS ne_b158_B169 (ninS ne_b158_A169 nin0)))).keep K184 (ninS ne_b158_b166 (ninS ne_b158_B169 (ninS ne_b158_A169 nin0))))
  obtain ⟨cl187, Ar187, -, S187, M187, H187, -⟩ := id c188
  have hin187 : ¬ ((0 : Int32) < 0 ∨ cl187.slots.size ≤ ((0 : Int32)).toNatClampNeg) := inb_of S187 ⟨by decide, by decide⟩
  have hat187 : cl187.slots[((0 : Int32)).toNatClampNeg]? = some (.int s0) := Has.at H187 hin187 rfl
  refine own_thr (a := T186.setTop (mkF m 343 #[.val (.int p0), .val (.int p1), .val (.int p2), .val (.int p3), .val (.int p4), .val (.int p5), .val (.int n), .val (.int s0), .val (.int d1), .val (.int tt), .val (.int d2), .val (.int s1), .val (.int s2), .val (.int (2 : Int32)), .val (.int (1 : Int32)), .val (.int (1 : Int32)), .val (.ref b150), .val (.ref b158), .val (.ref b166), .val (.int (1 : Int32))] [(.int (0 : Int32)), (.ref b158), (.ref b166)])) (fun t kt => ?_) ?_
  · show Steps p.tables e below (T186.setTop (mkF m 322 #[.val (.int p0), .val (.int p1), .val (.int p2), .val (.int p3), .val (.int p4), .val (.int p5), .val (.int n), .val (.int s0), .val (.int d1), .val (.int tt), .val (.int d2), .val (.int s1), .val (.int s2), .val (.int (2 : Int32)), .val (.int (1 : Int32)), .val (.int (1 : Int32)), .val (.ref b150), .val (.ref b158), .val (.ref b166), .unset] [(.int (0 : Int32)), (.ref b158), (.int s0)])) _
    refine X186.iaload hx (j := (0 : Int32)) (v := (.int s0)) (by rw [e186]; exact Ar187.1) (State.isArrayOf_alike hZ.alike Ar187.2.1) Ar187.2.2 hin187 hat187 (g := (mkF m 322 #[.val (.int p0), .val (.int p1), .val (.int p2), .val (.int p3), .val (.int p4), .val (.int p5), .val (.int n), .val (.int s0), .val (.int d1), .val (.int tt), .val (.int d2), .val (.int s1), .val (.int s2), .val (.int (2 : Int32)), .val (.int (1 : Int32)), .val (.int (1 : Int32)), .val (.ref b150), .val (.ref b158), .val (.ref b166), .unset] [(.int (0 : Int32)), (.ref b158), (.int s0)])) rfl rfl (hb hby at_322) _ ?_
    refine XS.icmpNo X186.here hx rfl (hb hby at_323) rfl (teq (by simp [own_up, own_as, n01, n10, n02, n20, n12, n21])).2 ?_
    refine XS.iconst X186.here hx rfl (hb hby at_326) ?_
    refine XS.goto X186.here hx rfl (pc0 := 327) (pc' := 331) rfl (hb hby at_327) (by decide) (by decide) ?_
    refine XS.istore X186.here hx rfl (hb hby at_331) rfl (l' := #[.val (.int p0), .val (.int p1), .val (.int p2), .val (.int p3), .val (.int p4), .val (.int p5), .val (.int n), .val (.int s0), .val (.int d1), .val (.int tt), .val (.int d2), .val (.int s1), .val (.int s2), .val (.int (2 : Int32)), .val (.int (1 : Int32)), .val (.int (1 : Int32)), .val (.ref b150), .val (.ref b158), .val (.ref b166), .val (.int (1 : Int32))]) rfl ?_
    refine XS.iload X186.here hx rfl (hb hby at_333) rfl ?_
    refine XS.ifNo X186.here hx rfl (hb hby at_335) rfl ((if0 _ _).trans (feq (by decide)).1) ?_
    refine XS.aload X186.here hx rfl (hb hby at_338) rfl rfl ?_
    refine XS.aload X186.here hx rfl (hb hby at_340) rfl rfl ?_
    refine XS.iconst X186.here hx rfl (hb hby at_342) ?_
    exact kt
  obtain ⟨cl189, Ar189, -, S189, M189, H189, -⟩ := id c188
  have hin189 : ¬ ((0 : Int32) < 0 ∨ cl189.slots.size ≤ ((0 : Int32)).toNatClampNeg) := inb_of S189 ⟨by decide, by decide⟩
  have hat189 : cl189.slots[((0 : Int32)).toNatClampNeg]? = some (.int s0) := Has.at H189 hin189 rfl
  refine own_thr (a := T186.setTop (mkF m 344 #[.val (.int p0), .val (.int p1), .val (.int p2), .val (.int p3), .val (.int p4), .val (.int p5), .val (.int n), .val (.int s0), .val (.int d1), .val (.int tt), .val (.int d2), .val (.int s1), .val (.int s2), .val (.int (2 : Int32)), .val (.int (1 : Int32)), .val (.int (1 : Int32)), .val (.ref b150), .val (.ref b158), .val (.ref b166), .val (.int (1 : Int32))] [(.int s0), (.ref b166)])) (fun t kt => ?_) ?_
  · show Steps p.tables e below (T186.setTop (mkF m 343 #[.val (.int p0), .val (.int p1), .val (.int p2), .val (.int p3), .val (.int p4), .val (.int p5), .val (.int n), .val (.int s0), .val (.int d1), .val (.int tt), .val (.int d2), .val (.int s1), .val (.int s2), .val (.int (2 : Int32)), .val (.int (1 : Int32)), .val (.int (1 : Int32)), .val (.ref b150), .val (.ref b158), .val (.ref b166), .val (.int (1 : Int32))] [(.int (0 : Int32)), (.ref b158), (.ref b166)])) _
    refine X186.iaload hx (j := (0 : Int32)) (v := (.int s0)) (by rw [e186]; exact Ar189.1) (State.isArrayOf_alike hZ.alike Ar189.2.1) Ar189.2.2 hin189 hat189 (g := (mkF m 343 #[.val (.int p0), .val (.int p1), .val (.int p2), .val (.int p3), .val (.int p4), .val (.int p5), .val (.int n), .val (.int s0), .val (.int d1), .val (.int tt), .val (.int d2), .val (.int s1), .val (.int s2), .val (.int (2 : Int32)), .val (.int (1 : Int32)), .val (.int (1 : Int32)), .val (.ref b150), .val (.ref b158), .val (.ref b166), .val (.int (1 : Int32))] [(.int (0 : Int32)), (.ref b158), (.ref b166)])) rfl rfl (hb hby at_343) _ ?_
    exact kt
  obtain ⟨cq190, kq190, q190a, q190b, q190c⟩ := isOf hZ e186 o184_0
  obtain ⟨_, _, ⟨T190, L190, k190, n190⟩, -, X190, ⟨Lc190, hQ190, l190, y190, z190⟩, st190⟩ := X186.virtualBack hx (y := (⟨"dev/chainlatch/bucket/Order", "after", "(I)I"⟩ : MethodName)) (z := (⟨"dev/chainlatch/bucket/Order", "after", "(I)I"⟩ : MethodName)) hown (mvT hZ (hw _ (List.mem_of_getElem? (i := 39) rfl))) (mvT hZ (hw _ (List.mem_of_getElem? (i := 40) rfl))) (notFace_of_selects (args := #[]) (mvT hZ (hw _ (List.mem_of_getElem? (i := 42) rfl)))) (mvT hZ (hw _ (List.mem_of_getElem? (i := 42) rfl))) (mvT hZ (hw _ (List.mem_of_getElem? (i := 41) rfl))) (by decide) (backOf (W := 0) (rmN l Z a0 hw [] b166 s0 A169 n (own_up (own_up (own_up (own_up (own_up (own_up (own_up (fun _ => 0) s0 (0 : Int32)) s1 (0 : Int32)) s0 (s1 + (1 : Int32))) (((own_up (own_up (fun _ => 0) s0 ((-1 : Int32) + (1 : Int32))) s1 (s0 + (1 : Int32))) s1) - (1 : Int32)) ((((own_up (own_up (own_up (fun _ => 0) s0 (0 : Int32)) s1 (0 : Int32)) s0 (s1 + (1 : Int32))) s1) - (1 : Int32)) + (1 : Int32))) s1 (0 : Int32)) s1 (0 : Int32)) s0 (s1 + (1 : Int32))) T184.heap n0 Z185 o184_4 o184_6 hs00 hs01) hZ (hw _ (List.mem_of_getElem? (i := 43) rfl)) (hw _ (List.mem_of_getElem? (i := 5) rfl)) (by decide) (by decide)) q190a q190c (g := (mkF m 344 #[.val (.int p0), .val (.int p1), .val (.int p2), .val (.int p3), .val (.int p4), .val (.int p5), .val (.int n), .val (.int s0), .val (.int d1), .val (.int tt), .val (.int d2), .val (.int s1), .val (.int s2), .val (.int (2 : Int32)), .val (.int (1 : Int32)), .val (.int (1 : Int32)), .val (.ref b150), .val (.ref b158), .val (.ref b166), .val (.int (1 : Int32))] [(.int s0), (.ref b166)])) rfl (by rw [hml]; rfl) (Steps.refl _) (argsL := [(.int s0)]) (rest := []) (lenOf pd__28I_29I rfl) rfl (by show 2 * 0 + _ ≤ _; exact Nat.le_of_eq rfl) (hb hby at_344) (fun _ _ => ⟨rfl, e186, (by decide : 5 + 0 ≤ _), (by decide : 30 + 0 ≤ _)⟩)
  dsimp only [Pt.U, Pt.locs, Pt.cells, Pt.slots] at X190 l190 y190 z190 st190 hQ190
  obtain ⟨rfl, N190q, e190⟩ := hQ190
  obtain ⟨lc190, X190, N190⟩ := own_pack X190 l190 y190 z190 N186 N190q (C := 5) (S' := 30) rfl rfl
  refine own_thr (a := T190.setTop (mkF m 347 #[.val (.int p0), .val (.int p1), .val (.int p2), .val (.int p3), .val (.int p4), .val (.int p5), .val (.int n), .val (.int s0), .val (.int d1), .val (.int tt), .val (.int d2), .val (.int s1), .val (.int s2), .val (.int (2 : Int32)), .val (.int (1 : Int32)), .val (.int (1 : Int32)), .val (.ref b150), .val (.ref b158), .val (.ref b166), .val (.int (1 : Int32))] [(.int (((own_up (own_up (own_up (own_up (own_up (own_up (own_up (fun _ => 0) s0 (0 : Int32)) s1 (0 : Int32)) s0 (s1 + (1 : Int32))) (((own_up (own_up (fun _ => 0) s0 ((-1 : Int32) + (1 : Int32))) s1 (s0 + (1 : Int32))) s1) - (1 : Int32)) ((((own_up (own_up (own_up (fun _ => 0) s0 (0 : Int32)) s1 (0 : Int32)) s0 (s1 + (1 : Int32))) s1) - (1 : Int32)) + (1 : Int32))) s1 (0 : Int32)) s1 (0 : Int32)) s0 (s1 + (1 : Int32))) s0) - (1 : Int32)))])) (fun t kt => st190.trans kt) ?_
  refine own_thr (a := T190.setTop (mkF m 356 #[.val (.int p0), .val (.int p1), .val (.int p2), .val (.int p3), .val (.int p4), .val (.int p5), .val (.int n), .val (.int s0), .val (.int d1), .val (.int tt), .val (.int d2), .val (.int s1), .val (.int s2), .val (.int (2 : Int32)), .val (.int (1 : Int32)), .val (.int (1 : Int32)), .val (.ref b150), .val (.ref b158), .val (.ref b166), .val (.int (1 : Int32))] [(.int (1 : Int32)), (.ref b158), (.int (((own_up (own_up (own_up (own_up (own_up (own_up (own_up (fun _ => 0) s0 (0 : Int32)) s1 (0 : Int32)) s0 (s1 + (1 : Int32))) (((own_up (own_up (fun _ => 0) s0 ((-1 : Int32) + (1 : Int32))) s1 (s0 + (1 : Int32))) s1) - (1 : Int32)) ((((own_up (own_up (own_up (fun _ => 0) s0 (0 : Int32)) s1 (0 : Int32)) s0 (s1 + (1 : Int32))) s1) - (1 : Int32)) + (1 : Int32))) s1 (0 : Int32)) s1 (0 : Int32)) s0 (s1 + (1 : Int32))) s0) - (1 : Int32)))])) (fun t kt => ?_) ?_
  · show Steps p.tables e below (T190.setTop (mkF m 347 #[.val (.int p0), .val (.int p1), .val (.int p2), .val (.int p3), .val (.int p4), .val (.int p5), .val (.int n), .val (.int s0), .val (.int d1), .val (.int tt), .val (.int d2), .val (.int s1), .val (.int s2), .val (.int (2 : Int32)), .val (.int (1 : Int32)), .val (.int (1 : Int32)), .val (.ref b150), .val (.ref b158), .val (.ref b166), .val (.int (1 : Int32))] [(.int (((own_up (own_up (own_up (own_up (own_up (own_up (own_up (fun _ => 0) s0 (0 : Int32)) s1 (0 : Int32)) s0 (s1 + (1 : Int32))) (((own_up (own_up (fun _ => 0) s0 ((-1 : Int32) + (1 : Int32))) s1 (s0 + (1 : Int32))) s1) - (1 : Int32)) ((((own_up (own_up (own_up (fun _ => 0) s0 (0 : Int32)) s1 (0 : Int32)) s0 (s1 + (1 : Int32))) s1) - (1 : Int32)) + (1 : Int32))) s1 (0 : Int32)) s1 (0 : Int32)) s0 (s1 + (1 : Int32))) s0) - (1 : Int32)))])) _
    refine XS.iload X190.here hx rfl (hb hby at_347) rfl ?_
    refine XS.iconst X190.here hx rfl (hb hby at_349) ?_
    refine XS.icmpNo X190.here hx rfl (hb hby at_350) rfl (tlt (by decide)).2.2.2 ?_
    refine XS.aload X190.here hx rfl (hb hby at_353) rfl rfl ?_
    refine XS.iconst X190.here hx rfl (hb hby at_355) ?_
    exact kt
  obtain ⟨cl191, Ar191, -, S191, M191, H191, -⟩ := id c188
  have hin191 : ¬ ((1 : Int32) < 0 ∨ cl191.slots.size ≤ ((1 : Int32)).toNatClampNeg) := inb_of S191 ⟨by decide, by decide⟩
  have hat191 : cl191.slots[((1 : Int32)).toNatClampNeg]? = some (.int s1) := Has.at H191 hin191 rfl
  refine own_thr (a := T190.setTop (mkF m 387 #[.val (.int p0), .val (.int p1), .val (.int p2), .val (.int p3), .val (.int p4), .val (.int p5), .val (.int n), .val (.int s0), .val (.int d1), .val (.int tt), .val (.int d2), .val (.int s1), .val (.int s2), .val (.int (2 : Int32)), .val (.int (1 : Int32)), .val (.int (1 : Int32)), .val (.ref b150), .val (.ref b158), .val (.ref b166), .val (.int (1 : Int32))] [(.int (1 : Int32)), (.ref b158), (.ref b166)])) (fun t kt => ?_) ?_
  · show Steps p.tables e below (T190.setTop (mkF m 356 #[.val (.int p0), .val (.int p1), .val (.int p2), .val (.int p3), .val (.int p4), .val (.int p5), .val (.int n), .val (.int s0), .val (.int d1), .val (.int tt), .val (.int d2), .val (.int s1), .val (.int s2), .val (.int (2 : Int32)), .val (.int (1 : Int32)), .val (.int (1 : Int32)), .val (.ref b150), .val (.ref b158), .val (.ref b166), .val (.int (1 : Int32))] [(.int (1 : Int32)), (.ref b158), (.int (((own_up (own_up (own_up (own_up (own_up (own_up (own_up (fun _ => 0) s0 (0 : Int32)) s1 (0 : Int32)) s0 (s1 + (1 : Int32))) (((own_up (own_up (fun _ => 0) s0 ((-1 : Int32) + (1 : Int32))) s1 (s0 + (1 : Int32))) s1) - (1 : Int32)) ((((own_up (own_up (own_up (fun _ => 0) s0 (0 : Int32)) s1 (0 : Int32)) s0 (s1 + (1 : Int32))) s1) - (1 : Int32)) + (1 : Int32))) s1 (0 : Int32)) s1 (0 : Int32)) s0 (s1 + (1 : Int32))) s0) - (1 : Int32)))])) _
    refine X190.iaload hx (j := (1 : Int32)) (v := (.int s1)) (by rw [e190]; exact Ar191.1) (State.isArrayOf_alike hZ.alike Ar191.2.1) Ar191.2.2 hin191 hat191 (g := (mkF m 356 #[.val (.int p0), .val (.int p1), .val (.int p2), .val (.int p3), .val (.int p4), .val (.int p5), .val (.int n), .val (.int s0), .val (.int d1), .val (.int tt), .val (.int d2), .val (.int s1), .val (.int s2), .val (.int (2 : Int32)), .val (.int (1 : Int32)), .val (.int (1 : Int32)), .val (.ref b150), .val (.ref b158), .val (.ref b166), .val (.int (1 : Int32))] [(.int (1 : Int32)), (.ref b158), (.int (((own_up (own_up (own_up (own_up (own_up (own_up (own_up (fun _ => 0) s0 (0 : Int32)) s1 (0 : Int32)) s0 (s1 + (1 : Int32))) (((own_up (own_up (fun _ => 0) s0 ((-1 : Int32) + (1 : Int32))) s1 (s0 + (1 : Int32))) s1) - (1 : Int32)) ((((own_up (own_up (own_up (fun _ => 0) s0 (0 : Int32)) s1 (0 : Int32)) s0 (s1 + (1 : Int32))) s1) - (1 : Int32)) + (1 : Int32))) s1 (0 : Int32)) s1 (0 : Int32)) s0 (s1 + (1 : Int32))) s0) - (1 : Int32)))])) rfl rfl (hb hby at_356) _ ?_
    refine XS.goto X190.here hx rfl (pc0 := 357) (pc' := 361) rfl (hb hby at_357) (by decide) (by decide) ?_
    refine XS.icmpNo X190.here hx rfl (hb hby at_361) rfl (teq (by simp [own_up, own_as, n01, n10, n02, n20, n12, n21])).2 ?_
    refine XS.iconst X190.here hx rfl (hb hby at_364) ?_
    refine XS.goto X190.here hx rfl (pc0 := 365) (pc' := 369) rfl (hb hby at_365) (by decide) (by decide) ?_
    refine XS.istore X190.here hx rfl (hb hby at_369) rfl (l' := #[.val (.int p0), .val (.int p1), .val (.int p2), .val (.int p3), .val (.int p4), .val (.int p5), .val (.int n), .val (.int s0), .val (.int d1), .val (.int tt), .val (.int d2), .val (.int s1), .val (.int s2), .val (.int (2 : Int32)), .val (.int (1 : Int32)), .val (.int (1 : Int32)), .val (.ref b150), .val (.ref b158), .val (.ref b166), .val (.int (1 : Int32))]) rfl ?_
    refine XS.iload X190.here hx rfl (hb hby at_371) rfl ?_
    refine XS.iconst X190.here hx rfl (hb hby at_373) ?_
    refine XS.icmpNo X190.here hx rfl (hb hby at_374) rfl (tlt (by decide)).2.2.2 ?_
    refine XS.iload X190.here hx rfl (hb hby at_377) rfl ?_
    refine XS.ifNo X190.here hx rfl (hb hby at_379) rfl ((if0 _ _).trans (feq (by decide)).1) ?_
    refine XS.aload X190.here hx rfl (hb hby at_382) rfl rfl ?_
    refine XS.aload X190.here hx rfl (hb hby at_384) rfl rfl ?_
    refine XS.iconst X190.here hx rfl (hb hby at_386) ?_
    exact kt
  obtain ⟨cl192, Ar192, -, S192, M192, H192, -⟩ := id c188
  have hin192 : ¬ ((1 : Int32) < 0 ∨ cl192.slots.size ≤ ((1 : Int32)).toNatClampNeg) := inb_of S192 ⟨by decide, by decide⟩
  have hat192 : cl192.slots[((1 : Int32)).toNatClampNeg]? = some (.int s1) := Has.at H192 hin192 rfl
  refine own_thr (a := T190.setTop (mkF m 388 #[.val (.int p0), .val (.int p1), .val (.int p2), .val (.int p3), .val (.int p4), .val (.int p5), .val (.int n), .val (.int s0), .val (.int d1), .val (.int tt), .val (.int d2), .val (.int s1), .val (.int s2), .val (.int (2 : Int32)), .val (.int (1 : Int32)), .val (.int (1 : Int32)), .val (.ref b150), .val (.ref b158), .val (.ref b166), .val (.int (1 : Int32))] [(.int s1), (.ref b166)])) (fun t kt => ?_) ?_
  · show Steps p.tables e below (T190.setTop (mkF m 387 #[.val (.int p0), .val (.int p1), .val (.int p2), .val (.int p3), .val (.int p4), .val (.int p5), .val (.int n), .val (.int s0), .val (.int d1), .val (.int tt), .val (.int d2), .val (.int s1), .val (.int s2), .val (.int (2 : Int32)), .val (.int (1 : Int32)), .val (.int (1 : Int32)), .val (.ref b150), .val (.ref b158), .val (.ref b166), .val (.int (1 : Int32))] [(.int (1 : Int32)), (.ref b158), (.ref b166)])) _
    refine X190.iaload hx (j := (1 : Int32)) (v := (.int s1)) (by rw [e190]; exact Ar192.1) (State.isArrayOf_alike hZ.alike Ar192.2.1) Ar192.2.2 hin192 hat192 (g := (mkF m 387 #[.val (.int p0), .val (.int p1), .val (.int p2), .val (.int p3), .val (.int p4), .val (.int p5), .val (.int n), .val (.int s0), .val (.int d1), .val (.int tt), .val (.int d2), .val (.int s1), .val (.int s2), .val (.int (2 : Int32)), .val (.int (1 : Int32)), .val (.int (1 : Int32)), .val (.ref b150), .val (.ref b158), .val (.ref b166), .val (.int (1 : Int32))] [(.int (1 : Int32)), (.ref b158), (.ref b166)])) rfl rfl (hb hby at_387) _ ?_
    exact kt
  obtain ⟨cq193, kq193, q193a, q193b, q193c⟩ := isOf hZ e190 o184_0
  obtain ⟨_, _, ⟨T193, L193, k193, n193⟩, -, X193, ⟨Lc193, hQ193, l193, y193, z193⟩, st193⟩ := X190.virtualBack hx (y := (⟨"dev/chainlatch/bucket/Order", "after", "(I)I"⟩ : MethodName)) (z := (⟨"dev/chainlatch/bucket/Order", "after", "(I)I"⟩ : MethodName)) hown (mvT hZ (hw _ (List.mem_of_getElem? (i := 39) rfl))) (mvT hZ (hw _ (List.mem_of_getElem? (i := 40) rfl))) (notFace_of_selects (args := #[]) (mvT hZ (hw _ (List.mem_of_getElem? (i := 42) rfl)))) (mvT hZ (hw _ (List.mem_of_getElem? (i := 42) rfl))) (mvT hZ (hw _ (List.mem_of_getElem? (i := 41) rfl))) (by decide) (backOf (W := 0) (rmN l Z a0 hw [] b166 s1 A169 n (own_up (own_up (own_up (own_up (own_up (own_up (own_up (fun _ => 0) s0 (0 : Int32)) s1 (0 : Int32)) s0 (s1 + (1 : Int32))) (((own_up (own_up (fun _ => 0) s0 ((-1 : Int32) + (1 : Int32))) s1 (s0 + (1 : Int32))) s1) - (1 : Int32)) ((((own_up (own_up (own_up (fun _ => 0) s0 (0 : Int32)) s1 (0 : Int32)) s0 (s1 + (1 : Int32))) s1) - (1 : Int32)) + (1 : Int32))) s1 (0 : Int32)) s1 (0 : Int32)) s0 (s1 + (1 : Int32))) T184.heap n0 Z185 o184_4 o184_6 hs10 hs11) hZ (hw _ (List.mem_of_getElem? (i := 43) rfl)) (hw _ (List.mem_of_getElem? (i := 5) rfl)) (by decide) (by decide)) q193a q193c (g := (mkF m 388 #[.val (.int p0), .val (.int p1), .val (.int p2), .val (.int p3), .val (.int p4), .val (.int p5), .val (.int n), .val (.int s0), .val (.int d1), .val (.int tt), .val (.int d2), .val (.int s1), .val (.int s2), .val (.int (2 : Int32)), .val (.int (1 : Int32)), .val (.int (1 : Int32)), .val (.ref b150), .val (.ref b158), .val (.ref b166), .val (.int (1 : Int32))] [(.int s1), (.ref b166)])) rfl (by rw [hml]; rfl) (Steps.refl _) (argsL := [(.int s1)]) (rest := []) (lenOf pd__28I_29I rfl) rfl (by show 2 * 0 + _ ≤ _; exact Nat.le_of_eq rfl) (hb hby at_388) (fun _ _ => ⟨rfl, e190, (by decide : 5 + 0 ≤ _), (by decide : 30 + 0 ≤ _)⟩)
  dsimp only [Pt.U, Pt.locs, Pt.cells, Pt.slots] at X193 l193 y193 z193 st193 hQ193
  obtain ⟨rfl, N193q, e193⟩ := hQ193
  obtain ⟨lc193, X193, N193⟩ := own_pack X193 l193 y193 z193 N190 N193q (C := 5) (S' := 30) rfl rfl
  refine own_thr (a := T193.setTop (mkF m 391 #[.val (.int p0), .val (.int p1), .val (.int p2), .val (.int p3), .val (.int p4), .val (.int p5), .val (.int n), .val (.int s0), .val (.int d1), .val (.int tt), .val (.int d2), .val (.int s1), .val (.int s2), .val (.int (2 : Int32)), .val (.int (1 : Int32)), .val (.int (1 : Int32)), .val (.ref b150), .val (.ref b158), .val (.ref b166), .val (.int (1 : Int32))] [(.int (((own_up (own_up (own_up (own_up (own_up (own_up (own_up (fun _ => 0) s0 (0 : Int32)) s1 (0 : Int32)) s0 (s1 + (1 : Int32))) (((own_up (own_up (fun _ => 0) s0 ((-1 : Int32) + (1 : Int32))) s1 (s0 + (1 : Int32))) s1) - (1 : Int32)) ((((own_up (own_up (own_up (fun _ => 0) s0 (0 : Int32)) s1 (0 : Int32)) s0 (s1 + (1 : Int32))) s1) - (1 : Int32)) + (1 : Int32))) s1 (0 : Int32)) s1 (0 : Int32)) s0 (s1 + (1 : Int32))) s1) - (1 : Int32)))])) (fun t kt => st193.trans kt) ?_
  refine own_thr (a := T193.setTop (mkF m 448 #[.val (.int p0), .val (.int p1), .val (.int p2), .val (.int p3), .val (.int p4), .val (.int p5), .val (.int n), .val (.int s0), .val (.int d1), .val (.int tt), .val (.int d2), .val (.int s1), .val (.int s2), .val (.int (2 : Int32)), .val (.int (1 : Int32)), .val (.int (1 : Int32)), .val (.ref b150), .val (.ref b158), .val (.ref b166), .val (.int (1 : Int32))] [(.int (1 : Int32))])) (fun t kt => ?_) ?_
  · show Steps p.tables e below (T193.setTop (mkF m 391 #[.val (.int p0), .val (.int p1), .val (.int p2), .val (.int p3), .val (.int p4), .val (.int p5), .val (.int n), .val (.int s0), .val (.int d1), .val (.int tt), .val (.int d2), .val (.int s1), .val (.int s2), .val (.int (2 : Int32)), .val (.int (1 : Int32)), .val (.int (1 : Int32)), .val (.ref b150), .val (.ref b158), .val (.ref b166), .val (.int (1 : Int32))] [(.int (((own_up (own_up (own_up (own_up (own_up (own_up (own_up (fun _ => 0) s0 (0 : Int32)) s1 (0 : Int32)) s0 (s1 + (1 : Int32))) (((own_up (own_up (fun _ => 0) s0 ((-1 : Int32) + (1 : Int32))) s1 (s0 + (1 : Int32))) s1) - (1 : Int32)) ((((own_up (own_up (own_up (fun _ => 0) s0 (0 : Int32)) s1 (0 : Int32)) s0 (s1 + (1 : Int32))) s1) - (1 : Int32)) + (1 : Int32))) s1 (0 : Int32)) s1 (0 : Int32)) s0 (s1 + (1 : Int32))) s1) - (1 : Int32)))])) _
    refine XS.iload X193.here hx rfl (hb hby at_391) rfl ?_
    refine XS.iconst X193.here hx rfl (hb hby at_393) ?_
    refine XS.icmpYes X193.here hx rfl (pc0 := 394) (pc' := 404) rfl (hb hby at_394) rfl (flt (by decide)).2.2.2 (by decide) (by decide) ?_
    refine XS.iconst X193.here hx rfl (hb hby at_404) ?_
    refine XS.icmpNo X193.here hx rfl (hb hby at_405) rfl (teq (by simp [own_up, own_as, n01, n10, n02, n20, n12, n21])).2 ?_
    refine XS.iconst X193.here hx rfl (hb hby at_408) ?_
    refine XS.goto X193.here hx rfl (pc0 := 409) (pc' := 413) rfl (hb hby at_409) (by decide) (by decide) ?_
    refine XS.istore X193.here hx rfl (hb hby at_413) rfl (l' := #[.val (.int p0), .val (.int p1), .val (.int p2), .val (.int p3), .val (.int p4), .val (.int p5), .val (.int n), .val (.int s0), .val (.int d1), .val (.int tt), .val (.int d2), .val (.int s1), .val (.int s2), .val (.int (2 : Int32)), .val (.int (1 : Int32)), .val (.int (1 : Int32)), .val (.ref b150), .val (.ref b158), .val (.ref b166), .val (.int (1 : Int32))]) rfl ?_
    refine XS.iload X193.here hx rfl (hb hby at_415) rfl ?_
    refine XS.iconst X193.here hx rfl (hb hby at_417) ?_
    refine XS.icmpYes X193.here hx rfl (pc0 := 418) (pc' := 446) rfl (hb hby at_418) rfl (flt (by decide)).2.2.2 (by decide) (by decide) ?_
    refine XS.iload X193.here hx rfl (hb hby at_446) rfl ?_
    exact kt
  exact own_end X193 hlk (v := some (.int (1 : Int32))) (fun h => by rw [hret] at h; cases h) (fun fs hr => retN X193 hx (t := .boolean) hret (by simp) (hb hby at_448) hr) ⟨rfl, N193⟩ (by decide : 5 ≤ _) (by decide : 30 ≤ _)
set_option maxRecDepth 65536 in
set_option maxHeartbeats 40000000 in
theorem tl30 {p : Program} {l : Launch} {e : Env} {s : State} {m : MethodId} {below : List Frame} {meth : Method} {c : Code} {Z : State} {a0 : Array Value} (p0 : Int32) (p1 : Int32) (p2 : Int32) (p3 : Int32) (p4 : Int32) (p5 : Int32) {h0 : Heap} {n0 : Nat} (Z0 : n0 ≤ h0.size) (hw : ∀ d ∈ tables_1, d.before a0 Z = true) (hx : p.tables.exec = Jvm.exec) (hZ : Z.Warmed39 s.vm) (hby : c.code = code) (hml : c.maxLocals = 20) (hown : s.vm.findClass "dev/chainlatch/bucket/OrderAppendPinLaw" = some m.cls) (hlk : meth.locks = false) (hret : meth.sig.returnType = ret)
    {T0 : State} {lc0 : List Loc} (X0 : Stand p l e room_1 s m #[(.int p0), (.int p1), (.int p2), (.int p3), (.int p4), (.int p5)] below meth c T0 lc0 0 0) (N0 : Fr n0 lc0) (e0 : T0.heap = h0) (n s0 d1 tt d2 s1 s2 r : Int32) (hH : own_H n s0 s1 s2) : own_G p.tables e below s (Q0 Z p0 p1 p2 p3 p4 p5 h0 n0) room_1.cells room_1.slots (T0.setTop (mkF m 116 #[.val (.int p0), .val (.int p1), .val (.int p2), .val (.int p3), .val (.int p4), .val (.int p5), .val (.int n), .val (.int s0), .val (.int d1), .val (.int tt), .val (.int d2), .val (.int s1), .val (.int s2), .val (.int (3 : Int32)), .val (.int (0 : Int32)), .val (.int r), .unset, .unset, .unset, .unset] [])) := by
  obtain ⟨⟨hn0, hn1⟩, ⟨hs00, hs01⟩, ⟨hs10, hs11⟩, ⟨hs20, hs21⟩, n01, n02, n12⟩ := hH
  have n10 : ¬ s1 = s0 := fun q => n01 q.symm
  have n20 : ¬ s2 = s0 := fun q => n02 q.symm
  have n21 : ¬ s2 = s1 := fun q => n12 q.symm
  refine own_thr (a := T0.setTop (mkF m 117 #[.val (.int p0), .val (.int p1), .val (.int p2), .val (.int p3), .val (.int p4), .val (.int p5), .val (.int n), .val (.int s0), .val (.int d1), .val (.int tt), .val (.int d2), .val (.int s1), .val (.int s2), .val (.int (3 : Int32)), .val (.int (0 : Int32)), .val (.int r), .unset, .unset, .unset, .unset] [(.int (3 : Int32))])) (fun t kt => ?_) ?_
  · show Steps p.tables e below (T0.setTop (mkF m 116 #[.val (.int p0), .val (.int p1), .val (.int p2), .val (.int p3), .val (.int p4), .val (.int p5), .val (.int n), .val (.int s0), .val (.int d1), .val (.int tt), .val (.int d2), .val (.int s1), .val (.int s2), .val (.int (3 : Int32)), .val (.int (0 : Int32)), .val (.int r), .unset, .unset, .unset, .unset] [])) _
    refine XS.iconst X0.here hx rfl (hb hby at_116) ?_
    exact kt
  obtain ⟨T194, h194, k194, X194, e194, E194, A194, st194⟩ := newP X0 hx hZ (hw _ (List.mem_of_getElem? (i := 2) rfl)) e0 (g := (mkF m 117 #[.val (.int p0), .val (.int p1), .val (.int p2), .val (.int p3), .val (.int p4), .val (.int p5), .val (.int n), .val (.int s0), .val (.int d1), .val (.int tt), .val (.int d2), .val (.int s1), .val (.int s2), .val (.int (3 : Int32)), .val (.int (0 : Int32)), .val (.int r), .unset, .unset, .unset, .unset] [(.int (3 : Int32))])) rfl (hb hby at_117) rfl (by decide) (cap := 3) (by decide) (by decide) (by decide : 0 + 1 ≤ _) (by decide : 0 + 3 ≤ _)
  obtain ⟨b194, g194⟩ : ∃ z, z = h0.size := ⟨_, rfl⟩
  rw [← g194] at A194 st194
  have g_b194 : n0 ≤ b194 := Nat.le_trans Z0 (Nat.le_of_eq g194.symm)
  have sz_b194 : h0.size ≤ b194 := Nat.le_trans (Nat.le_refl h0.size) (Nat.le_of_eq g194.symm)
  have V_b194 : Arv Z h194 b194 k194 .int (3 : Int32) [(.int (0 : Int32)), (.int (0 : Int32)), (.int (0 : Int32))] (.int (0 : Int32)) := (Arv.new A194 (by decide)).pad (pad_rep [] (.int (0 : Int32)) 3)
  have Z195 : n0 ≤ h194.size := Nat.le_trans Z0 E194.1
  have Z195h : h0.size ≤ h194.size := Nat.le_trans (Nat.le_refl h0.size) E194.1
  refine own_thr (a := T194.setTop (mkF m 119 #[.val (.int p0), .val (.int p1), .val (.int p2), .val (.int p3), .val (.int p4), .val (.int p5), .val (.int n), .val (.int s0), .val (.int d1), .val (.int tt), .val (.int d2), .val (.int s1), .val (.int s2), .val (.int (3 : Int32)), .val (.int (0 : Int32)), .val (.int r), .unset, .unset, .unset, .unset] [(.ref b194)])) (fun t kt => st194 t kt) ?_
  refine own_thr (a := T194.setTop (mkF m 123 #[.val (.int p0), .val (.int p1), .val (.int p2), .val (.int p3), .val (.int p4), .val (.int p5), .val (.int n), .val (.int s0), .val (.int d1), .val (.int tt), .val (.int d2), .val (.int s1), .val (.int s2), .val (.int (3 : Int32)), .val (.int (0 : Int32)), .val (.int r), .unset, .unset, .unset, .unset] [(.int s0), (.int (0 : Int32)), (.ref b194), (.ref b194)])) (fun t kt => ?_) ?_
  · show Steps p.tables e below (T194.setTop (mkF m 119 #[.val (.int p0), .val (.int p1), .val (.int p2), .val (.int p3), .val (.int p4), .val (.int p5), .val (.int n), .val (.int s0), .val (.int d1), .val (.int tt), .val (.int d2), .val (.int s1), .val (.int s2), .val (.int (3 : Int32)), .val (.int (0 : Int32)), .val (.int r), .unset, .unset, .unset, .unset] [(.ref b194)])) _
    refine XS.dup X194.here hx rfl (hb hby at_119) rfl rfl ?_
    refine XS.iconst X194.here hx rfl (hb hby at_120) ?_
    refine XS.iload X194.here hx rfl (hb hby at_121) rfl ?_
    exact kt
  obtain ⟨cl196, Ar196, q196, S196, M196, H196, G196⟩ := id V_b194
  have hin196 : ¬ ((0 : Int32) < 0 ∨ cl196.slots.size ≤ ((0 : Int32)).toNatClampNeg) := inb_of S196 ⟨by decide, by decide⟩
  obtain ⟨T196, h196, X196, e196, W196, st196⟩ := stI X194 hx hZ e194 Ar196 (j := (0 : Int32)) hin196 (g := (mkF m 123 #[.val (.int p0), .val (.int p1), .val (.int p2), .val (.int p3), .val (.int p4), .val (.int p5), .val (.int n), .val (.int s0), .val (.int d1), .val (.int tt), .val (.int d2), .val (.int s1), .val (.int s2), .val (.int (3 : Int32)), .val (.int (0 : Int32)), .val (.int r), .unset, .unset, .unset, .unset] [(.int s0), (.int (0 : Int32)), (.ref b194), (.ref b194)])) rfl rfl (hb hby at_123)
  have Z197 : n0 ≤ h196.size := Nat.le_trans Z195 (Nat.le_of_eq W196.size.symm)
  have Z197h : h0.size ≤ h196.size := Nat.le_trans Z195h (Nat.le_of_eq W196.size.symm)
  have V196 : Arv Z h196 b194 k194 .int (3 : Int32) [(.int s0), (.int (0 : Int32)), (.int (0 : Int32))] (.int (0 : Int32)) := Arv.set Ar196 q196 S196 M196 H196 G196 rfl W196 0 rfl (Nat.le_of_ble_eq_true rfl)
  obtain ⟨lc196, X196, N196⟩ := own_pack1 X196 N0 g_b194
  refine own_thr (a := T196.setTop (mkF m 124 #[.val (.int p0), .val (.int p1), .val (.int p2), .val (.int p3), .val (.int p4), .val (.int p5), .val (.int n), .val (.int s0), .val (.int d1), .val (.int tt), .val (.int d2), .val (.int s1), .val (.int s2), .val (.int (3 : Int32)), .val (.int (0 : Int32)), .val (.int r), .unset, .unset, .unset, .unset] [(.ref b194)])) (fun t kt => st196 t kt) ?_
  refine own_thr (a := T196.setTop (mkF m 128 #[.val (.int p0), .val (.int p1), .val (.int p2), .val (.int p3), .val (.int p4), .val (.int p5), .val (.int n), .val (.int s0), .val (.int d1), .val (.int tt), .val (.int d2), .val (.int s1), .val (.int s2), .val (.int (3 : Int32)), .val (.int (0 : Int32)), .val (.int r), .unset, .unset, .unset, .unset] [(.int s1), (.int (1 : Int32)), (.ref b194), (.ref b194)])) (fun t kt => ?_) ?_
  · show Steps p.tables e below (T196.setTop (mkF m 124 #[.val (.int p0), .val (.int p1), .val (.int p2), .val (.int p3), .val (.int p4), .val (.int p5), .val (.int n), .val (.int s0), .val (.int d1), .val (.int tt), .val (.int d2), .val (.int s1), .val (.int s2), .val (.int (3 : Int32)), .val (.int (0 : Int32)), .val (.int r), .unset, .unset, .unset, .unset] [(.ref b194)])) _
    refine XS.dup X196.here hx rfl (hb hby at_124) rfl rfl ?_
    refine XS.iconst X196.here hx rfl (hb hby at_125) ?_
    refine XS.iload X196.here hx rfl (hb hby at_126) rfl ?_
    exact kt
  obtain ⟨cl198, Ar198, q198, S198, M198, H198, G198⟩ := id V196
  have hin198 : ¬ ((1 : Int32) < 0 ∨ cl198.slots.size ≤ ((1 : Int32)).toNatClampNeg) := inb_of S198 ⟨by decide, by decide⟩
  obtain ⟨T198, h198, X198, e198, W198, st198⟩ := stI X196 hx hZ e196 Ar198 (j := (1 : Int32)) hin198 (g := (mkF m 128 #[.val (.int p0), .val (.int p1), .val (.int p2), .val (.int p3), .val (.int p4), .val (.int p5), .val (.int n), .val (.int s0), .val (.int d1), .val (.int tt), .val (.int d2), .val (.int s1), .val (.int s2), .val (.int (3 : Int32)), .val (.int (0 : Int32)), .val (.int r), .unset, .unset, .unset, .unset] [(.int s1), (.int (1 : Int32)), (.ref b194), (.ref b194)])) rfl rfl (hb hby at_128)
  have Z199 : n0 ≤ h198.size := Nat.le_trans Z197 (Nat.le_of_eq W198.size.symm)
  have Z199h : h0.size ≤ h198.size := Nat.le_trans Z197h (Nat.le_of_eq W198.size.symm)
  have V198 : Arv Z h198 b194 k194 .int (3 : Int32) [(.int s0), (.int s1), (.int (0 : Int32))] (.int (0 : Int32)) := Arv.set Ar198 q198 S198 M198 H198 G198 rfl W198 1 rfl (Nat.le_of_ble_eq_true rfl)
  obtain ⟨lc198, X198, N198⟩ := own_pack1 X198 N196 g_b194
  refine own_thr (a := T198.setTop (mkF m 129 #[.val (.int p0), .val (.int p1), .val (.int p2), .val (.int p3), .val (.int p4), .val (.int p5), .val (.int n), .val (.int s0), .val (.int d1), .val (.int tt), .val (.int d2), .val (.int s1), .val (.int s2), .val (.int (3 : Int32)), .val (.int (0 : Int32)), .val (.int r), .unset, .unset, .unset, .unset] [(.ref b194)])) (fun t kt => st198 t kt) ?_
  refine own_thr (a := T198.setTop (mkF m 133 #[.val (.int p0), .val (.int p1), .val (.int p2), .val (.int p3), .val (.int p4), .val (.int p5), .val (.int n), .val (.int s0), .val (.int d1), .val (.int tt), .val (.int d2), .val (.int s1), .val (.int s2), .val (.int (3 : Int32)), .val (.int (0 : Int32)), .val (.int r), .unset, .unset, .unset, .unset] [(.int s2), (.int (2 : Int32)), (.ref b194), (.ref b194)])) (fun t kt => ?_) ?_
  · show Steps p.tables e below (T198.setTop (mkF m 129 #[.val (.int p0), .val (.int p1), .val (.int p2), .val (.int p3), .val (.int p4), .val (.int p5), .val (.int n), .val (.int s0), .val (.int d1), .val (.int tt), .val (.int d2), .val (.int s1), .val (.int s2), .val (.int (3 : Int32)), .val (.int (0 : Int32)), .val (.int r), .unset, .unset, .unset, .unset] [(.ref b194)])) _
    refine XS.dup X198.here hx rfl (hb hby at_129) rfl rfl ?_
    refine XS.iconst X198.here hx rfl (hb hby at_130) ?_
    refine XS.iload X198.here hx rfl (hb hby at_131) rfl ?_
    exact kt
  obtain ⟨cl200, Ar200, q200, S200, M200, H200, G200⟩ := id V198
  have hin200 : ¬ ((2 : Int32) < 0 ∨ cl200.slots.size ≤ ((2 : Int32)).toNatClampNeg) := inb_of S200 ⟨by decide, by decide⟩
  obtain ⟨T200, h200, X200, e200, W200, st200⟩ := stI X198 hx hZ e198 Ar200 (j := (2 : Int32)) hin200 (g := (mkF m 133 #[.val (.int p0), .val (.int p1), .val (.int p2), .val (.int p3), .val (.int p4), .val (.int p5), .val (.int n), .val (.int s0), .val (.int d1), .val (.int tt), .val (.int d2), .val (.int s1), .val (.int s2), .val (.int (3 : Int32)), .val (.int (0 : Int32)), .val (.int r), .unset, .unset, .unset, .unset] [(.int s2), (.int (2 : Int32)), (.ref b194), (.ref b194)])) rfl rfl (hb hby at_133)
  have Z201 : n0 ≤ h200.size := Nat.le_trans Z199 (Nat.le_of_eq W200.size.symm)
  have Z201h : h0.size ≤ h200.size := Nat.le_trans Z199h (Nat.le_of_eq W200.size.symm)
  have V200 : Arv Z h200 b194 k194 .int (3 : Int32) [(.int s0), (.int s1), (.int s2)] (.int (0 : Int32)) := Arv.set Ar200 q200 S200 M200 H200 G200 rfl W200 2 rfl (Nat.le_of_ble_eq_true rfl)
  obtain ⟨lc200, X200, N200⟩ := own_pack1 X200 N198 g_b194
  refine own_thr (a := T200.setTop (mkF m 134 #[.val (.int p0), .val (.int p1), .val (.int p2), .val (.int p3), .val (.int p4), .val (.int p5), .val (.int n), .val (.int s0), .val (.int d1), .val (.int tt), .val (.int d2), .val (.int s1), .val (.int s2), .val (.int (3 : Int32)), .val (.int (0 : Int32)), .val (.int r), .unset, .unset, .unset, .unset] [(.ref b194)])) (fun t kt => st200 t kt) ?_
  refine own_thr (a := T200.setTop (mkF m 137 #[.val (.int p0), .val (.int p1), .val (.int p2), .val (.int p3), .val (.int p4), .val (.int p5), .val (.int n), .val (.int s0), .val (.int d1), .val (.int tt), .val (.int d2), .val (.int s1), .val (.int s2), .val (.int (3 : Int32)), .val (.int (0 : Int32)), .val (.int r), .val (.ref b194), .unset, .unset, .unset] [(.int (3 : Int32))])) (fun t kt => ?_) ?_
  · show Steps p.tables e below (T200.setTop (mkF m 134 #[.val (.int p0), .val (.int p1), .val (.int p2), .val (.int p3), .val (.int p4), .val (.int p5), .val (.int n), .val (.int s0), .val (.int d1), .val (.int tt), .val (.int d2), .val (.int s1), .val (.int s2), .val (.int (3 : Int32)), .val (.int (0 : Int32)), .val (.int r), .unset, .unset, .unset, .unset] [(.ref b194)])) _
    refine XS.astore X200.here hx rfl (hb hby at_134) rfl rfl (l' := #[.val (.int p0), .val (.int p1), .val (.int p2), .val (.int p3), .val (.int p4), .val (.int p5), .val (.int n), .val (.int s0), .val (.int d1), .val (.int tt), .val (.int d2), .val (.int s1), .val (.int s2), .val (.int (3 : Int32)), .val (.int (0 : Int32)), .val (.int r), .val (.ref b194), .unset, .unset, .unset]) rfl ?_
    refine XS.iconst X200.here hx rfl (hb hby at_136) ?_
    exact kt
  obtain ⟨T202, h202, k202, X202, e202, E202, A202, st202⟩ := newP X200 hx hZ (hw _ (List.mem_of_getElem? (i := 2) rfl)) e200 (g := (mkF m 137 #[.val (.int p0), .val (.int p1), .val (.int p2), .val (.int p3), .val (.int p4), .val (.int p5), .val (.int n), .val (.int s0), .val (.int d1), .val (.int tt), .val (.int d2), .val (.int s1), .val (.int s2), .val (.int (3 : Int32)), .val (.int (0 : Int32)), .val (.int r), .val (.ref b194), .unset, .unset, .unset] [(.int (3 : Int32))])) rfl (hb hby at_137) rfl (by decide) (cap := 3) (by decide) (by decide) (by decide : 1 + 1 ≤ _) (by decide : 3 + 3 ≤ _)
  obtain ⟨b202, g202⟩ : ∃ z, z = h200.size := ⟨_, rfl⟩
  rw [← g202] at A202 st202
  have g_b202 : n0 ≤ b202 := Nat.le_trans Z201 (Nat.le_of_eq g202.symm)
  have sz_b202 : h0.size ≤ b202 := Nat.le_trans Z201h (Nat.le_of_eq g202.symm)
  have lt_b194_b202 : b194 < b202 := Nat.lt_of_lt_of_le V200.lt (Nat.le_of_eq g202.symm)
  have ne_b194_b202 : b194 ≠ b202 := Nat.ne_of_lt lt_b194_b202
  have V_b202 : Arv Z h202 b202 k202 .int (3 : Int32) [(.int (0 : Int32)), (.int (0 : Int32)), (.int (0 : Int32))] (.int (0 : Int32)) := (Arv.new A202 (by decide)).pad (pad_rep [] (.int (0 : Int32)) 3)
  have Z203 : n0 ≤ h202.size := Nat.le_trans Z201 E202.1
  have Z203h : h0.size ≤ h202.size := Nat.le_trans Z201h E202.1
  refine own_thr (a := T202.setTop (mkF m 139 #[.val (.int p0), .val (.int p1), .val (.int p2), .val (.int p3), .val (.int p4), .val (.int p5), .val (.int n), .val (.int s0), .val (.int d1), .val (.int tt), .val (.int d2), .val (.int s1), .val (.int s2), .val (.int (3 : Int32)), .val (.int (0 : Int32)), .val (.int r), .val (.ref b194), .unset, .unset, .unset] [(.ref b202)])) (fun t kt => st202 t kt) ?_
  refine own_thr (a := T202.setTop (mkF m 221 #[.val (.int p0), .val (.int p1), .val (.int p2), .val (.int p3), .val (.int p4), .val (.int p5), .val (.int n), .val (.int s0), .val (.int d1), .val (.int tt), .val (.int d2), .val (.int s1), .val (.int s2), .val (.int (3 : Int32)), .val (.int (0 : Int32)), .val (.int r), .val (.ref b194), .val (.ref b202), .unset, .unset] [(.int (0 : Int32)), (.ref b194), (.int (0 : Int32)), (.ref b202)])) (fun t kt => ?_) ?_
  · show Steps p.tables e below (T202.setTop (mkF m 139 #[.val (.int p0), .val (.int p1), .val (.int p2), .val (.int p3), .val (.int p4), .val (.int p5), .val (.int n), .val (.int s0), .val (.int d1), .val (.int tt), .val (.int d2), .val (.int s1), .val (.int s2), .val (.int (3 : Int32)), .val (.int (0 : Int32)), .val (.int r), .val (.ref b194), .unset, .unset, .unset] [(.ref b202)])) _
    refine XS.astore X202.here hx rfl (hb hby at_139) rfl rfl (l' := #[.val (.int p0), .val (.int p1), .val (.int p2), .val (.int p3), .val (.int p4), .val (.int p5), .val (.int n), .val (.int s0), .val (.int d1), .val (.int tt), .val (.int d2), .val (.int s1), .val (.int s2), .val (.int (3 : Int32)), .val (.int (0 : Int32)), .val (.int r), .val (.ref b194), .val (.ref b202), .unset, .unset]) rfl ?_
    refine XS.iload X202.here hx rfl (hb hby at_141) rfl ?_
    refine XS.ifYes X202.here hx rfl (pc0 := 143) (pc' := 215) rfl (hb hby at_143) rfl ((if0 _ _).trans (teq rfl).1) (by decide) (by decide) ?_
    refine XS.aload X202.here hx rfl (hb hby at_215) rfl rfl ?_
    refine XS.iconst X202.here hx rfl (hb hby at_217) ?_
    refine XS.aload X202.here hx rfl (hb hby at_218) rfl rfl ?_
    refine XS.iconst X202.here hx rfl (hb hby at_220) ?_
    exact kt
  obtain ⟨cl204, Ar204, -, S204, M204, H204, -⟩ := id (V200.ext E202)
  have hin204 : ¬ ((0 : Int32) < 0 ∨ cl204.slots.size ≤ ((0 : Int32)).toNatClampNeg) := inb_of S204 ⟨by decide, by decide⟩
  have hat204 : cl204.slots[((0 : Int32)).toNatClampNeg]? = some (.int s0) := Has.at H204 hin204 rfl
  refine own_thr (a := T202.setTop (mkF m 222 #[.val (.int p0), .val (.int p1), .val (.int p2), .val (.int p3), .val (.int p4), .val (.int p5), .val (.int n), .val (.int s0), .val (.int d1), .val (.int tt), .val (.int d2), .val (.int s1), .val (.int s2), .val (.int (3 : Int32)), .val (.int (0 : Int32)), .val (.int r), .val (.ref b194), .val (.ref b202), .unset, .unset] [(.int s0), (.int (0 : Int32)), (.ref b202)])) (fun t kt => ?_) ?_
  · show Steps p.tables e below (T202.setTop (mkF m 221 #[.val (.int p0), .val (.int p1), .val (.int p2), .val (.int p3), .val (.int p4), .val (.int p5), .val (.int n), .val (.int s0), .val (.int d1), .val (.int tt), .val (.int d2), .val (.int s1), .val (.int s2), .val (.int (3 : Int32)), .val (.int (0 : Int32)), .val (.int r), .val (.ref b194), .val (.ref b202), .unset, .unset] [(.int (0 : Int32)), (.ref b194), (.int (0 : Int32)), (.ref b202)])) _
    refine X202.iaload hx (j := (0 : Int32)) (v := (.int s0)) (by rw [e202]; exact Ar204.1) (State.isArrayOf_alike hZ.alike Ar204.2.1) Ar204.2.2 hin204 hat204 (g := (mkF m 221 #[.val (.int p0), .val (.int p1), .val (.int p2), .val (.int p3), .val (.int p4), .val (.int p5), .val (.int n), .val (.int s0), .val (.int d1), .val (.int tt), .val (.int d2), .val (.int s1), .val (.int s2), .val (.int (3 : Int32)), .val (.int (0 : Int32)), .val (.int r), .val (.ref b194), .val (.ref b202), .unset, .unset] [(.int (0 : Int32)), (.ref b194), (.int (0 : Int32)), (.ref b202)])) rfl rfl (hb hby at_221) _ ?_
    exact kt
  obtain ⟨cl205, Ar205, q205, S205, M205, H205, G205⟩ := id V_b202
  have hin205 : ¬ ((0 : Int32) < 0 ∨ cl205.slots.size ≤ ((0 : Int32)).toNatClampNeg) := inb_of S205 ⟨by decide, by decide⟩
  obtain ⟨T205, h205, X205, e205, W205, st205⟩ := stI X202 hx hZ e202 Ar205 (j := (0 : Int32)) hin205 (g := (mkF m 222 #[.val (.int p0), .val (.int p1), .val (.int p2), .val (.int p3), .val (.int p4), .val (.int p5), .val (.int n), .val (.int s0), .val (.int d1), .val (.int tt), .val (.int d2), .val (.int s1), .val (.int s2), .val (.int (3 : Int32)), .val (.int (0 : Int32)), .val (.int r), .val (.ref b194), .val (.ref b202), .unset, .unset] [(.int s0), (.int (0 : Int32)), (.ref b202)])) rfl rfl (hb hby at_222)
  have Z206 : n0 ≤ h205.size := Nat.le_trans Z203 (Nat.le_of_eq W205.size.symm)
  have Z206h : h0.size ≤ h205.size := Nat.le_trans Z203h (Nat.le_of_eq W205.size.symm)
  have V205 : Arv Z h205 b202 k202 .int (3 : Int32) [(.int s0), (.int (0 : Int32)), (.int (0 : Int32))] (.int (0 : Int32)) := Arv.set Ar205 q205 S205 M205 H205 G205 rfl W205 0 rfl (Nat.le_of_ble_eq_true rfl)
  obtain ⟨lc205, X205, N205⟩ := own_pack1 X205 N200 g_b202
  refine own_thr (a := T205.setTop (mkF m 223 #[.val (.int p0), .val (.int p1), .val (.int p2), .val (.int p3), .val (.int p4), .val (.int p5), .val (.int n), .val (.int s0), .val (.int d1), .val (.int tt), .val (.int d2), .val (.int s1), .val (.int s2), .val (.int (3 : Int32)), .val (.int (0 : Int32)), .val (.int r), .val (.ref b194), .val (.ref b202), .unset, .unset] [])) (fun t kt => st205 t kt) ?_
  refine own_thr (a := T205.setTop (mkF m 229 #[.val (.int p0), .val (.int p1), .val (.int p2), .val (.int p3), .val (.int p4), .val (.int p5), .val (.int n), .val (.int s0), .val (.int d1), .val (.int tt), .val (.int d2), .val (.int s1), .val (.int s2), .val (.int (3 : Int32)), .val (.int (0 : Int32)), .val (.int r), .val (.ref b194), .val (.ref b202), .unset, .unset] [(.int (1 : Int32)), (.ref b194), (.int (1 : Int32)), (.ref b202)])) (fun t kt => ?_) ?_
  · show Steps p.tables e below (T205.setTop (mkF m 223 #[.val (.int p0), .val (.int p1), .val (.int p2), .val (.int p3), .val (.int p4), .val (.int p5), .val (.int n), .val (.int s0), .val (.int d1), .val (.int tt), .val (.int d2), .val (.int s1), .val (.int s2), .val (.int (3 : Int32)), .val (.int (0 : Int32)), .val (.int r), .val (.ref b194), .val (.ref b202), .unset, .unset] [])) _
    refine XS.aload X205.here hx rfl (hb hby at_223) rfl rfl ?_
    refine XS.iconst X205.here hx rfl (hb hby at_225) ?_
    refine XS.aload X205.here hx rfl (hb hby at_226) rfl rfl ?_
    refine XS.iconst X205.here hx rfl (hb hby at_228) ?_
    exact kt
  obtain ⟨cl207, Ar207, -, S207, M207, H207, -⟩ := id ((V200.ext E202).other W205 ne_b194_b202)
  have hin207 : ¬ ((1 : Int32) < 0 ∨ cl207.slots.size ≤ ((1 : Int32)).toNatClampNeg) := inb_of S207 ⟨by decide, by decide⟩
  have hat207 : cl207.slots[((1 : Int32)).toNatClampNeg]? = some (.int s1) := Has.at H207 hin207 rfl
  refine own_thr (a := T205.setTop (mkF m 230 #[.val (.int p0), .val (.int p1), .val (.int p2), .val (.int p3), .val (.int p4), .val (.int p5), .val (.int n), .val (.int s0), .val (.int d1), .val (.int tt), .val (.int d2), .val (.int s1), .val (.int s2), .val (.int (3 : Int32)), .val (.int (0 : Int32)), .val (.int r), .val (.ref b194), .val (.ref b202), .unset, .unset] [(.int s1), (.int (1 : Int32)), (.ref b202)])) (fun t kt => ?_) ?_
  · show Steps p.tables e below (T205.setTop (mkF m 229 #[.val (.int p0), .val (.int p1), .val (.int p2), .val (.int p3), .val (.int p4), .val (.int p5), .val (.int n), .val (.int s0), .val (.int d1), .val (.int tt), .val (.int d2), .val (.int s1), .val (.int s2), .val (.int (3 : Int32)), .val (.int (0 : Int32)), .val (.int r), .val (.ref b194), .val (.ref b202), .unset, .unset] [(.int (1 : Int32)), (.ref b194), (.int (1 : Int32)), (.ref b202)])) _
    refine X205.iaload hx (j := (1 : Int32)) (v := (.int s1)) (by rw [e205]; exact Ar207.1) (State.isArrayOf_alike hZ.alike Ar207.2.1) Ar207.2.2 hin207 hat207 (g := (mkF m 229 #[.val (.int p0), .val (.int p1), .val (.int p2), .val (.int p3), .val (.int p4), .val (.int p5), .val (.int n), .val (.int s0), .val (.int d1), .val (.int tt), .val (.int d2), .val (.int s1), .val (.int s2), .val (.int (3 : Int32)), .val (.int (0 : Int32)), .val (.int r), .val (.ref b194), .val (.ref b202), .unset, .unset] [(.int (1 : Int32)), (.ref b194), (.int (1 : Int32)), (.ref b202)])) rfl rfl (hb hby at_229) _ ?_
    exact kt
  obtain ⟨cl208, Ar208, q208, S208, M208, H208, G208⟩ := id V205
  have hin208 : ¬ ((1 : Int32) < 0 ∨ cl208.slots.size ≤ ((1 : Int32)).toNatClampNeg) := inb_of S208 ⟨by decide, by decide⟩
  obtain ⟨T208, h208, X208, e208, W208, st208⟩ := stI X205 hx hZ e205 Ar208 (j := (1 : Int32)) hin208 (g := (mkF m 230 #[.val (.int p0), .val (.int p1), .val (.int p2), .val (.int p3), .val (.int p4), .val (.int p5), .val (.int n), .val (.int s0), .val (.int d1), .val (.int tt), .val (.int d2), .val (.int s1), .val (.int s2), .val (.int (3 : Int32)), .val (.int (0 : Int32)), .val (.int r), .val (.ref b194), .val (.ref b202), .unset, .unset] [(.int s1), (.int (1 : Int32)), (.ref b202)])) rfl rfl (hb hby at_230)
  have Z209 : n0 ≤ h208.size := Nat.le_trans Z206 (Nat.le_of_eq W208.size.symm)
  have Z209h : h0.size ≤ h208.size := Nat.le_trans Z206h (Nat.le_of_eq W208.size.symm)
  have V208 : Arv Z h208 b202 k202 .int (3 : Int32) [(.int s0), (.int s1), (.int (0 : Int32))] (.int (0 : Int32)) := Arv.set Ar208 q208 S208 M208 H208 G208 rfl W208 1 rfl (Nat.le_of_ble_eq_true rfl)
  obtain ⟨lc208, X208, N208⟩ := own_pack1 X208 N205 g_b202
  refine own_thr (a := T208.setTop (mkF m 231 #[.val (.int p0), .val (.int p1), .val (.int p2), .val (.int p3), .val (.int p4), .val (.int p5), .val (.int n), .val (.int s0), .val (.int d1), .val (.int tt), .val (.int d2), .val (.int s1), .val (.int s2), .val (.int (3 : Int32)), .val (.int (0 : Int32)), .val (.int r), .val (.ref b194), .val (.ref b202), .unset, .unset] [])) (fun t kt => st208 t kt) ?_
  refine own_thr (a := T208.setTop (mkF m 237 #[.val (.int p0), .val (.int p1), .val (.int p2), .val (.int p3), .val (.int p4), .val (.int p5), .val (.int n), .val (.int s0), .val (.int d1), .val (.int tt), .val (.int d2), .val (.int s1), .val (.int s2), .val (.int (3 : Int32)), .val (.int (0 : Int32)), .val (.int r), .val (.ref b194), .val (.ref b202), .unset, .unset] [(.int (2 : Int32)), (.ref b194), (.int (2 : Int32)), (.ref b202)])) (fun t kt => ?_) ?_
  · show Steps p.tables e below (T208.setTop (mkF m 231 #[.val (.int p0), .val (.int p1), .val (.int p2), .val (.int p3), .val (.int p4), .val (.int p5), .val (.int n), .val (.int s0), .val (.int d1), .val (.int tt), .val (.int d2), .val (.int s1), .val (.int s2), .val (.int (3 : Int32)), .val (.int (0 : Int32)), .val (.int r), .val (.ref b194), .val (.ref b202), .unset, .unset] [])) _
    refine XS.aload X208.here hx rfl (hb hby at_231) rfl rfl ?_
    refine XS.iconst X208.here hx rfl (hb hby at_233) ?_
    refine XS.aload X208.here hx rfl (hb hby at_234) rfl rfl ?_
    refine XS.iconst X208.here hx rfl (hb hby at_236) ?_
    exact kt
  have c211 := (((V200.ext E202).other W205 ne_b194_b202).other W208 ne_b194_b202)
  obtain ⟨cl210, Ar210, -, S210, M210, H210, -⟩ := id c211
  have hin210 : ¬ ((2 : Int32) < 0 ∨ cl210.slots.size ≤ ((2 : Int32)).toNatClampNeg) := inb_of S210 ⟨by decide, by decide⟩
  have hat210 : cl210.slots[((2 : Int32)).toNatClampNeg]? = some (.int s2) := Has.at H210 hin210 rfl
  refine own_thr (a := T208.setTop (mkF m 238 #[.val (.int p0), .val (.int p1), .val (.int p2), .val (.int p3), .val (.int p4), .val (.int p5), .val (.int n), .val (.int s0), .val (.int d1), .val (.int tt), .val (.int d2), .val (.int s1), .val (.int s2), .val (.int (3 : Int32)), .val (.int (0 : Int32)), .val (.int r), .val (.ref b194), .val (.ref b202), .unset, .unset] [(.int s2), (.int (2 : Int32)), (.ref b202)])) (fun t kt => ?_) ?_
  · show Steps p.tables e below (T208.setTop (mkF m 237 #[.val (.int p0), .val (.int p1), .val (.int p2), .val (.int p3), .val (.int p4), .val (.int p5), .val (.int n), .val (.int s0), .val (.int d1), .val (.int tt), .val (.int d2), .val (.int s1), .val (.int s2), .val (.int (3 : Int32)), .val (.int (0 : Int32)), .val (.int r), .val (.ref b194), .val (.ref b202), .unset, .unset] [(.int (2 : Int32)), (.ref b194), (.int (2 : Int32)), (.ref b202)])) _
    refine X208.iaload hx (j := (2 : Int32)) (v := (.int s2)) (by rw [e208]; exact Ar210.1) (State.isArrayOf_alike hZ.alike Ar210.2.1) Ar210.2.2 hin210 hat210 (g := (mkF m 237 #[.val (.int p0), .val (.int p1), .val (.int p2), .val (.int p3), .val (.int p4), .val (.int p5), .val (.int n), .val (.int s0), .val (.int d1), .val (.int tt), .val (.int d2), .val (.int s1), .val (.int s2), .val (.int (3 : Int32)), .val (.int (0 : Int32)), .val (.int r), .val (.ref b194), .val (.ref b202), .unset, .unset] [(.int (2 : Int32)), (.ref b194), (.int (2 : Int32)), (.ref b202)])) rfl rfl (hb hby at_237) _ ?_
    exact kt
  obtain ⟨cl212, Ar212, q212, S212, M212, H212, G212⟩ := id V208
  have hin212 : ¬ ((2 : Int32) < 0 ∨ cl212.slots.size ≤ ((2 : Int32)).toNatClampNeg) := inb_of S212 ⟨by decide, by decide⟩
  obtain ⟨T212, h212, X212, e212, W212, st212⟩ := stI X208 hx hZ e208 Ar212 (j := (2 : Int32)) hin212 (g := (mkF m 238 #[.val (.int p0), .val (.int p1), .val (.int p2), .val (.int p3), .val (.int p4), .val (.int p5), .val (.int n), .val (.int s0), .val (.int d1), .val (.int tt), .val (.int d2), .val (.int s1), .val (.int s2), .val (.int (3 : Int32)), .val (.int (0 : Int32)), .val (.int r), .val (.ref b194), .val (.ref b202), .unset, .unset] [(.int s2), (.int (2 : Int32)), (.ref b202)])) rfl rfl (hb hby at_238)
  have Z213 : n0 ≤ h212.size := Nat.le_trans Z209 (Nat.le_of_eq W212.size.symm)
  have Z213h : h0.size ≤ h212.size := Nat.le_trans Z209h (Nat.le_of_eq W212.size.symm)
  have V212 : Arv Z h212 b202 k202 .int (3 : Int32) [(.int s0), (.int s1), (.int s2)] (.int (0 : Int32)) := Arv.set Ar212 q212 S212 M212 H212 G212 rfl W212 2 rfl (Nat.le_of_ble_eq_true rfl)
  obtain ⟨lc212, X212, N212⟩ := own_pack1 X212 N208 g_b202
  refine own_thr (a := T212.setTop (mkF m 239 #[.val (.int p0), .val (.int p1), .val (.int p2), .val (.int p3), .val (.int p4), .val (.int p5), .val (.int n), .val (.int s0), .val (.int d1), .val (.int tt), .val (.int d2), .val (.int s1), .val (.int s2), .val (.int (3 : Int32)), .val (.int (0 : Int32)), .val (.int r), .val (.ref b194), .val (.ref b202), .unset, .unset] [])) (fun t kt => st212 t kt) ?_
  obtain ⟨T214, h214, X214, e214, E214, A214, D214, U214, st214⟩ := newO X212 hx hZ hown (hw _ (List.mem_of_getElem? (i := 3) rfl)) (hw _ (List.mem_of_getElem? (i := 4) rfl)) (hw _ (List.mem_of_getElem? (i := 5) rfl)) e212 (g := (mkF m 239 #[.val (.int p0), .val (.int p1), .val (.int p2), .val (.int p3), .val (.int p4), .val (.int p5), .val (.int n), .val (.int s0), .val (.int d1), .val (.int tt), .val (.int d2), .val (.int s1), .val (.int s2), .val (.int (3 : Int32)), .val (.int (0 : Int32)), .val (.int r), .val (.ref b194), .val (.ref b202), .unset, .unset] [])) rfl (hb hby at_239) (by decide : 2 + 1 ≤ _) (by decide : 6 + 4 ≤ _)
  obtain ⟨b214, g214⟩ : ∃ z, z = h212.size := ⟨_, rfl⟩
  rw [← g214] at A214 D214 st214 U214
  have g_b214 : n0 ≤ b214 := Nat.le_trans Z213 (Nat.le_of_eq g214.symm)
  have sz_b214 : h0.size ≤ b214 := Nat.le_trans Z213h (Nat.le_of_eq g214.symm)
  have lt_b194_b214 : b194 < b214 := Nat.lt_of_lt_of_le (c211.other W212 ne_b194_b202).lt (Nat.le_of_eq g214.symm)
  have ne_b194_b214 : b194 ≠ b214 := Nat.ne_of_lt lt_b194_b214
  have lt_b202_b214 : b202 < b214 := Nat.lt_of_lt_of_le V212.lt (Nat.le_of_eq g214.symm)
  have ne_b202_b214 : b202 ≠ b214 := Nat.ne_of_lt lt_b202_b214
  have Z215 : n0 ≤ h214.size := Nat.le_trans Z213 E214.1
  have Z215h : h0.size ≤ h214.size := Nat.le_trans Z213h E214.1
  have F_first_b214 : Fld Z h214 b214 "dev/chainlatch/bucket/Order" "first" "I" (.int (0 : Int32)) := D214 (Or.inl (hw _ (List.mem_of_getElem? (i := 13) rfl))) (ty := .int) (by decide)
  have F_last_b214 : Fld Z h214 b214 "dev/chainlatch/bucket/Order" "last" "I" (.int (0 : Int32)) := D214 (Or.inl (hw _ (List.mem_of_getElem? (i := 15) rfl))) (ty := .int) (by decide)
  have F_before_b214 : Fld Z h214 b214 "dev/chainlatch/bucket/Order" "before" "[I" .null := D214 (Or.inl (hw _ (List.mem_of_getElem? (i := 17) rfl))) (ty := (.array .int)) (by decide)
  have F_after_b214 : Fld Z h214 b214 "dev/chainlatch/bucket/Order" "after" "[I" .null := D214 (Or.inl (hw _ (List.mem_of_getElem? (i := 19) rfl))) (ty := (.array .int)) (by decide)
  refine own_thr (a := T214.setTop (mkF m 242 #[.val (.int p0), .val (.int p1), .val (.int p2), .val (.int p3), .val (.int p4), .val (.int p5), .val (.int n), .val (.int s0), .val (.int d1), .val (.int tt), .val (.int d2), .val (.int s1), .val (.int s2), .val (.int (3 : Int32)), .val (.int (0 : Int32)), .val (.int r), .val (.ref b194), .val (.ref b202), .unset, .unset] [(.ref b214)])) (fun t kt => st214 t kt) ?_
  refine own_thr (a := T214.setTop (mkF m 245 #[.val (.int p0), .val (.int p1), .val (.int p2), .val (.int p3), .val (.int p4), .val (.int p5), .val (.int n), .val (.int s0), .val (.int d1), .val (.int tt), .val (.int d2), .val (.int s1), .val (.int s2), .val (.int (3 : Int32)), .val (.int (0 : Int32)), .val (.int r), .val (.ref b194), .val (.ref b202), .unset, .unset] [(.int n), (.ref b214), (.ref b214)])) (fun t kt => ?_) ?_
  · show Steps p.tables e below (T214.setTop (mkF m 242 #[.val (.int p0), .val (.int p1), .val (.int p2), .val (.int p3), .val (.int p4), .val (.int p5), .val (.int n), .val (.int s0), .val (.int d1), .val (.int tt), .val (.int d2), .val (.int s1), .val (.int s2), .val (.int (3 : Int32)), .val (.int (0 : Int32)), .val (.int r), .val (.ref b194), .val (.ref b202), .unset, .unset] [(.ref b214)])) _
    refine XS.dup X214.here hx rfl (hb hby at_242) rfl rfl ?_
    refine XS.iload X214.here hx rfl (hb hby at_243) rfl ?_
    exact kt
  obtain ⟨_, _, ⟨T216, L216, k216, n216⟩, -, X216, ⟨Lc216, hQ216, l216, y216, z216⟩, st216⟩ := X214.specialBack hx (y := (⟨"dev/chainlatch/bucket/Order", "<init>", "(I)V"⟩ : MethodName)) rfl hown (mvT hZ (hw _ (List.mem_of_getElem? (i := 6) rfl))) (mvT hZ (hw _ (List.mem_of_getElem? (i := 7) rfl))) (mvT hZ (hw _ (List.mem_of_getElem? (i := 8) rfl))) (by decide) (backOf (W := 1) (rmI l Z a0 hw [] b214 n h214 n0 Z215 A214 F_first_b214 F_last_b214 F_before_b214 F_after_b214 g_b214 hn0 hn1) hZ (hw _ (List.mem_of_getElem? (i := 8) rfl)) (hw _ (List.mem_of_getElem? (i := 5) rfl)) (by decide) (by decide)) (g := (mkF m 245 #[.val (.int p0), .val (.int p1), .val (.int p2), .val (.int p3), .val (.int p4), .val (.int p5), .val (.int n), .val (.int s0), .val (.int d1), .val (.int tt), .val (.int d2), .val (.int s1), .val (.int s2), .val (.int (3 : Int32)), .val (.int (0 : Int32)), .val (.int r), .val (.ref b194), .val (.ref b202), .unset, .unset] [(.int n), (.ref b214), (.ref b214)])) rfl (by rw [hml]; rfl) (Steps.refl _) (a := b214) (argsL := [(.int n)]) (rest := [(.ref b214)]) (lenOf pd__28I_29V rfl) rfl (by show 2 * 0 + _ ≤ _; exact Nat.le_of_eq rfl) (hb hby at_245) (fun _ _ => ⟨rfl, e214, (by decide : 3 + 2 ≤ _), (by decide : 10 + 20 ≤ _)⟩)
  dsimp only [Pt.U, Pt.locs, Pt.cells, Pt.slots] at X216 l216 y216 z216 st216 hQ216
  obtain ⟨B216, A216, rfl, N216q, K216, o216_e, o216_f, o216_l, o216_b, o216_a, o216_B, o216_A, hB216, hBA216⟩ := hQ216
  have ne_b194_B216 : b194 ≠ B216 := Nat.ne_of_lt (Nat.lt_of_lt_of_le ((c211.other W212 ne_b194_b202).ext E214).lt hB216)
  have ne_b194_A216 : b194 ≠ A216 := Nat.ne_of_lt (Nat.lt_trans (Nat.lt_of_lt_of_le ((c211.other W212 ne_b194_b202).ext E214).lt hB216) hBA216)
  have ne_b202_B216 : b202 ≠ B216 := Nat.ne_of_lt (Nat.lt_of_lt_of_le (V212.ext E214).lt hB216)
  have ne_b202_A216 : b202 ≠ A216 := Nat.ne_of_lt (Nat.lt_trans (Nat.lt_of_lt_of_le (V212.ext E214).lt hB216) hBA216)
  have ne_b214_B216 : b214 ≠ B216 := Nat.ne_of_lt (Nat.lt_of_lt_of_le A214.lt hB216)
  have ne_b214_A216 : b214 ≠ A216 := Nat.ne_of_lt (Nat.lt_trans (Nat.lt_of_lt_of_le A214.lt hB216) hBA216)
  have ne_B216_A216 : B216 ≠ A216 := Nat.ne_of_lt hBA216
  have g_B216 : n0 ≤ B216 := Nat.le_trans Z215 hB216
  have g_A216 : n0 ≤ A216 := Nat.le_trans g_B216 (Nat.le_of_lt hBA216)
  have Z217 : n0 ≤ T216.heap.size := Nat.le_trans Z215 K216.1
  have Z217h : h0.size ≤ T216.heap.size := Nat.le_trans Z215h K216.1
  obtain ⟨lc216, X216, N216⟩ := own_pack X216 l216 y216 z216 N212 N216q (C := 5) (S' := 30) rfl rfl
  refine own_thr (a := T216.setTop (mkF m 248 #[.val (.int p0), .val (.int p1), .val (.int p2), .val (.int p3), .val (.int p4), .val (.int p5), .val (.int n), .val (.int s0), .val (.int d1), .val (.int tt), .val (.int d2), .val (.int s1), .val (.int s2), .val (.int (3 : Int32)), .val (.int (0 : Int32)), .val (.int r), .val (.ref b194), .val (.ref b202), .unset, .unset] [(.ref b214)])) (fun t kt => st216.trans kt) ?_
  refine own_thr (a := T216.setTop (mkF m 255 #[.val (.int p0), .val (.int p1), .val (.int p2), .val (.int p3), .val (.int p4), .val (.int p5), .val (.int n), .val (.int s0), .val (.int d1), .val (.int tt), .val (.int d2), .val (.int s1), .val (.int s2), .val (.int (3 : Int32)), .val (.int (0 : Int32)), .val (.int r), .val (.ref b194), .val (.ref b202), .val (.ref b214), .unset] [(.int (0 : Int32)), (.ref b194), (.ref b214)])) (fun t kt => ?_) ?_
  · show Steps p.tables e below (T216.setTop (mkF m 248 #[.val (.int p0), .val (.int p1), .val (.int p2), .val (.int p3), .val (.int p4), .val (.int p5), .val (.int n), .val (.int s0), .val (.int d1), .val (.int tt), .val (.int d2), .val (.int s1), .val (.int s2), .val (.int (3 : Int32)), .val (.int (0 : Int32)), .val (.int r), .val (.ref b194), .val (.ref b202), .unset, .unset] [(.ref b214)])) _
    refine XS.astore X216.here hx rfl (hb hby at_248) rfl rfl (l' := #[.val (.int p0), .val (.int p1), .val (.int p2), .val (.int p3), .val (.int p4), .val (.int p5), .val (.int n), .val (.int s0), .val (.int d1), .val (.int tt), .val (.int d2), .val (.int s1), .val (.int s2), .val (.int (3 : Int32)), .val (.int (0 : Int32)), .val (.int r), .val (.ref b194), .val (.ref b202), .val (.ref b214), .unset]) rfl ?_
    refine XS.aload X216.here hx rfl (hb hby at_250) rfl rfl ?_
    refine XS.aload X216.here hx rfl (hb hby at_252) rfl rfl ?_
    refine XS.iconst X216.here hx rfl (hb hby at_254) ?_
    exact kt
  have c219 := (((c211.other W212 ne_b194_b202).ext E214).keep K216 (ninS ne_b194_b214 nin0))
  obtain ⟨cl218, Ar218, -, S218, M218, H218, -⟩ := id c219
  have hin218 : ¬ ((0 : Int32) < 0 ∨ cl218.slots.size ≤ ((0 : Int32)).toNatClampNeg) := inb_of S218 ⟨by decide, by decide⟩
  have hat218 : cl218.slots[((0 : Int32)).toNatClampNeg]? = some (.int s0) := Has.at H218 hin218 rfl
  refine own_thr (a := T216.setTop (mkF m 256 #[.val (.int p0), .val (.int p1), .val (.int p2), .val (.int p3), .val (.int p4), .val (.int p5), .val (.int n), .val (.int s0), .val (.int d1), .val (.int tt), .val (.int d2), .val (.int s1), .val (.int s2), .val (.int (3 : Int32)), .val (.int (0 : Int32)), .val (.int r), .val (.ref b194), .val (.ref b202), .val (.ref b214), .unset] [(.int s0), (.ref b214)])) (fun t kt => ?_) ?_
  · show Steps p.tables e below (T216.setTop (mkF m 255 #[.val (.int p0), .val (.int p1), .val (.int p2), .val (.int p3), .val (.int p4), .val (.int p5), .val (.int n), .val (.int s0), .val (.int d1), .val (.int tt), .val (.int d2), .val (.int s1), .val (.int s2), .val (.int (3 : Int32)), .val (.int (0 : Int32)), .val (.int r), .val (.ref b194), .val (.ref b202), .val (.ref b214), .unset] [(.int (0 : Int32)), (.ref b194), (.ref b214)])) _
    refine X216.iaload hx (j := (0 : Int32)) (v := (.int s0)) Ar218.1 (State.isArrayOf_alike hZ.alike Ar218.2.1) Ar218.2.2 hin218 hat218 (g := (mkF m 255 #[.val (.int p0), .val (.int p1), .val (.int p2), .val (.int p3), .val (.int p4), .val (.int p5), .val (.int n), .val (.int s0), .val (.int d1), .val (.int tt), .val (.int d2), .val (.int s1), .val (.int s2), .val (.int (3 : Int32)), .val (.int (0 : Int32)), .val (.int r), .val (.ref b194), .val (.ref b202), .val (.ref b214), .unset] [(.int (0 : Int32)), (.ref b194), (.ref b214)])) rfl rfl (hb hby at_255) _ ?_
    exact kt
  obtain ⟨cq220, kq220, q220a, q220b, q220c⟩ := isOf hZ rfl o216_e
  obtain ⟨_, _, ⟨T220, L220, k220, n220⟩, -, X220, ⟨Lc220, hQ220, l220, y220, z220⟩, st220⟩ := X216.virtualBack hx (y := (⟨"dev/chainlatch/bucket/Order", "append", "(I)V"⟩ : MethodName)) (z := (⟨"dev/chainlatch/bucket/Order", "append", "(I)V"⟩ : MethodName)) hown (mvT hZ (hw _ (List.mem_of_getElem? (i := 20) rfl))) (mvT hZ (hw _ (List.mem_of_getElem? (i := 21) rfl))) (notFace_of_selects (args := #[]) (mvT hZ (hw _ (List.mem_of_getElem? (i := 23) rfl)))) (mvT hZ (hw _ (List.mem_of_getElem? (i := 23) rfl))) (mvT hZ (hw _ (List.mem_of_getElem? (i := 22) rfl))) (by decide) (backOf (W := 0) (rmA1 l Z a0 hw [] b214 s0 B216 A216 n (-1 : Int32) (-1 : Int32) (fun _ => 0) (fun _ => 0) T216.heap n0 Z217 o216_e o216_f o216_l o216_b o216_a o216_B o216_A g_b214 g_B216 g_A216 ne_b214_B216 ne_b214_A216 ne_B216_A216 hs00 hs01 rfl) hZ (hw _ (List.mem_of_getElem? (i := 24) rfl)) (hw _ (List.mem_of_getElem? (i := 5) rfl)) (by decide) (by decide)) q220a q220c (g := (mkF m 256 #[.val (.int p0), .val (.int p1), .val (.int p2), .val (.int p3), .val (.int p4), .val (.int p5), .val (.int n), .val (.int s0), .val (.int d1), .val (.int tt), .val (.int d2), .val (.int s1), .val (.int s2), .val (.int (3 : Int32)), .val (.int (0 : Int32)), .val (.int r), .val (.ref b194), .val (.ref b202), .val (.ref b214), .unset] [(.int s0), (.ref b214)])) rfl (by rw [hml]; rfl) (Steps.refl _) (argsL := [(.int s0)]) (rest := []) (lenOf pd__28I_29V rfl) rfl (by show 2 * 0 + _ ≤ _; exact Nat.le_of_eq rfl) (hb hby at_256) (fun _ _ => ⟨rfl, rfl, (by decide : 5 + 0 ≤ _), (by decide : 30 + 0 ≤ _)⟩)
  dsimp only [Pt.U, Pt.locs, Pt.cells, Pt.slots] at X220 l220 y220 z220 st220 hQ220
  obtain ⟨rfl, N220q, K220, o220_0, o220_1, o220_2, o220_3, o220_4, o220_5, o220_6⟩ := hQ220
  have Z221 : n0 ≤ T220.heap.size := Nat.le_trans Z217 K220.1
  have Z221h : h0.size ≤ T220.heap.size := Nat.le_trans Z217h K220.1
  obtain ⟨lc220, X220, N220⟩ := own_pack X220 l220 y220 z220 N216 N220q (C := 5) (S' := 30) rfl rfl
  refine own_thr (a := T220.setTop (mkF m 259 #[.val (.int p0), .val (.int p1), .val (.int p2), .val (.int p3), .val (.int p4), .val (.int p5), .val (.int n), .val (.int s0), .val (.int d1), .val (.int tt), .val (.int d2), .val (.int s1), .val (.int s2), .val (.int (3 : Int32)), .val (.int (0 : Int32)), .val (.int r), .val (.ref b194), .val (.ref b202), .val (.ref b214), .unset] [])) (fun t kt => st220.trans kt) ?_
  refine own_thr (a := T220.setTop (mkF m 270 #[.val (.int p0), .val (.int p1), .val (.int p2), .val (.int p3), .val (.int p4), .val (.int p5), .val (.int n), .val (.int s0), .val (.int d1), .val (.int tt), .val (.int d2), .val (.int s1), .val (.int s2), .val (.int (3 : Int32)), .val (.int (0 : Int32)), .val (.int r), .val (.ref b194), .val (.ref b202), .val (.ref b214), .unset] [(.int (1 : Int32)), (.ref b194), (.ref b214)])) (fun t kt => ?_) ?_
  · show Steps p.tables e below (T220.setTop (mkF m 259 #[.val (.int p0), .val (.int p1), .val (.int p2), .val (.int p3), .val (.int p4), .val (.int p5), .val (.int n), .val (.int s0), .val (.int d1), .val (.int tt), .val (.int d2), .val (.int s1), .val (.int s2), .val (.int (3 : Int32)), .val (.int (0 : Int32)), .val (.int r), .val (.ref b194), .val (.ref b202), .val (.ref b214), .unset] [])) _
    refine XS.iload X220.here hx rfl (hb hby at_259) rfl ?_
    refine XS.iconst X220.here hx rfl (hb hby at_261) ?_
    refine XS.icmpNo X220.here hx rfl (hb hby at_262) rfl (tlt (by decide)).2.2.2 ?_
    refine XS.aload X220.here hx rfl (hb hby at_265) rfl rfl ?_
    refine XS.aload X220.here hx rfl (hb hby at_267) rfl rfl ?_
    refine XS.iconst X220.here hx rfl (hb hby at_269) ?_
    exact kt
  have c223 := (c219.keep K220 (ninS ne_b194_b214 (ninS ne_b194_B216 (ninS ne_b194_A216 nin0))))
  obtain ⟨cl222, Ar222, -, S222, M222, H222, -⟩ := id c223
  have hin222 : ¬ ((1 : Int32) < 0 ∨ cl222.slots.size ≤ ((1 : Int32)).toNatClampNeg) := inb_of S222 ⟨by decide, by decide⟩
  have hat222 : cl222.slots[((1 : Int32)).toNatClampNeg]? = some (.int s1) := Has.at H222 hin222 rfl
  refine own_thr (a := T220.setTop (mkF m 271 #[.val (.int p0), .val (.int p1), .val (.int p2), .val (.int p3), .val (.int p4), .val (.int p5), .val (.int n), .val (.int s0), .val (.int d1), .val (.int tt), .val (.int d2), .val (.int s1), .val (.int s2), .val (.int (3 : Int32)), .val (.int (0 : Int32)), .val (.int r), .val (.ref b194), .val (.ref b202), .val (.ref b214), .unset] [(.int s1), (.ref b214)])) (fun t kt => ?_) ?_
  · show Steps p.tables e below (T220.setTop (mkF m 270 #[.val (.int p0), .val (.int p1), .val (.int p2), .val (.int p3), .val (.int p4), .val (.int p5), .val (.int n), .val (.int s0), .val (.int d1), .val (.int tt), .val (.int d2), .val (.int s1), .val (.int s2), .val (.int (3 : Int32)), .val (.int (0 : Int32)), .val (.int r), .val (.ref b194), .val (.ref b202), .val (.ref b214), .unset] [(.int (1 : Int32)), (.ref b194), (.ref b214)])) _
    refine X220.iaload hx (j := (1 : Int32)) (v := (.int s1)) Ar222.1 (State.isArrayOf_alike hZ.alike Ar222.2.1) Ar222.2.2 hin222 hat222 (g := (mkF m 270 #[.val (.int p0), .val (.int p1), .val (.int p2), .val (.int p3), .val (.int p4), .val (.int p5), .val (.int n), .val (.int s0), .val (.int d1), .val (.int tt), .val (.int d2), .val (.int s1), .val (.int s2), .val (.int (3 : Int32)), .val (.int (0 : Int32)), .val (.int r), .val (.ref b194), .val (.ref b202), .val (.ref b214), .unset] [(.int (1 : Int32)), (.ref b194), (.ref b214)])) rfl rfl (hb hby at_270) _ ?_
    exact kt
  obtain ⟨cq224, kq224, q224a, q224b, q224c⟩ := isOf hZ rfl o220_0
  obtain ⟨_, _, ⟨T224, L224, k224, n224⟩, -, X224, ⟨Lc224, hQ224, l224, y224, z224⟩, st224⟩ := X220.virtualBack hx (y := (⟨"dev/chainlatch/bucket/Order", "append", "(I)V"⟩ : MethodName)) (z := (⟨"dev/chainlatch/bucket/Order", "append", "(I)V"⟩ : MethodName)) hown (mvT hZ (hw _ (List.mem_of_getElem? (i := 20) rfl))) (mvT hZ (hw _ (List.mem_of_getElem? (i := 21) rfl))) (notFace_of_selects (args := #[]) (mvT hZ (hw _ (List.mem_of_getElem? (i := 23) rfl)))) (mvT hZ (hw _ (List.mem_of_getElem? (i := 23) rfl))) (mvT hZ (hw _ (List.mem_of_getElem? (i := 22) rfl))) (by decide) (backOf (W := 0) (rmA2 l Z a0 hw [] b214 s1 B216 A216 n s0 s0 (own_up (fun _ => 0) s0 ((-1 : Int32) + (1 : Int32))) (own_up (fun _ => 0) s0 (0 : Int32)) T220.heap n0 Z221 o220_0 o220_1 o220_2 o220_3 o220_4 o220_5 o220_6 g_b214 g_B216 g_A216 ne_b214_B216 ne_b214_A216 ne_B216_A216 hs10 hs11 hs00 hs01) hZ (hw _ (List.mem_of_getElem? (i := 24) rfl)) (hw _ (List.mem_of_getElem? (i := 5) rfl)) (by decide) (by decide)) q224a q224c (g := (mkF m 271 #[.val (.int p0), .val (.int p1), .val (.int p2), .val (.int p3), .val (.int p4), .val (.int p5), .val (.int n), .val (.int s0), .val (.int d1), .val (.int tt), .val (.int d2), .val (.int s1), .val (.int s2), .val (.int (3 : Int32)), .val (.int (0 : Int32)), .val (.int r), .val (.ref b194), .val (.ref b202), .val (.ref b214), .unset] [(.int s1), (.ref b214)])) rfl (by rw [hml]; rfl) (Steps.refl _) (argsL := [(.int s1)]) (rest := []) (lenOf pd__28I_29V rfl) rfl (by show 2 * 0 + _ ≤ _; exact Nat.le_of_eq rfl) (hb hby at_271) (fun _ _ => ⟨rfl, rfl, (by decide : 5 + 0 ≤ _), (by decide : 30 + 0 ≤ _)⟩)
  dsimp only [Pt.U, Pt.locs, Pt.cells, Pt.slots] at X224 l224 y224 z224 st224 hQ224
  obtain ⟨rfl, N224q, K224, o224_0, o224_1, o224_2, o224_3, o224_4, o224_5, o224_6⟩ := hQ224
  have Z225 : n0 ≤ T224.heap.size := Nat.le_trans Z221 K224.1
  have Z225h : h0.size ≤ T224.heap.size := Nat.le_trans Z221h K224.1
  obtain ⟨lc224, X224, N224⟩ := own_pack X224 l224 y224 z224 N220 N224q (C := 5) (S' := 30) rfl rfl
  refine own_thr (a := T224.setTop (mkF m 274 #[.val (.int p0), .val (.int p1), .val (.int p2), .val (.int p3), .val (.int p4), .val (.int p5), .val (.int n), .val (.int s0), .val (.int d1), .val (.int tt), .val (.int d2), .val (.int s1), .val (.int s2), .val (.int (3 : Int32)), .val (.int (0 : Int32)), .val (.int r), .val (.ref b194), .val (.ref b202), .val (.ref b214), .unset] [])) (fun t kt => st224.trans kt) ?_
  refine own_thr (a := T224.setTop (mkF m 285 #[.val (.int p0), .val (.int p1), .val (.int p2), .val (.int p3), .val (.int p4), .val (.int p5), .val (.int n), .val (.int s0), .val (.int d1), .val (.int tt), .val (.int d2), .val (.int s1), .val (.int s2), .val (.int (3 : Int32)), .val (.int (0 : Int32)), .val (.int r), .val (.ref b194), .val (.ref b202), .val (.ref b214), .unset] [(.int (2 : Int32)), (.ref b194), (.ref b214)])) (fun t kt => ?_) ?_
  · show Steps p.tables e below (T224.setTop (mkF m 274 #[.val (.int p0), .val (.int p1), .val (.int p2), .val (.int p3), .val (.int p4), .val (.int p5), .val (.int n), .val (.int s0), .val (.int d1), .val (.int tt), .val (.int d2), .val (.int s1), .val (.int s2), .val (.int (3 : Int32)), .val (.int (0 : Int32)), .val (.int r), .val (.ref b194), .val (.ref b202), .val (.ref b214), .unset] [])) _
    refine XS.iload X224.here hx rfl (hb hby at_274) rfl ?_
    refine XS.iconst X224.here hx rfl (hb hby at_276) ?_
    refine XS.icmpNo X224.here hx rfl (hb hby at_277) rfl (tlt (by decide)).2.2.2 ?_
    refine XS.aload X224.here hx rfl (hb hby at_280) rfl rfl ?_
    refine XS.aload X224.here hx rfl (hb hby at_282) rfl rfl ?_
    refine XS.iconst X224.here hx rfl (hb hby at_284) ?_
    exact kt
  have c227 := (c223.keep K224 (ninS ne_b194_b214 (ninS ne_b194_B216 (ninS ne_b194_A216 nin0))))
  obtain ⟨cl226, Ar226, -, S226, M226, H226, -⟩ := id c227
  have hin226 : ¬ ((2 : Int32) < 0 ∨ cl226.slots.size ≤ ((2 : Int32)).toNatClampNeg) := inb_of S226 ⟨by decide, by decide⟩
  have hat226 : cl226.slots[((2 : Int32)).toNatClampNeg]? = some (.int s2) := Has.at H226 hin226 rfl
  refine own_thr (a := T224.setTop (mkF m 286 #[.val (.int p0), .val (.int p1), .val (.int p2), .val (.int p3), .val (.int p4), .val (.int p5), .val (.int n), .val (.int s0), .val (.int d1), .val (.int tt), .val (.int d2), .val (.int s1), .val (.int s2), .val (.int (3 : Int32)), .val (.int (0 : Int32)), .val (.int r), .val (.ref b194), .val (.ref b202), .val (.ref b214), .unset] [(.int s2), (.ref b214)])) (fun t kt => ?_) ?_
  · show Steps p.tables e below (T224.setTop (mkF m 285 #[.val (.int p0), .val (.int p1), .val (.int p2), .val (.int p3), .val (.int p4), .val (.int p5), .val (.int n), .val (.int s0), .val (.int d1), .val (.int tt), .val (.int d2), .val (.int s1), .val (.int s2), .val (.int (3 : Int32)), .val (.int (0 : Int32)), .val (.int r), .val (.ref b194), .val (.ref b202), .val (.ref b214), .unset] [(.int (2 : Int32)), (.ref b194), (.ref b214)])) _
    refine X224.iaload hx (j := (2 : Int32)) (v := (.int s2)) Ar226.1 (State.isArrayOf_alike hZ.alike Ar226.2.1) Ar226.2.2 hin226 hat226 (g := (mkF m 285 #[.val (.int p0), .val (.int p1), .val (.int p2), .val (.int p3), .val (.int p4), .val (.int p5), .val (.int n), .val (.int s0), .val (.int d1), .val (.int tt), .val (.int d2), .val (.int s1), .val (.int s2), .val (.int (3 : Int32)), .val (.int (0 : Int32)), .val (.int r), .val (.ref b194), .val (.ref b202), .val (.ref b214), .unset] [(.int (2 : Int32)), (.ref b194), (.ref b214)])) rfl rfl (hb hby at_285) _ ?_
    exact kt
  obtain ⟨cq228, kq228, q228a, q228b, q228c⟩ := isOf hZ rfl o224_0
  obtain ⟨_, _, ⟨T228, L228, k228, n228⟩, -, X228, ⟨Lc228, hQ228, l228, y228, z228⟩, st228⟩ := X224.virtualBack hx (y := (⟨"dev/chainlatch/bucket/Order", "append", "(I)V"⟩ : MethodName)) (z := (⟨"dev/chainlatch/bucket/Order", "append", "(I)V"⟩ : MethodName)) hown (mvT hZ (hw _ (List.mem_of_getElem? (i := 20) rfl))) (mvT hZ (hw _ (List.mem_of_getElem? (i := 21) rfl))) (notFace_of_selects (args := #[]) (mvT hZ (hw _ (List.mem_of_getElem? (i := 23) rfl)))) (mvT hZ (hw _ (List.mem_of_getElem? (i := 23) rfl))) (mvT hZ (hw _ (List.mem_of_getElem? (i := 22) rfl))) (by decide) (backOf (W := 0) (rmA2 l Z a0 hw [] b214 s2 B216 A216 n s0 s1 (own_up (own_up (fun _ => 0) s0 ((-1 : Int32) + (1 : Int32))) s1 (s0 + (1 : Int32))) (own_up (own_up (own_up (fun _ => 0) s0 (0 : Int32)) s1 (0 : Int32)) s0 (s1 + (1 : Int32))) T224.heap n0 Z225 o224_0 o224_1 o224_2 o224_3 o224_4 o224_5 o224_6 g_b214 g_B216 g_A216 ne_b214_B216 ne_b214_A216 ne_B216_A216 hs20 hs21 hs10 hs11) hZ (hw _ (List.mem_of_getElem? (i := 24) rfl)) (hw _ (List.mem_of_getElem? (i := 5) rfl)) (by decide) (by decide)) q228a q228c (g := (mkF m 286 #[.val (.int p0), .val (.int p1), .val (.int p2), .val (.int p3), .val (.int p4), .val (.int p5), .val (.int n), .val (.int s0), .val (.int d1), .val (.int tt), .val (.int d2), .val (.int s1), .val (.int s2), .val (.int (3 : Int32)), .val (.int (0 : Int32)), .val (.int r), .val (.ref b194), .val (.ref b202), .val (.ref b214), .unset] [(.int s2), (.ref b214)])) rfl (by rw [hml]; rfl) (Steps.refl _) (argsL := [(.int s2)]) (rest := []) (lenOf pd__28I_29V rfl) rfl (by show 2 * 0 + _ ≤ _; exact Nat.le_of_eq rfl) (hb hby at_286) (fun _ _ => ⟨rfl, rfl, (by decide : 5 + 0 ≤ _), (by decide : 30 + 0 ≤ _)⟩)
  dsimp only [Pt.U, Pt.locs, Pt.cells, Pt.slots] at X228 l228 y228 z228 st228 hQ228
  obtain ⟨rfl, N228q, K228, o228_0, o228_1, o228_2, o228_3, o228_4, o228_5, o228_6⟩ := hQ228
  have Z229 : n0 ≤ T228.heap.size := Nat.le_trans Z225 K228.1
  have Z229h : h0.size ≤ T228.heap.size := Nat.le_trans Z225h K228.1
  obtain ⟨lc228, X228, N228⟩ := own_pack X228 l228 y228 z228 N224 N228q (C := 5) (S' := 30) rfl rfl
  refine own_thr (a := T228.setTop (mkF m 289 #[.val (.int p0), .val (.int p1), .val (.int p2), .val (.int p3), .val (.int p4), .val (.int p5), .val (.int n), .val (.int s0), .val (.int d1), .val (.int tt), .val (.int d2), .val (.int s1), .val (.int s2), .val (.int (3 : Int32)), .val (.int (0 : Int32)), .val (.int r), .val (.ref b194), .val (.ref b202), .val (.ref b214), .unset] [])) (fun t kt => st228.trans kt) ?_
  refine own_thr (a := T228.setTop (mkF m 316 #[.val (.int p0), .val (.int p1), .val (.int p2), .val (.int p3), .val (.int p4), .val (.int p5), .val (.int n), .val (.int s0), .val (.int d1), .val (.int tt), .val (.int d2), .val (.int s1), .val (.int s2), .val (.int (3 : Int32)), .val (.int (0 : Int32)), .val (.int r), .val (.ref b194), .val (.ref b202), .val (.ref b214), .unset] [(.ref b214)])) (fun t kt => ?_) ?_
  · show Steps p.tables e below (T228.setTop (mkF m 289 #[.val (.int p0), .val (.int p1), .val (.int p2), .val (.int p3), .val (.int p4), .val (.int p5), .val (.int n), .val (.int s0), .val (.int d1), .val (.int tt), .val (.int d2), .val (.int s1), .val (.int s2), .val (.int (3 : Int32)), .val (.int (0 : Int32)), .val (.int r), .val (.ref b194), .val (.ref b202), .val (.ref b214), .unset] [])) _
    refine XS.iload X228.here hx rfl (hb hby at_289) rfl ?_
    refine XS.ifYes X228.here hx rfl (pc0 := 291) (pc' := 314) rfl (hb hby at_291) rfl ((if0 _ _).trans (teq rfl).1) (by decide) (by decide) ?_
    refine XS.aload X228.here hx rfl (hb hby at_314) rfl rfl ?_
    exact kt
  obtain ⟨cq230, kq230, q230a, q230b, q230c⟩ := isOf hZ rfl o228_0
  obtain ⟨_, _, ⟨T230, L230, k230, n230⟩, -, X230, ⟨Lc230, hQ230, l230, y230, z230⟩, st230⟩ := X228.virtualBack hx (y := (⟨"dev/chainlatch/bucket/Order", "first", "()I"⟩ : MethodName)) (z := (⟨"dev/chainlatch/bucket/Order", "first", "()I"⟩ : MethodName)) hown (mvT hZ (hw _ (List.mem_of_getElem? (i := 34) rfl))) (mvT hZ (hw _ (List.mem_of_getElem? (i := 35) rfl))) (notFace_of_selects (args := #[]) (mvT hZ (hw _ (List.mem_of_getElem? (i := 37) rfl)))) (mvT hZ (hw _ (List.mem_of_getElem? (i := 37) rfl))) (mvT hZ (hw _ (List.mem_of_getElem? (i := 36) rfl))) (by decide) (backOf (W := 0) (rmF l Z a0 hw [] b214 s0 T228.heap n0 Z229 o228_1) hZ (hw _ (List.mem_of_getElem? (i := 38) rfl)) (hw _ (List.mem_of_getElem? (i := 5) rfl)) (by decide) (by decide)) q230a q230c (g := (mkF m 316 #[.val (.int p0), .val (.int p1), .val (.int p2), .val (.int p3), .val (.int p4), .val (.int p5), .val (.int n), .val (.int s0), .val (.int d1), .val (.int tt), .val (.int d2), .val (.int s1), .val (.int s2), .val (.int (3 : Int32)), .val (.int (0 : Int32)), .val (.int r), .val (.ref b194), .val (.ref b202), .val (.ref b214), .unset] [(.ref b214)])) rfl (by rw [hml]; rfl) (Steps.refl _) (argsL := []) (rest := []) (lenOf pd__28_29I rfl) rfl (by show 2 * 0 + _ ≤ _; exact Nat.le_of_eq rfl) (hb hby at_316) (fun _ _ => ⟨rfl, rfl, (by decide : 5 + 0 ≤ _), (by decide : 30 + 0 ≤ _)⟩)
  dsimp only [Pt.U, Pt.locs, Pt.cells, Pt.slots] at X230 l230 y230 z230 st230 hQ230
  obtain ⟨rfl, N230q, e230⟩ := hQ230
  obtain ⟨lc230, X230, N230⟩ := own_pack X230 l230 y230 z230 N228 N230q (C := 5) (S' := 30) rfl rfl
  refine own_thr (a := T230.setTop (mkF m 319 #[.val (.int p0), .val (.int p1), .val (.int p2), .val (.int p3), .val (.int p4), .val (.int p5), .val (.int n), .val (.int s0), .val (.int d1), .val (.int tt), .val (.int d2), .val (.int s1), .val (.int s2), .val (.int (3 : Int32)), .val (.int (0 : Int32)), .val (.int r), .val (.ref b194), .val (.ref b202), .val (.ref b214), .unset] [(.int s0)])) (fun t kt => st230.trans kt) ?_
  refine own_thr (a := T230.setTop (mkF m 322 #[.val (.int p0), .val (.int p1), .val (.int p2), .val (.int p3), .val (.int p4), .val (.int p5), .val (.int n), .val (.int s0), .val (.int d1), .val (.int tt), .val (.int d2), .val (.int s1), .val (.int s2), .val (.int (3 : Int32)), .val (.int (0 : Int32)), .val (.int r), .val (.ref b194), .val (.ref b202), .val (.ref b214), .unset] [(.int (0 : Int32)), (.ref b202), (.int s0)])) (fun t kt => ?_) ?_
  · show Steps p.tables e below (T230.setTop (mkF m 319 #[.val (.int p0), .val (.int p1), .val (.int p2), .val (.int p3), .val (.int p4), .val (.int p5), .val (.int n), .val (.int s0), .val (.int d1), .val (.int tt), .val (.int d2), .val (.int s1), .val (.int s2), .val (.int (3 : Int32)), .val (.int (0 : Int32)), .val (.int r), .val (.ref b194), .val (.ref b202), .val (.ref b214), .unset] [(.int s0)])) _
    refine XS.aload X230.here hx rfl (hb hby at_319) rfl rfl ?_
    refine XS.iconst X230.here hx rfl (hb hby at_321) ?_
    exact kt
  have c232 := (((((V212.ext E214).keep K216 (ninS ne_b202_b214 nin0)).keep K220 (ninS ne_b202_b214 (ninS ne_b202_B216 (ninS ne_b202_A216 nin0)))).keep K224 (ninS ne_b202_b214 (ninS ne_b202_B216 (ninS ne_b202_A216 nin0)))).keep K228 (ninS ne_b202_b214 (ninS ne_b202_B216 (ninS ne_b202_A216 nin0))))
  obtain ⟨cl231, Ar231, -, S231, M231, H231, -⟩ := id c232
  have hin231 : ¬ ((0 : Int32) < 0 ∨ cl231.slots.size ≤ ((0 : Int32)).toNatClampNeg) := inb_of S231 ⟨by decide, by decide⟩
  have hat231 : cl231.slots[((0 : Int32)).toNatClampNeg]? = some (.int s0) := Has.at H231 hin231 rfl
  refine own_thr (a := T230.setTop (mkF m 343 #[.val (.int p0), .val (.int p1), .val (.int p2), .val (.int p3), .val (.int p4), .val (.int p5), .val (.int n), .val (.int s0), .val (.int d1), .val (.int tt), .val (.int d2), .val (.int s1), .val (.int s2), .val (.int (3 : Int32)), .val (.int (0 : Int32)), .val (.int r), .val (.ref b194), .val (.ref b202), .val (.ref b214), .val (.int (1 : Int32))] [(.int (0 : Int32)), (.ref b202), (.ref b214)])) (fun t kt => ?_) ?_
  · show Steps p.tables e below (T230.setTop (mkF m 322 #[.val (.int p0), .val (.int p1), .val (.int p2), .val (.int p3), .val (.int p4), .val (.int p5), .val (.int n), .val (.int s0), .val (.int d1), .val (.int tt), .val (.int d2), .val (.int s1), .val (.int s2), .val (.int (3 : Int32)), .val (.int (0 : Int32)), .val (.int r), .val (.ref b194), .val (.ref b202), .val (.ref b214), .unset] [(.int (0 : Int32)), (.ref b202), (.int s0)])) _
    refine X230.iaload hx (j := (0 : Int32)) (v := (.int s0)) (by rw [e230]; exact Ar231.1) (State.isArrayOf_alike hZ.alike Ar231.2.1) Ar231.2.2 hin231 hat231 (g := (mkF m 322 #[.val (.int p0), .val (.int p1), .val (.int p2), .val (.int p3), .val (.int p4), .val (.int p5), .val (.int n), .val (.int s0), .val (.int d1), .val (.int tt), .val (.int d2), .val (.int s1), .val (.int s2), .val (.int (3 : Int32)), .val (.int (0 : Int32)), .val (.int r), .val (.ref b194), .val (.ref b202), .val (.ref b214), .unset] [(.int (0 : Int32)), (.ref b202), (.int s0)])) rfl rfl (hb hby at_322) _ ?_
    refine XS.icmpNo X230.here hx rfl (hb hby at_323) rfl (teq (by simp [own_up, own_as, n01, n10, n02, n20, n12, n21])).2 ?_
    refine XS.iconst X230.here hx rfl (hb hby at_326) ?_
    refine XS.goto X230.here hx rfl (pc0 := 327) (pc' := 331) rfl (hb hby at_327) (by decide) (by decide) ?_
    refine XS.istore X230.here hx rfl (hb hby at_331) rfl (l' := #[.val (.int p0), .val (.int p1), .val (.int p2), .val (.int p3), .val (.int p4), .val (.int p5), .val (.int n), .val (.int s0), .val (.int d1), .val (.int tt), .val (.int d2), .val (.int s1), .val (.int s2), .val (.int (3 : Int32)), .val (.int (0 : Int32)), .val (.int r), .val (.ref b194), .val (.ref b202), .val (.ref b214), .val (.int (1 : Int32))]) rfl ?_
    refine XS.iload X230.here hx rfl (hb hby at_333) rfl ?_
    refine XS.ifNo X230.here hx rfl (hb hby at_335) rfl ((if0 _ _).trans (feq (by decide)).1) ?_
    refine XS.aload X230.here hx rfl (hb hby at_338) rfl rfl ?_
    refine XS.aload X230.here hx rfl (hb hby at_340) rfl rfl ?_
    refine XS.iconst X230.here hx rfl (hb hby at_342) ?_
    exact kt
  obtain ⟨cl233, Ar233, -, S233, M233, H233, -⟩ := id c232
  have hin233 : ¬ ((0 : Int32) < 0 ∨ cl233.slots.size ≤ ((0 : Int32)).toNatClampNeg) := inb_of S233 ⟨by decide, by decide⟩
  have hat233 : cl233.slots[((0 : Int32)).toNatClampNeg]? = some (.int s0) := Has.at H233 hin233 rfl
  refine own_thr (a := T230.setTop (mkF m 344 #[.val (.int p0), .val (.int p1), .val (.int p2), .val (.int p3), .val (.int p4), .val (.int p5), .val (.int n), .val (.int s0), .val (.int d1), .val (.int tt), .val (.int d2), .val (.int s1), .val (.int s2), .val (.int (3 : Int32)), .val (.int (0 : Int32)), .val (.int r), .val (.ref b194), .val (.ref b202), .val (.ref b214), .val (.int (1 : Int32))] [(.int s0), (.ref b214)])) (fun t kt => ?_) ?_
  · show Steps p.tables e below (T230.setTop (mkF m 343 #[.val (.int p0), .val (.int p1), .val (.int p2), .val (.int p3), .val (.int p4), .val (.int p5), .val (.int n), .val (.int s0), .val (.int d1), .val (.int tt), .val (.int d2), .val (.int s1), .val (.int s2), .val (.int (3 : Int32)), .val (.int (0 : Int32)), .val (.int r), .val (.ref b194), .val (.ref b202), .val (.ref b214), .val (.int (1 : Int32))] [(.int (0 : Int32)), (.ref b202), (.ref b214)])) _
    refine X230.iaload hx (j := (0 : Int32)) (v := (.int s0)) (by rw [e230]; exact Ar233.1) (State.isArrayOf_alike hZ.alike Ar233.2.1) Ar233.2.2 hin233 hat233 (g := (mkF m 343 #[.val (.int p0), .val (.int p1), .val (.int p2), .val (.int p3), .val (.int p4), .val (.int p5), .val (.int n), .val (.int s0), .val (.int d1), .val (.int tt), .val (.int d2), .val (.int s1), .val (.int s2), .val (.int (3 : Int32)), .val (.int (0 : Int32)), .val (.int r), .val (.ref b194), .val (.ref b202), .val (.ref b214), .val (.int (1 : Int32))] [(.int (0 : Int32)), (.ref b202), (.ref b214)])) rfl rfl (hb hby at_343) _ ?_
    exact kt
  obtain ⟨cq234, kq234, q234a, q234b, q234c⟩ := isOf hZ e230 o228_0
  obtain ⟨_, _, ⟨T234, L234, k234, n234⟩, -, X234, ⟨Lc234, hQ234, l234, y234, z234⟩, st234⟩ := X230.virtualBack hx (y := (⟨"dev/chainlatch/bucket/Order", "after", "(I)I"⟩ : MethodName)) (z := (⟨"dev/chainlatch/bucket/Order", "after", "(I)I"⟩ : MethodName)) hown (mvT hZ (hw _ (List.mem_of_getElem? (i := 39) rfl))) (mvT hZ (hw _ (List.mem_of_getElem? (i := 40) rfl))) (notFace_of_selects (args := #[]) (mvT hZ (hw _ (List.mem_of_getElem? (i := 42) rfl)))) (mvT hZ (hw _ (List.mem_of_getElem? (i := 42) rfl))) (mvT hZ (hw _ (List.mem_of_getElem? (i := 41) rfl))) (by decide) (backOf (W := 0) (rmN l Z a0 hw [] b214 s0 A216 n (own_up (own_up (own_up (own_up (own_up (fun _ => 0) s0 (0 : Int32)) s1 (0 : Int32)) s0 (s1 + (1 : Int32))) s2 (0 : Int32)) s1 (s2 + (1 : Int32))) T228.heap n0 Z229 o228_4 o228_6 hs00 hs01) hZ (hw _ (List.mem_of_getElem? (i := 43) rfl)) (hw _ (List.mem_of_getElem? (i := 5) rfl)) (by decide) (by decide)) q234a q234c (g := (mkF m 344 #[.val (.int p0), .val (.int p1), .val (.int p2), .val (.int p3), .val (.int p4), .val (.int p5), .val (.int n), .val (.int s0), .val (.int d1), .val (.int tt), .val (.int d2), .val (.int s1), .val (.int s2), .val (.int (3 : Int32)), .val (.int (0 : Int32)), .val (.int r), .val (.ref b194), .val (.ref b202), .val (.ref b214), .val (.int (1 : Int32))] [(.int s0), (.ref b214)])) rfl (by rw [hml]; rfl) (Steps.refl _) (argsL := [(.int s0)]) (rest := []) (lenOf pd__28I_29I rfl) rfl (by show 2 * 0 + _ ≤ _; exact Nat.le_of_eq rfl) (hb hby at_344) (fun _ _ => ⟨rfl, e230, (by decide : 5 + 0 ≤ _), (by decide : 30 + 0 ≤ _)⟩)
  dsimp only [Pt.U, Pt.locs, Pt.cells, Pt.slots] at X234 l234 y234 z234 st234 hQ234
  obtain ⟨rfl, N234q, e234⟩ := hQ234
  obtain ⟨lc234, X234, N234⟩ := own_pack X234 l234 y234 z234 N230 N234q (C := 5) (S' := 30) rfl rfl
  refine own_thr (a := T234.setTop (mkF m 347 #[.val (.int p0), .val (.int p1), .val (.int p2), .val (.int p3), .val (.int p4), .val (.int p5), .val (.int n), .val (.int s0), .val (.int d1), .val (.int tt), .val (.int d2), .val (.int s1), .val (.int s2), .val (.int (3 : Int32)), .val (.int (0 : Int32)), .val (.int r), .val (.ref b194), .val (.ref b202), .val (.ref b214), .val (.int (1 : Int32))] [(.int (((own_up (own_up (own_up (own_up (own_up (fun _ => 0) s0 (0 : Int32)) s1 (0 : Int32)) s0 (s1 + (1 : Int32))) s2 (0 : Int32)) s1 (s2 + (1 : Int32))) s0) - (1 : Int32)))])) (fun t kt => st234.trans kt) ?_
  refine own_thr (a := T234.setTop (mkF m 356 #[.val (.int p0), .val (.int p1), .val (.int p2), .val (.int p3), .val (.int p4), .val (.int p5), .val (.int n), .val (.int s0), .val (.int d1), .val (.int tt), .val (.int d2), .val (.int s1), .val (.int s2), .val (.int (3 : Int32)), .val (.int (0 : Int32)), .val (.int r), .val (.ref b194), .val (.ref b202), .val (.ref b214), .val (.int (1 : Int32))] [(.int (1 : Int32)), (.ref b202), (.int (((own_up (own_up (own_up (own_up (own_up (fun _ => 0) s0 (0 : Int32)) s1 (0 : Int32)) s0 (s1 + (1 : Int32))) s2 (0 : Int32)) s1 (s2 + (1 : Int32))) s0) - (1 : Int32)))])) (fun t kt => ?_) ?_
  · show Steps p.tables e below (T234.setTop (mkF m 347 #[.val (.int p0), .val (.int p1), .val (.int p2), .val (.int p3), .val (.int p4), .val (.int p5), .val (.int n), .val (.int s0), .val (.int d1), .val (.int tt), .val (.int d2), .val (.int s1), .val (.int s2), .val (.int (3 : Int32)), .val (.int (0 : Int32)), .val (.int r), .val (.ref b194), .val (.ref b202), .val (.ref b214), .val (.int (1 : Int32))] [(.int (((own_up (own_up (own_up (own_up (own_up (fun _ => 0) s0 (0 : Int32)) s1 (0 : Int32)) s0 (s1 + (1 : Int32))) s2 (0 : Int32)) s1 (s2 + (1 : Int32))) s0) - (1 : Int32)))])) _
    refine XS.iload X234.here hx rfl (hb hby at_347) rfl ?_
    refine XS.iconst X234.here hx rfl (hb hby at_349) ?_
    refine XS.icmpNo X234.here hx rfl (hb hby at_350) rfl (tlt (by decide)).2.2.2 ?_
    refine XS.aload X234.here hx rfl (hb hby at_353) rfl rfl ?_
    refine XS.iconst X234.here hx rfl (hb hby at_355) ?_
    exact kt
  obtain ⟨cl235, Ar235, -, S235, M235, H235, -⟩ := id c232
  have hin235 : ¬ ((1 : Int32) < 0 ∨ cl235.slots.size ≤ ((1 : Int32)).toNatClampNeg) := inb_of S235 ⟨by decide, by decide⟩
  have hat235 : cl235.slots[((1 : Int32)).toNatClampNeg]? = some (.int s1) := Has.at H235 hin235 rfl
  refine own_thr (a := T234.setTop (mkF m 387 #[.val (.int p0), .val (.int p1), .val (.int p2), .val (.int p3), .val (.int p4), .val (.int p5), .val (.int n), .val (.int s0), .val (.int d1), .val (.int tt), .val (.int d2), .val (.int s1), .val (.int s2), .val (.int (3 : Int32)), .val (.int (0 : Int32)), .val (.int r), .val (.ref b194), .val (.ref b202), .val (.ref b214), .val (.int (1 : Int32))] [(.int (1 : Int32)), (.ref b202), (.ref b214)])) (fun t kt => ?_) ?_
  · show Steps p.tables e below (T234.setTop (mkF m 356 #[.val (.int p0), .val (.int p1), .val (.int p2), .val (.int p3), .val (.int p4), .val (.int p5), .val (.int n), .val (.int s0), .val (.int d1), .val (.int tt), .val (.int d2), .val (.int s1), .val (.int s2), .val (.int (3 : Int32)), .val (.int (0 : Int32)), .val (.int r), .val (.ref b194), .val (.ref b202), .val (.ref b214), .val (.int (1 : Int32))] [(.int (1 : Int32)), (.ref b202), (.int (((own_up (own_up (own_up (own_up (own_up (fun _ => 0) s0 (0 : Int32)) s1 (0 : Int32)) s0 (s1 + (1 : Int32))) s2 (0 : Int32)) s1 (s2 + (1 : Int32))) s0) - (1 : Int32)))])) _
    refine X234.iaload hx (j := (1 : Int32)) (v := (.int s1)) (by rw [e234]; exact Ar235.1) (State.isArrayOf_alike hZ.alike Ar235.2.1) Ar235.2.2 hin235 hat235 (g := (mkF m 356 #[.val (.int p0), .val (.int p1), .val (.int p2), .val (.int p3), .val (.int p4), .val (.int p5), .val (.int n), .val (.int s0), .val (.int d1), .val (.int tt), .val (.int d2), .val (.int s1), .val (.int s2), .val (.int (3 : Int32)), .val (.int (0 : Int32)), .val (.int r), .val (.ref b194), .val (.ref b202), .val (.ref b214), .val (.int (1 : Int32))] [(.int (1 : Int32)), (.ref b202), (.int (((own_up (own_up (own_up (own_up (own_up (fun _ => 0) s0 (0 : Int32)) s1 (0 : Int32)) s0 (s1 + (1 : Int32))) s2 (0 : Int32)) s1 (s2 + (1 : Int32))) s0) - (1 : Int32)))])) rfl rfl (hb hby at_356) _ ?_
    refine XS.goto X234.here hx rfl (pc0 := 357) (pc' := 361) rfl (hb hby at_357) (by decide) (by decide) ?_
    refine XS.icmpNo X234.here hx rfl (hb hby at_361) rfl (teq (by simp [own_up, own_as, n01, n10, n02, n20, n12, n21])).2 ?_
    refine XS.iconst X234.here hx rfl (hb hby at_364) ?_
    refine XS.goto X234.here hx rfl (pc0 := 365) (pc' := 369) rfl (hb hby at_365) (by decide) (by decide) ?_
    refine XS.istore X234.here hx rfl (hb hby at_369) rfl (l' := #[.val (.int p0), .val (.int p1), .val (.int p2), .val (.int p3), .val (.int p4), .val (.int p5), .val (.int n), .val (.int s0), .val (.int d1), .val (.int tt), .val (.int d2), .val (.int s1), .val (.int s2), .val (.int (3 : Int32)), .val (.int (0 : Int32)), .val (.int r), .val (.ref b194), .val (.ref b202), .val (.ref b214), .val (.int (1 : Int32))]) rfl ?_
    refine XS.iload X234.here hx rfl (hb hby at_371) rfl ?_
    refine XS.iconst X234.here hx rfl (hb hby at_373) ?_
    refine XS.icmpNo X234.here hx rfl (hb hby at_374) rfl (tlt (by decide)).2.2.2 ?_
    refine XS.iload X234.here hx rfl (hb hby at_377) rfl ?_
    refine XS.ifNo X234.here hx rfl (hb hby at_379) rfl ((if0 _ _).trans (feq (by decide)).1) ?_
    refine XS.aload X234.here hx rfl (hb hby at_382) rfl rfl ?_
    refine XS.aload X234.here hx rfl (hb hby at_384) rfl rfl ?_
    refine XS.iconst X234.here hx rfl (hb hby at_386) ?_
    exact kt
  obtain ⟨cl236, Ar236, -, S236, M236, H236, -⟩ := id c232
  have hin236 : ¬ ((1 : Int32) < 0 ∨ cl236.slots.size ≤ ((1 : Int32)).toNatClampNeg) := inb_of S236 ⟨by decide, by decide⟩
  have hat236 : cl236.slots[((1 : Int32)).toNatClampNeg]? = some (.int s1) := Has.at H236 hin236 rfl
  refine own_thr (a := T234.setTop (mkF m 388 #[.val (.int p0), .val (.int p1), .val (.int p2), .val (.int p3), .val (.int p4), .val (.int p5), .val (.int n), .val (.int s0), .val (.int d1), .val (.int tt), .val (.int d2), .val (.int s1), .val (.int s2), .val (.int (3 : Int32)), .val (.int (0 : Int32)), .val (.int r), .val (.ref b194), .val (.ref b202), .val (.ref b214), .val (.int (1 : Int32))] [(.int s1), (.ref b214)])) (fun t kt => ?_) ?_
  · show Steps p.tables e below (T234.setTop (mkF m 387 #[.val (.int p0), .val (.int p1), .val (.int p2), .val (.int p3), .val (.int p4), .val (.int p5), .val (.int n), .val (.int s0), .val (.int d1), .val (.int tt), .val (.int d2), .val (.int s1), .val (.int s2), .val (.int (3 : Int32)), .val (.int (0 : Int32)), .val (.int r), .val (.ref b194), .val (.ref b202), .val (.ref b214), .val (.int (1 : Int32))] [(.int (1 : Int32)), (.ref b202), (.ref b214)])) _
    refine X234.iaload hx (j := (1 : Int32)) (v := (.int s1)) (by rw [e234]; exact Ar236.1) (State.isArrayOf_alike hZ.alike Ar236.2.1) Ar236.2.2 hin236 hat236 (g := (mkF m 387 #[.val (.int p0), .val (.int p1), .val (.int p2), .val (.int p3), .val (.int p4), .val (.int p5), .val (.int n), .val (.int s0), .val (.int d1), .val (.int tt), .val (.int d2), .val (.int s1), .val (.int s2), .val (.int (3 : Int32)), .val (.int (0 : Int32)), .val (.int r), .val (.ref b194), .val (.ref b202), .val (.ref b214), .val (.int (1 : Int32))] [(.int (1 : Int32)), (.ref b202), (.ref b214)])) rfl rfl (hb hby at_387) _ ?_
    exact kt
  obtain ⟨cq237, kq237, q237a, q237b, q237c⟩ := isOf hZ e234 o228_0
  obtain ⟨_, _, ⟨T237, L237, k237, n237⟩, -, X237, ⟨Lc237, hQ237, l237, y237, z237⟩, st237⟩ := X234.virtualBack hx (y := (⟨"dev/chainlatch/bucket/Order", "after", "(I)I"⟩ : MethodName)) (z := (⟨"dev/chainlatch/bucket/Order", "after", "(I)I"⟩ : MethodName)) hown (mvT hZ (hw _ (List.mem_of_getElem? (i := 39) rfl))) (mvT hZ (hw _ (List.mem_of_getElem? (i := 40) rfl))) (notFace_of_selects (args := #[]) (mvT hZ (hw _ (List.mem_of_getElem? (i := 42) rfl)))) (mvT hZ (hw _ (List.mem_of_getElem? (i := 42) rfl))) (mvT hZ (hw _ (List.mem_of_getElem? (i := 41) rfl))) (by decide) (backOf (W := 0) (rmN l Z a0 hw [] b214 s1 A216 n (own_up (own_up (own_up (own_up (own_up (fun _ => 0) s0 (0 : Int32)) s1 (0 : Int32)) s0 (s1 + (1 : Int32))) s2 (0 : Int32)) s1 (s2 + (1 : Int32))) T228.heap n0 Z229 o228_4 o228_6 hs10 hs11) hZ (hw _ (List.mem_of_getElem? (i := 43) rfl)) (hw _ (List.mem_of_getElem? (i := 5) rfl)) (by decide) (by decide)) q237a q237c (g := (mkF m 388 #[.val (.int p0), .val (.int p1), .val (.int p2), .val (.int p3), .val (.int p4), .val (.int p5), .val (.int n), .val (.int s0), .val (.int d1), .val (.int tt), .val (.int d2), .val (.int s1), .val (.int s2), .val (.int (3 : Int32)), .val (.int (0 : Int32)), .val (.int r), .val (.ref b194), .val (.ref b202), .val (.ref b214), .val (.int (1 : Int32))] [(.int s1), (.ref b214)])) rfl (by rw [hml]; rfl) (Steps.refl _) (argsL := [(.int s1)]) (rest := []) (lenOf pd__28I_29I rfl) rfl (by show 2 * 0 + _ ≤ _; exact Nat.le_of_eq rfl) (hb hby at_388) (fun _ _ => ⟨rfl, e234, (by decide : 5 + 0 ≤ _), (by decide : 30 + 0 ≤ _)⟩)
  dsimp only [Pt.U, Pt.locs, Pt.cells, Pt.slots] at X237 l237 y237 z237 st237 hQ237
  obtain ⟨rfl, N237q, e237⟩ := hQ237
  obtain ⟨lc237, X237, N237⟩ := own_pack X237 l237 y237 z237 N234 N237q (C := 5) (S' := 30) rfl rfl
  refine own_thr (a := T237.setTop (mkF m 391 #[.val (.int p0), .val (.int p1), .val (.int p2), .val (.int p3), .val (.int p4), .val (.int p5), .val (.int n), .val (.int s0), .val (.int d1), .val (.int tt), .val (.int d2), .val (.int s1), .val (.int s2), .val (.int (3 : Int32)), .val (.int (0 : Int32)), .val (.int r), .val (.ref b194), .val (.ref b202), .val (.ref b214), .val (.int (1 : Int32))] [(.int (((own_up (own_up (own_up (own_up (own_up (fun _ => 0) s0 (0 : Int32)) s1 (0 : Int32)) s0 (s1 + (1 : Int32))) s2 (0 : Int32)) s1 (s2 + (1 : Int32))) s1) - (1 : Int32)))])) (fun t kt => st237.trans kt) ?_
  refine own_thr (a := T237.setTop (mkF m 400 #[.val (.int p0), .val (.int p1), .val (.int p2), .val (.int p3), .val (.int p4), .val (.int p5), .val (.int n), .val (.int s0), .val (.int d1), .val (.int tt), .val (.int d2), .val (.int s1), .val (.int s2), .val (.int (3 : Int32)), .val (.int (0 : Int32)), .val (.int r), .val (.ref b194), .val (.ref b202), .val (.ref b214), .val (.int (1 : Int32))] [(.int (2 : Int32)), (.ref b202), (.int (((own_up (own_up (own_up (own_up (own_up (fun _ => 0) s0 (0 : Int32)) s1 (0 : Int32)) s0 (s1 + (1 : Int32))) s2 (0 : Int32)) s1 (s2 + (1 : Int32))) s1) - (1 : Int32)))])) (fun t kt => ?_) ?_
  · show Steps p.tables e below (T237.setTop (mkF m 391 #[.val (.int p0), .val (.int p1), .val (.int p2), .val (.int p3), .val (.int p4), .val (.int p5), .val (.int n), .val (.int s0), .val (.int d1), .val (.int tt), .val (.int d2), .val (.int s1), .val (.int s2), .val (.int (3 : Int32)), .val (.int (0 : Int32)), .val (.int r), .val (.ref b194), .val (.ref b202), .val (.ref b214), .val (.int (1 : Int32))] [(.int (((own_up (own_up (own_up (own_up (own_up (fun _ => 0) s0 (0 : Int32)) s1 (0 : Int32)) s0 (s1 + (1 : Int32))) s2 (0 : Int32)) s1 (s2 + (1 : Int32))) s1) - (1 : Int32)))])) _
    refine XS.iload X237.here hx rfl (hb hby at_391) rfl ?_
    refine XS.iconst X237.here hx rfl (hb hby at_393) ?_
    refine XS.icmpNo X237.here hx rfl (hb hby at_394) rfl (tlt (by decide)).2.2.2 ?_
    refine XS.aload X237.here hx rfl (hb hby at_397) rfl rfl ?_
    refine XS.iconst X237.here hx rfl (hb hby at_399) ?_
    exact kt
  obtain ⟨cl238, Ar238, -, S238, M238, H238, -⟩ := id c232
  have hin238 : ¬ ((2 : Int32) < 0 ∨ cl238.slots.size ≤ ((2 : Int32)).toNatClampNeg) := inb_of S238 ⟨by decide, by decide⟩
  have hat238 : cl238.slots[((2 : Int32)).toNatClampNeg]? = some (.int s2) := Has.at H238 hin238 rfl
  refine own_thr (a := T237.setTop (mkF m 431 #[.val (.int p0), .val (.int p1), .val (.int p2), .val (.int p3), .val (.int p4), .val (.int p5), .val (.int n), .val (.int s0), .val (.int d1), .val (.int tt), .val (.int d2), .val (.int s1), .val (.int s2), .val (.int (3 : Int32)), .val (.int (0 : Int32)), .val (.int r), .val (.ref b194), .val (.ref b202), .val (.ref b214), .val (.int (1 : Int32))] [(.int (2 : Int32)), (.ref b202), (.ref b214)])) (fun t kt => ?_) ?_
  · show Steps p.tables e below (T237.setTop (mkF m 400 #[.val (.int p0), .val (.int p1), .val (.int p2), .val (.int p3), .val (.int p4), .val (.int p5), .val (.int n), .val (.int s0), .val (.int d1), .val (.int tt), .val (.int d2), .val (.int s1), .val (.int s2), .val (.int (3 : Int32)), .val (.int (0 : Int32)), .val (.int r), .val (.ref b194), .val (.ref b202), .val (.ref b214), .val (.int (1 : Int32))] [(.int (2 : Int32)), (.ref b202), (.int (((own_up (own_up (own_up (own_up (own_up (fun _ => 0) s0 (0 : Int32)) s1 (0 : Int32)) s0 (s1 + (1 : Int32))) s2 (0 : Int32)) s1 (s2 + (1 : Int32))) s1) - (1 : Int32)))])) _
    refine X237.iaload hx (j := (2 : Int32)) (v := (.int s2)) (by rw [e237]; exact Ar238.1) (State.isArrayOf_alike hZ.alike Ar238.2.1) Ar238.2.2 hin238 hat238 (g := (mkF m 400 #[.val (.int p0), .val (.int p1), .val (.int p2), .val (.int p3), .val (.int p4), .val (.int p5), .val (.int n), .val (.int s0), .val (.int d1), .val (.int tt), .val (.int d2), .val (.int s1), .val (.int s2), .val (.int (3 : Int32)), .val (.int (0 : Int32)), .val (.int r), .val (.ref b194), .val (.ref b202), .val (.ref b214), .val (.int (1 : Int32))] [(.int (2 : Int32)), (.ref b202), (.int (((own_up (own_up (own_up (own_up (own_up (fun _ => 0) s0 (0 : Int32)) s1 (0 : Int32)) s0 (s1 + (1 : Int32))) s2 (0 : Int32)) s1 (s2 + (1 : Int32))) s1) - (1 : Int32)))])) rfl rfl (hb hby at_400) _ ?_
    refine XS.goto X237.here hx rfl (pc0 := 401) (pc' := 405) rfl (hb hby at_401) (by decide) (by decide) ?_
    refine XS.icmpNo X237.here hx rfl (hb hby at_405) rfl (teq (by simp [own_up, own_as, n01, n10, n02, n20, n12, n21])).2 ?_
    refine XS.iconst X237.here hx rfl (hb hby at_408) ?_
    refine XS.goto X237.here hx rfl (pc0 := 409) (pc' := 413) rfl (hb hby at_409) (by decide) (by decide) ?_
    refine XS.istore X237.here hx rfl (hb hby at_413) rfl (l' := #[.val (.int p0), .val (.int p1), .val (.int p2), .val (.int p3), .val (.int p4), .val (.int p5), .val (.int n), .val (.int s0), .val (.int d1), .val (.int tt), .val (.int d2), .val (.int s1), .val (.int s2), .val (.int (3 : Int32)), .val (.int (0 : Int32)), .val (.int r), .val (.ref b194), .val (.ref b202), .val (.ref b214), .val (.int (1 : Int32))]) rfl ?_
    refine XS.iload X237.here hx rfl (hb hby at_415) rfl ?_
    refine XS.iconst X237.here hx rfl (hb hby at_417) ?_
    refine XS.icmpNo X237.here hx rfl (hb hby at_418) rfl (tlt (by decide)).2.2.2 ?_
    refine XS.iload X237.here hx rfl (hb hby at_421) rfl ?_
    refine XS.ifNo X237.here hx rfl (hb hby at_423) rfl ((if0 _ _).trans (feq (by decide)).1) ?_
    refine XS.aload X237.here hx rfl (hb hby at_426) rfl rfl ?_
    refine XS.aload X237.here hx rfl (hb hby at_428) rfl rfl ?_
    refine XS.iconst X237.here hx rfl (hb hby at_430) ?_
    exact kt
  obtain ⟨cl239, Ar239, -, S239, M239, H239, -⟩ := id c232
  have hin239 : ¬ ((2 : Int32) < 0 ∨ cl239.slots.size ≤ ((2 : Int32)).toNatClampNeg) := inb_of S239 ⟨by decide, by decide⟩
  have hat239 : cl239.slots[((2 : Int32)).toNatClampNeg]? = some (.int s2) := Has.at H239 hin239 rfl
  refine own_thr (a := T237.setTop (mkF m 432 #[.val (.int p0), .val (.int p1), .val (.int p2), .val (.int p3), .val (.int p4), .val (.int p5), .val (.int n), .val (.int s0), .val (.int d1), .val (.int tt), .val (.int d2), .val (.int s1), .val (.int s2), .val (.int (3 : Int32)), .val (.int (0 : Int32)), .val (.int r), .val (.ref b194), .val (.ref b202), .val (.ref b214), .val (.int (1 : Int32))] [(.int s2), (.ref b214)])) (fun t kt => ?_) ?_
  · show Steps p.tables e below (T237.setTop (mkF m 431 #[.val (.int p0), .val (.int p1), .val (.int p2), .val (.int p3), .val (.int p4), .val (.int p5), .val (.int n), .val (.int s0), .val (.int d1), .val (.int tt), .val (.int d2), .val (.int s1), .val (.int s2), .val (.int (3 : Int32)), .val (.int (0 : Int32)), .val (.int r), .val (.ref b194), .val (.ref b202), .val (.ref b214), .val (.int (1 : Int32))] [(.int (2 : Int32)), (.ref b202), (.ref b214)])) _
    refine X237.iaload hx (j := (2 : Int32)) (v := (.int s2)) (by rw [e237]; exact Ar239.1) (State.isArrayOf_alike hZ.alike Ar239.2.1) Ar239.2.2 hin239 hat239 (g := (mkF m 431 #[.val (.int p0), .val (.int p1), .val (.int p2), .val (.int p3), .val (.int p4), .val (.int p5), .val (.int n), .val (.int s0), .val (.int d1), .val (.int tt), .val (.int d2), .val (.int s1), .val (.int s2), .val (.int (3 : Int32)), .val (.int (0 : Int32)), .val (.int r), .val (.ref b194), .val (.ref b202), .val (.ref b214), .val (.int (1 : Int32))] [(.int (2 : Int32)), (.ref b202), (.ref b214)])) rfl rfl (hb hby at_431) _ ?_
    exact kt
  obtain ⟨cq240, kq240, q240a, q240b, q240c⟩ := isOf hZ e237 o228_0
  obtain ⟨_, _, ⟨T240, L240, k240, n240⟩, -, X240, ⟨Lc240, hQ240, l240, y240, z240⟩, st240⟩ := X237.virtualBack hx (y := (⟨"dev/chainlatch/bucket/Order", "after", "(I)I"⟩ : MethodName)) (z := (⟨"dev/chainlatch/bucket/Order", "after", "(I)I"⟩ : MethodName)) hown (mvT hZ (hw _ (List.mem_of_getElem? (i := 39) rfl))) (mvT hZ (hw _ (List.mem_of_getElem? (i := 40) rfl))) (notFace_of_selects (args := #[]) (mvT hZ (hw _ (List.mem_of_getElem? (i := 42) rfl)))) (mvT hZ (hw _ (List.mem_of_getElem? (i := 42) rfl))) (mvT hZ (hw _ (List.mem_of_getElem? (i := 41) rfl))) (by decide) (backOf (W := 0) (rmN l Z a0 hw [] b214 s2 A216 n (own_up (own_up (own_up (own_up (own_up (fun _ => 0) s0 (0 : Int32)) s1 (0 : Int32)) s0 (s1 + (1 : Int32))) s2 (0 : Int32)) s1 (s2 + (1 : Int32))) T228.heap n0 Z229 o228_4 o228_6 hs20 hs21) hZ (hw _ (List.mem_of_getElem? (i := 43) rfl)) (hw _ (List.mem_of_getElem? (i := 5) rfl)) (by decide) (by decide)) q240a q240c (g := (mkF m 432 #[.val (.int p0), .val (.int p1), .val (.int p2), .val (.int p3), .val (.int p4), .val (.int p5), .val (.int n), .val (.int s0), .val (.int d1), .val (.int tt), .val (.int d2), .val (.int s1), .val (.int s2), .val (.int (3 : Int32)), .val (.int (0 : Int32)), .val (.int r), .val (.ref b194), .val (.ref b202), .val (.ref b214), .val (.int (1 : Int32))] [(.int s2), (.ref b214)])) rfl (by rw [hml]; rfl) (Steps.refl _) (argsL := [(.int s2)]) (rest := []) (lenOf pd__28I_29I rfl) rfl (by show 2 * 0 + _ ≤ _; exact Nat.le_of_eq rfl) (hb hby at_432) (fun _ _ => ⟨rfl, e237, (by decide : 5 + 0 ≤ _), (by decide : 30 + 0 ≤ _)⟩)
  dsimp only [Pt.U, Pt.locs, Pt.cells, Pt.slots] at X240 l240 y240 z240 st240 hQ240
  obtain ⟨rfl, N240q, e240⟩ := hQ240
  obtain ⟨lc240, X240, N240⟩ := own_pack X240 l240 y240 z240 N237 N240q (C := 5) (S' := 30) rfl rfl
  refine own_thr (a := T240.setTop (mkF m 435 #[.val (.int p0), .val (.int p1), .val (.int p2), .val (.int p3), .val (.int p4), .val (.int p5), .val (.int n), .val (.int s0), .val (.int d1), .val (.int tt), .val (.int d2), .val (.int s1), .val (.int s2), .val (.int (3 : Int32)), .val (.int (0 : Int32)), .val (.int r), .val (.ref b194), .val (.ref b202), .val (.ref b214), .val (.int (1 : Int32))] [(.int (((own_up (own_up (own_up (own_up (own_up (fun _ => 0) s0 (0 : Int32)) s1 (0 : Int32)) s0 (s1 + (1 : Int32))) s2 (0 : Int32)) s1 (s2 + (1 : Int32))) s2) - (1 : Int32)))])) (fun t kt => st240.trans kt) ?_
  refine own_thr (a := T240.setTop (mkF m 448 #[.val (.int p0), .val (.int p1), .val (.int p2), .val (.int p3), .val (.int p4), .val (.int p5), .val (.int n), .val (.int s0), .val (.int d1), .val (.int tt), .val (.int d2), .val (.int s1), .val (.int s2), .val (.int (3 : Int32)), .val (.int (0 : Int32)), .val (.int r), .val (.ref b194), .val (.ref b202), .val (.ref b214), .val (.int (1 : Int32))] [(.int (1 : Int32))])) (fun t kt => ?_) ?_
  · show Steps p.tables e below (T240.setTop (mkF m 435 #[.val (.int p0), .val (.int p1), .val (.int p2), .val (.int p3), .val (.int p4), .val (.int p5), .val (.int n), .val (.int s0), .val (.int d1), .val (.int tt), .val (.int d2), .val (.int s1), .val (.int s2), .val (.int (3 : Int32)), .val (.int (0 : Int32)), .val (.int r), .val (.ref b194), .val (.ref b202), .val (.ref b214), .val (.int (1 : Int32))] [(.int (((own_up (own_up (own_up (own_up (own_up (fun _ => 0) s0 (0 : Int32)) s1 (0 : Int32)) s0 (s1 + (1 : Int32))) s2 (0 : Int32)) s1 (s2 + (1 : Int32))) s2) - (1 : Int32)))])) _
    refine XS.iconst X240.here hx rfl (hb hby at_435) ?_
    refine XS.icmpNo X240.here hx rfl (hb hby at_436) rfl (teq (by simp [own_up, own_as, n01, n10, n02, n20, n12, n21])).2 ?_
    refine XS.iconst X240.here hx rfl (hb hby at_439) ?_
    refine XS.goto X240.here hx rfl (pc0 := 440) (pc' := 444) rfl (hb hby at_440) (by decide) (by decide) ?_
    refine XS.istore X240.here hx rfl (hb hby at_444) rfl (l' := #[.val (.int p0), .val (.int p1), .val (.int p2), .val (.int p3), .val (.int p4), .val (.int p5), .val (.int n), .val (.int s0), .val (.int d1), .val (.int tt), .val (.int d2), .val (.int s1), .val (.int s2), .val (.int (3 : Int32)), .val (.int (0 : Int32)), .val (.int r), .val (.ref b194), .val (.ref b202), .val (.ref b214), .val (.int (1 : Int32))]) rfl ?_
    refine XS.iload X240.here hx rfl (hb hby at_446) rfl ?_
    exact kt
  exact own_end X240 hlk (v := some (.int (1 : Int32))) (fun h => by rw [hret] at h; cases h) (fun fs hr => retN X240 hx (t := .boolean) hret (by simp) (hb hby at_448) hr) ⟨rfl, N240⟩ (by decide : 5 ≤ _) (by decide : 30 ≤ _)
set_option maxRecDepth 65536 in
set_option maxHeartbeats 40000000 in
theorem tl310 {p : Program} {l : Launch} {e : Env} {s : State} {m : MethodId} {below : List Frame} {meth : Method} {c : Code} {Z : State} {a0 : Array Value} (p0 : Int32) (p1 : Int32) (p2 : Int32) (p3 : Int32) (p4 : Int32) (p5 : Int32) {h0 : Heap} {n0 : Nat} (Z0 : n0 ≤ h0.size) (hw : ∀ d ∈ tables_1, d.before a0 Z = true) (hx : p.tables.exec = Jvm.exec) (hZ : Z.Warmed39 s.vm) (hby : c.code = code) (hml : c.maxLocals = 20) (hown : s.vm.findClass "dev/chainlatch/bucket/OrderAppendPinLaw" = some m.cls) (hlk : meth.locks = false) (hret : meth.sig.returnType = ret)
    {T0 : State} {lc0 : List Loc} (X0 : Stand p l e room_1 s m #[(.int p0), (.int p1), (.int p2), (.int p3), (.int p4), (.int p5)] below meth c T0 lc0 0 0) (N0 : Fr n0 lc0) (e0 : T0.heap = h0) (n s0 d1 tt d2 s1 s2 r : Int32) (hH : own_H n s0 s1 s2) : own_G p.tables e below s (Q0 Z p0 p1 p2 p3 p4 p5 h0 n0) room_1.cells room_1.slots (T0.setTop (mkF m 116 #[.val (.int p0), .val (.int p1), .val (.int p2), .val (.int p3), .val (.int p4), .val (.int p5), .val (.int n), .val (.int s0), .val (.int d1), .val (.int tt), .val (.int d2), .val (.int s1), .val (.int s2), .val (.int (3 : Int32)), .val (.int (1 : Int32)), .val (.int (0 : Int32)), .unset, .unset, .unset, .unset] [])) := by
  obtain ⟨⟨hn0, hn1⟩, ⟨hs00, hs01⟩, ⟨hs10, hs11⟩, ⟨hs20, hs21⟩, n01, n02, n12⟩ := hH
  have n10 : ¬ s1 = s0 := fun q => n01 q.symm
  have n20 : ¬ s2 = s0 := fun q => n02 q.symm
  have n21 : ¬ s2 = s1 := fun q => n12 q.symm
  refine own_thr (a := T0.setTop (mkF m 117 #[.val (.int p0), .val (.int p1), .val (.int p2), .val (.int p3), .val (.int p4), .val (.int p5), .val (.int n), .val (.int s0), .val (.int d1), .val (.int tt), .val (.int d2), .val (.int s1), .val (.int s2), .val (.int (3 : Int32)), .val (.int (1 : Int32)), .val (.int (0 : Int32)), .unset, .unset, .unset, .unset] [(.int (3 : Int32))])) (fun t kt => ?_) ?_
  · show Steps p.tables e below (T0.setTop (mkF m 116 #[.val (.int p0), .val (.int p1), .val (.int p2), .val (.int p3), .val (.int p4), .val (.int p5), .val (.int n), .val (.int s0), .val (.int d1), .val (.int tt), .val (.int d2), .val (.int s1), .val (.int s2), .val (.int (3 : Int32)), .val (.int (1 : Int32)), .val (.int (0 : Int32)), .unset, .unset, .unset, .unset] [])) _
    refine XS.iconst X0.here hx rfl (hb hby at_116) ?_
    exact kt
  obtain ⟨T241, h241, k241, X241, e241, E241, A241, st241⟩ := newP X0 hx hZ (hw _ (List.mem_of_getElem? (i := 2) rfl)) e0 (g := (mkF m 117 #[.val (.int p0), .val (.int p1), .val (.int p2), .val (.int p3), .val (.int p4), .val (.int p5), .val (.int n), .val (.int s0), .val (.int d1), .val (.int tt), .val (.int d2), .val (.int s1), .val (.int s2), .val (.int (3 : Int32)), .val (.int (1 : Int32)), .val (.int (0 : Int32)), .unset, .unset, .unset, .unset] [(.int (3 : Int32))])) rfl (hb hby at_117) rfl (by decide) (cap := 3) (by decide) (by decide) (by decide : 0 + 1 ≤ _) (by decide : 0 + 3 ≤ _)
  obtain ⟨b241, g241⟩ : ∃ z, z = h0.size := ⟨_, rfl⟩
  rw [← g241] at A241 st241
  have g_b241 : n0 ≤ b241 := Nat.le_trans Z0 (Nat.le_of_eq g241.symm)
  have sz_b241 : h0.size ≤ b241 := Nat.le_trans (Nat.le_refl h0.size) (Nat.le_of_eq g241.symm)
  have V_b241 : Arv Z h241 b241 k241 .int (3 : Int32) [(.int (0 : Int32)), (.int (0 : Int32)), (.int (0 : Int32))] (.int (0 : Int32)) := (Arv.new A241 (by decide)).pad (pad_rep [] (.int (0 : Int32)) 3)
  have Z242 : n0 ≤ h241.size := Nat.le_trans Z0 E241.1
  have Z242h : h0.size ≤ h241.size := Nat.le_trans (Nat.le_refl h0.size) E241.1
  refine own_thr (a := T241.setTop (mkF m 119 #[.val (.int p0), .val (.int p1), .val (.int p2), .val (.int p3), .val (.int p4), .val (.int p5), .val (.int n), .val (.int s0), .val (.int d1), .val (.int tt), .val (.int d2), .val (.int s1), .val (.int s2), .val (.int (3 : Int32)), .val (.int (1 : Int32)), .val (.int (0 : Int32)), .unset, .unset, .unset, .unset] [(.ref b241)])) (fun t kt => st241 t kt) ?_
  refine own_thr (a := T241.setTop (mkF m 123 #[.val (.int p0), .val (.int p1), .val (.int p2), .val (.int p3), .val (.int p4), .val (.int p5), .val (.int n), .val (.int s0), .val (.int d1), .val (.int tt), .val (.int d2), .val (.int s1), .val (.int s2), .val (.int (3 : Int32)), .val (.int (1 : Int32)), .val (.int (0 : Int32)), .unset, .unset, .unset, .unset] [(.int s0), (.int (0 : Int32)), (.ref b241), (.ref b241)])) (fun t kt => ?_) ?_
  · show Steps p.tables e below (T241.setTop (mkF m 119 #[.val (.int p0), .val (.int p1), .val (.int p2), .val (.int p3), .val (.int p4), .val (.int p5), .val (.int n), .val (.int s0), .val (.int d1), .val (.int tt), .val (.int d2), .val (.int s1), .val (.int s2), .val (.int (3 : Int32)), .val (.int (1 : Int32)), .val (.int (0 : Int32)), .unset, .unset, .unset, .unset] [(.ref b241)])) _
    refine XS.dup X241.here hx rfl (hb hby at_119) rfl rfl ?_
    refine XS.iconst X241.here hx rfl (hb hby at_120) ?_
    refine XS.iload X241.here hx rfl (hb hby at_121) rfl ?_
    exact kt
  obtain ⟨cl243, Ar243, q243, S243, M243, H243, G243⟩ := id V_b241
  have hin243 : ¬ ((0 : Int32) < 0 ∨ cl243.slots.size ≤ ((0 : Int32)).toNatClampNeg) := inb_of S243 ⟨by decide, by decide⟩
  obtain ⟨T243, h243, X243, e243, W243, st243⟩ := stI X241 hx hZ e241 Ar243 (j := (0 : Int32)) hin243 (g := (mkF m 123 #[.val (.int p0), .val (.int p1), .val (.int p2), .val (.int p3), .val (.int p4), .val (.int p5), .val (.int n), .val (.int s0), .val (.int d1), .val (.int tt), .val (.int d2), .val (.int s1), .val (.int s2), .val (.int (3 : Int32)), .val (.int (1 : Int32)), .val (.int (0 : Int32)), .unset, .unset, .unset, .unset] [(.int s0), (.int (0 : Int32)), (.ref b241), (.ref b241)])) rfl rfl (hb hby at_123)
  have Z244 : n0 ≤ h243.size := Nat.le_trans Z242 (Nat.le_of_eq W243.size.symm)
  have Z244h : h0.size ≤ h243.size := Nat.le_trans Z242h (Nat.le_of_eq W243.size.symm)
  have V243 : Arv Z h243 b241 k241 .int (3 : Int32) [(.int s0), (.int (0 : Int32)), (.int (0 : Int32))] (.int (0 : Int32)) := Arv.set Ar243 q243 S243 M243 H243 G243 rfl W243 0 rfl (Nat.le_of_ble_eq_true rfl)
  obtain ⟨lc243, X243, N243⟩ := own_pack1 X243 N0 g_b241
  refine own_thr (a := T243.setTop (mkF m 124 #[.val (.int p0), .val (.int p1), .val (.int p2), .val (.int p3), .val (.int p4), .val (.int p5), .val (.int n), .val (.int s0), .val (.int d1), .val (.int tt), .val (.int d2), .val (.int s1), .val (.int s2), .val (.int (3 : Int32)), .val (.int (1 : Int32)), .val (.int (0 : Int32)), .unset, .unset, .unset, .unset] [(.ref b241)])) (fun t kt => st243 t kt) ?_
  refine own_thr (a := T243.setTop (mkF m 128 #[.val (.int p0), .val (.int p1), .val (.int p2), .val (.int p3), .val (.int p4), .val (.int p5), .val (.int n), .val (.int s0), .val (.int d1), .val (.int tt), .val (.int d2), .val (.int s1), .val (.int s2), .val (.int (3 : Int32)), .val (.int (1 : Int32)), .val (.int (0 : Int32)), .unset, .unset, .unset, .unset] [(.int s1), (.int (1 : Int32)), (.ref b241), (.ref b241)])) (fun t kt => ?_) ?_
  · show Steps p.tables e below (T243.setTop (mkF m 124 #[.val (.int p0), .val (.int p1), .val (.int p2), .val (.int p3), .val (.int p4), .val (.int p5), .val (.int n), .val (.int s0), .val (.int d1), .val (.int tt), .val (.int d2), .val (.int s1), .val (.int s2), .val (.int (3 : Int32)), .val (.int (1 : Int32)), .val (.int (0 : Int32)), .unset, .unset, .unset, .unset] [(.ref b241)])) _
    refine XS.dup X243.here hx rfl (hb hby at_124) rfl rfl ?_
    refine XS.iconst X243.here hx rfl (hb hby at_125) ?_
    refine XS.iload X243.here hx rfl (hb hby at_126) rfl ?_
    exact kt
  obtain ⟨cl245, Ar245, q245, S245, M245, H245, G245⟩ := id V243
  have hin245 : ¬ ((1 : Int32) < 0 ∨ cl245.slots.size ≤ ((1 : Int32)).toNatClampNeg) := inb_of S245 ⟨by decide, by decide⟩
  obtain ⟨T245, h245, X245, e245, W245, st245⟩ := stI X243 hx hZ e243 Ar245 (j := (1 : Int32)) hin245 (g := (mkF m 128 #[.val (.int p0), .val (.int p1), .val (.int p2), .val (.int p3), .val (.int p4), .val (.int p5), .val (.int n), .val (.int s0), .val (.int d1), .val (.int tt), .val (.int d2), .val (.int s1), .val (.int s2), .val (.int (3 : Int32)), .val (.int (1 : Int32)), .val (.int (0 : Int32)), .unset, .unset, .unset, .unset] [(.int s1), (.int (1 : Int32)), (.ref b241), (.ref b241)])) rfl rfl (hb hby at_128)
  have Z246 : n0 ≤ h245.size := Nat.le_trans Z244 (Nat.le_of_eq W245.size.symm)
  have Z246h : h0.size ≤ h245.size := Nat.le_trans Z244h (Nat.le_of_eq W245.size.symm)
  have V245 : Arv Z h245 b241 k241 .int (3 : Int32) [(.int s0), (.int s1), (.int (0 : Int32))] (.int (0 : Int32)) := Arv.set Ar245 q245 S245 M245 H245 G245 rfl W245 1 rfl (Nat.le_of_ble_eq_true rfl)
  obtain ⟨lc245, X245, N245⟩ := own_pack1 X245 N243 g_b241
  refine own_thr (a := T245.setTop (mkF m 129 #[.val (.int p0), .val (.int p1), .val (.int p2), .val (.int p3), .val (.int p4), .val (.int p5), .val (.int n), .val (.int s0), .val (.int d1), .val (.int tt), .val (.int d2), .val (.int s1), .val (.int s2), .val (.int (3 : Int32)), .val (.int (1 : Int32)), .val (.int (0 : Int32)), .unset, .unset, .unset, .unset] [(.ref b241)])) (fun t kt => st245 t kt) ?_
  refine own_thr (a := T245.setTop (mkF m 133 #[.val (.int p0), .val (.int p1), .val (.int p2), .val (.int p3), .val (.int p4), .val (.int p5), .val (.int n), .val (.int s0), .val (.int d1), .val (.int tt), .val (.int d2), .val (.int s1), .val (.int s2), .val (.int (3 : Int32)), .val (.int (1 : Int32)), .val (.int (0 : Int32)), .unset, .unset, .unset, .unset] [(.int s2), (.int (2 : Int32)), (.ref b241), (.ref b241)])) (fun t kt => ?_) ?_
  · show Steps p.tables e below (T245.setTop (mkF m 129 #[.val (.int p0), .val (.int p1), .val (.int p2), .val (.int p3), .val (.int p4), .val (.int p5), .val (.int n), .val (.int s0), .val (.int d1), .val (.int tt), .val (.int d2), .val (.int s1), .val (.int s2), .val (.int (3 : Int32)), .val (.int (1 : Int32)), .val (.int (0 : Int32)), .unset, .unset, .unset, .unset] [(.ref b241)])) _
    refine XS.dup X245.here hx rfl (hb hby at_129) rfl rfl ?_
    refine XS.iconst X245.here hx rfl (hb hby at_130) ?_
    refine XS.iload X245.here hx rfl (hb hby at_131) rfl ?_
    exact kt
  obtain ⟨cl247, Ar247, q247, S247, M247, H247, G247⟩ := id V245
  have hin247 : ¬ ((2 : Int32) < 0 ∨ cl247.slots.size ≤ ((2 : Int32)).toNatClampNeg) := inb_of S247 ⟨by decide, by decide⟩
  obtain ⟨T247, h247, X247, e247, W247, st247⟩ := stI X245 hx hZ e245 Ar247 (j := (2 : Int32)) hin247 (g := (mkF m 133 #[.val (.int p0), .val (.int p1), .val (.int p2), .val (.int p3), .val (.int p4), .val (.int p5), .val (.int n), .val (.int s0), .val (.int d1), .val (.int tt), .val (.int d2), .val (.int s1), .val (.int s2), .val (.int (3 : Int32)), .val (.int (1 : Int32)), .val (.int (0 : Int32)), .unset, .unset, .unset, .unset] [(.int s2), (.int (2 : Int32)), (.ref b241), (.ref b241)])) rfl rfl (hb hby at_133)
  have Z248 : n0 ≤ h247.size := Nat.le_trans Z246 (Nat.le_of_eq W247.size.symm)
  have Z248h : h0.size ≤ h247.size := Nat.le_trans Z246h (Nat.le_of_eq W247.size.symm)
  have V247 : Arv Z h247 b241 k241 .int (3 : Int32) [(.int s0), (.int s1), (.int s2)] (.int (0 : Int32)) := Arv.set Ar247 q247 S247 M247 H247 G247 rfl W247 2 rfl (Nat.le_of_ble_eq_true rfl)
  obtain ⟨lc247, X247, N247⟩ := own_pack1 X247 N245 g_b241
  refine own_thr (a := T247.setTop (mkF m 134 #[.val (.int p0), .val (.int p1), .val (.int p2), .val (.int p3), .val (.int p4), .val (.int p5), .val (.int n), .val (.int s0), .val (.int d1), .val (.int tt), .val (.int d2), .val (.int s1), .val (.int s2), .val (.int (3 : Int32)), .val (.int (1 : Int32)), .val (.int (0 : Int32)), .unset, .unset, .unset, .unset] [(.ref b241)])) (fun t kt => st247 t kt) ?_
  refine own_thr (a := T247.setTop (mkF m 137 #[.val (.int p0), .val (.int p1), .val (.int p2), .val (.int p3), .val (.int p4), .val (.int p5), .val (.int n), .val (.int s0), .val (.int d1), .val (.int tt), .val (.int d2), .val (.int s1), .val (.int s2), .val (.int (3 : Int32)), .val (.int (1 : Int32)), .val (.int (0 : Int32)), .val (.ref b241), .unset, .unset, .unset] [(.int (3 : Int32))])) (fun t kt => ?_) ?_
  · show Steps p.tables e below (T247.setTop (mkF m 134 #[.val (.int p0), .val (.int p1), .val (.int p2), .val (.int p3), .val (.int p4), .val (.int p5), .val (.int n), .val (.int s0), .val (.int d1), .val (.int tt), .val (.int d2), .val (.int s1), .val (.int s2), .val (.int (3 : Int32)), .val (.int (1 : Int32)), .val (.int (0 : Int32)), .unset, .unset, .unset, .unset] [(.ref b241)])) _
    refine XS.astore X247.here hx rfl (hb hby at_134) rfl rfl (l' := #[.val (.int p0), .val (.int p1), .val (.int p2), .val (.int p3), .val (.int p4), .val (.int p5), .val (.int n), .val (.int s0), .val (.int d1), .val (.int tt), .val (.int d2), .val (.int s1), .val (.int s2), .val (.int (3 : Int32)), .val (.int (1 : Int32)), .val (.int (0 : Int32)), .val (.ref b241), .unset, .unset, .unset]) rfl ?_
    refine XS.iconst X247.here hx rfl (hb hby at_136) ?_
    exact kt
  obtain ⟨T249, h249, k249, X249, e249, E249, A249, st249⟩ := newP X247 hx hZ (hw _ (List.mem_of_getElem? (i := 2) rfl)) e247 (g := (mkF m 137 #[.val (.int p0), .val (.int p1), .val (.int p2), .val (.int p3), .val (.int p4), .val (.int p5), .val (.int n), .val (.int s0), .val (.int d1), .val (.int tt), .val (.int d2), .val (.int s1), .val (.int s2), .val (.int (3 : Int32)), .val (.int (1 : Int32)), .val (.int (0 : Int32)), .val (.ref b241), .unset, .unset, .unset] [(.int (3 : Int32))])) rfl (hb hby at_137) rfl (by decide) (cap := 3) (by decide) (by decide) (by decide : 1 + 1 ≤ _) (by decide : 3 + 3 ≤ _)
  obtain ⟨b249, g249⟩ : ∃ z, z = h247.size := ⟨_, rfl⟩
  rw [← g249] at A249 st249
  have g_b249 : n0 ≤ b249 := Nat.le_trans Z248 (Nat.le_of_eq g249.symm)
  have sz_b249 : h0.size ≤ b249 := Nat.le_trans Z248h (Nat.le_of_eq g249.symm)
  have lt_b241_b249 : b241 < b249 := Nat.lt_of_lt_of_le V247.lt (Nat.le_of_eq g249.symm)
  have ne_b241_b249 : b241 ≠ b249 := Nat.ne_of_lt lt_b241_b249
  have V_b249 : Arv Z h249 b249 k249 .int (3 : Int32) [(.int (0 : Int32)), (.int (0 : Int32)), (.int (0 : Int32))] (.int (0 : Int32)) := (Arv.new A249 (by decide)).pad (pad_rep [] (.int (0 : Int32)) 3)
  have Z250 : n0 ≤ h249.size := Nat.le_trans Z248 E249.1
  have Z250h : h0.size ≤ h249.size := Nat.le_trans Z248h E249.1
  refine own_thr (a := T249.setTop (mkF m 139 #[.val (.int p0), .val (.int p1), .val (.int p2), .val (.int p3), .val (.int p4), .val (.int p5), .val (.int n), .val (.int s0), .val (.int d1), .val (.int tt), .val (.int d2), .val (.int s1), .val (.int s2), .val (.int (3 : Int32)), .val (.int (1 : Int32)), .val (.int (0 : Int32)), .val (.ref b241), .unset, .unset, .unset] [(.ref b249)])) (fun t kt => st249 t kt) ?_
  refine own_thr (a := T249.setTop (mkF m 171 #[.val (.int p0), .val (.int p1), .val (.int p2), .val (.int p3), .val (.int p4), .val (.int p5), .val (.int n), .val (.int s0), .val (.int d1), .val (.int tt), .val (.int d2), .val (.int s1), .val (.int s2), .val (.int (3 : Int32)), .val (.int (1 : Int32)), .val (.int (0 : Int32)), .val (.ref b241), .val (.ref b249), .unset, .unset] [(.int (1 : Int32)), (.ref b241), (.int (0 : Int32)), (.ref b249)])) (fun t kt => ?_) ?_
  · show Steps p.tables e below (T249.setTop (mkF m 139 #[.val (.int p0), .val (.int p1), .val (.int p2), .val (.int p3), .val (.int p4), .val (.int p5), .val (.int n), .val (.int s0), .val (.int d1), .val (.int tt), .val (.int d2), .val (.int s1), .val (.int s2), .val (.int (3 : Int32)), .val (.int (1 : Int32)), .val (.int (0 : Int32)), .val (.ref b241), .unset, .unset, .unset] [(.ref b249)])) _
    refine XS.astore X249.here hx rfl (hb hby at_139) rfl rfl (l' := #[.val (.int p0), .val (.int p1), .val (.int p2), .val (.int p3), .val (.int p4), .val (.int p5), .val (.int n), .val (.int s0), .val (.int d1), .val (.int tt), .val (.int d2), .val (.int s1), .val (.int s2), .val (.int (3 : Int32)), .val (.int (1 : Int32)), .val (.int (0 : Int32)), .val (.ref b241), .val (.ref b249), .unset, .unset]) rfl ?_
    refine XS.iload X249.here hx rfl (hb hby at_141) rfl ?_
    refine XS.ifNo X249.here hx rfl (hb hby at_143) rfl ((if0 _ _).trans (feq (by decide)).1) ?_
    refine XS.iload X249.here hx rfl (hb hby at_146) rfl ?_
    refine XS.iconst X249.here hx rfl (hb hby at_148) ?_
    refine XS.icmpNo X249.here hx rfl (hb hby at_149) rfl (tlt (by decide)).2.2.2 ?_
    refine XS.aload X249.here hx rfl (hb hby at_152) rfl rfl ?_
    refine XS.iconst X249.here hx rfl (hb hby at_154) ?_
    refine XS.iconst X249.here hx rfl (hb hby at_155) ?_
    refine XS.iload X249.here hx rfl (hb hby at_156) rfl ?_
    refine XS.icmpYes X249.here hx rfl (pc0 := 158) (pc' := 168) rfl (hb hby at_158) rfl (flt (by decide)).2.1 (by decide) (by decide) ?_
    refine XS.aload X249.here hx rfl (hb hby at_168) rfl rfl ?_
    refine XS.iconst X249.here hx rfl (hb hby at_170) ?_
    exact kt
  obtain ⟨cl251, Ar251, -, S251, M251, H251, -⟩ := id (V247.ext E249)
  have hin251 : ¬ ((1 : Int32) < 0 ∨ cl251.slots.size ≤ ((1 : Int32)).toNatClampNeg) := inb_of S251 ⟨by decide, by decide⟩
  have hat251 : cl251.slots[((1 : Int32)).toNatClampNeg]? = some (.int s1) := Has.at H251 hin251 rfl
  refine own_thr (a := T249.setTop (mkF m 172 #[.val (.int p0), .val (.int p1), .val (.int p2), .val (.int p3), .val (.int p4), .val (.int p5), .val (.int n), .val (.int s0), .val (.int d1), .val (.int tt), .val (.int d2), .val (.int s1), .val (.int s2), .val (.int (3 : Int32)), .val (.int (1 : Int32)), .val (.int (0 : Int32)), .val (.ref b241), .val (.ref b249), .unset, .unset] [(.int s1), (.int (0 : Int32)), (.ref b249)])) (fun t kt => ?_) ?_
  · show Steps p.tables e below (T249.setTop (mkF m 171 #[.val (.int p0), .val (.int p1), .val (.int p2), .val (.int p3), .val (.int p4), .val (.int p5), .val (.int n), .val (.int s0), .val (.int d1), .val (.int tt), .val (.int d2), .val (.int s1), .val (.int s2), .val (.int (3 : Int32)), .val (.int (1 : Int32)), .val (.int (0 : Int32)), .val (.ref b241), .val (.ref b249), .unset, .unset] [(.int (1 : Int32)), (.ref b241), (.int (0 : Int32)), (.ref b249)])) _
    refine X249.iaload hx (j := (1 : Int32)) (v := (.int s1)) (by rw [e249]; exact Ar251.1) (State.isArrayOf_alike hZ.alike Ar251.2.1) Ar251.2.2 hin251 hat251 (g := (mkF m 171 #[.val (.int p0), .val (.int p1), .val (.int p2), .val (.int p3), .val (.int p4), .val (.int p5), .val (.int n), .val (.int s0), .val (.int d1), .val (.int tt), .val (.int d2), .val (.int s1), .val (.int s2), .val (.int (3 : Int32)), .val (.int (1 : Int32)), .val (.int (0 : Int32)), .val (.ref b241), .val (.ref b249), .unset, .unset] [(.int (1 : Int32)), (.ref b241), (.int (0 : Int32)), (.ref b249)])) rfl rfl (hb hby at_171) _ ?_
    exact kt
  obtain ⟨cl252, Ar252, q252, S252, M252, H252, G252⟩ := id V_b249
  have hin252 : ¬ ((0 : Int32) < 0 ∨ cl252.slots.size ≤ ((0 : Int32)).toNatClampNeg) := inb_of S252 ⟨by decide, by decide⟩
  obtain ⟨T252, h252, X252, e252, W252, st252⟩ := stI X249 hx hZ e249 Ar252 (j := (0 : Int32)) hin252 (g := (mkF m 172 #[.val (.int p0), .val (.int p1), .val (.int p2), .val (.int p3), .val (.int p4), .val (.int p5), .val (.int n), .val (.int s0), .val (.int d1), .val (.int tt), .val (.int d2), .val (.int s1), .val (.int s2), .val (.int (3 : Int32)), .val (.int (1 : Int32)), .val (.int (0 : Int32)), .val (.ref b241), .val (.ref b249), .unset, .unset] [(.int s1), (.int (0 : Int32)), (.ref b249)])) rfl rfl (hb hby at_172)
  have Z253 : n0 ≤ h252.size := Nat.le_trans Z250 (Nat.le_of_eq W252.size.symm)
  have Z253h : h0.size ≤ h252.size := Nat.le_trans Z250h (Nat.le_of_eq W252.size.symm)
  have V252 : Arv Z h252 b249 k249 .int (3 : Int32) [(.int s1), (.int (0 : Int32)), (.int (0 : Int32))] (.int (0 : Int32)) := Arv.set Ar252 q252 S252 M252 H252 G252 rfl W252 0 rfl (Nat.le_of_ble_eq_true rfl)
  obtain ⟨lc252, X252, N252⟩ := own_pack1 X252 N247 g_b249
  refine own_thr (a := T252.setTop (mkF m 173 #[.val (.int p0), .val (.int p1), .val (.int p2), .val (.int p3), .val (.int p4), .val (.int p5), .val (.int n), .val (.int s0), .val (.int d1), .val (.int tt), .val (.int d2), .val (.int s1), .val (.int s2), .val (.int (3 : Int32)), .val (.int (1 : Int32)), .val (.int (0 : Int32)), .val (.ref b241), .val (.ref b249), .unset, .unset] [])) (fun t kt => st252 t kt) ?_
  refine own_thr (a := T252.setTop (mkF m 198 #[.val (.int p0), .val (.int p1), .val (.int p2), .val (.int p3), .val (.int p4), .val (.int p5), .val (.int n), .val (.int s0), .val (.int d1), .val (.int tt), .val (.int d2), .val (.int s1), .val (.int s2), .val (.int (3 : Int32)), .val (.int (1 : Int32)), .val (.int (0 : Int32)), .val (.ref b241), .val (.ref b249), .unset, .unset] [(.int (2 : Int32)), (.ref b241), (.int (1 : Int32)), (.ref b249)])) (fun t kt => ?_) ?_
  · show Steps p.tables e below (T252.setTop (mkF m 173 #[.val (.int p0), .val (.int p1), .val (.int p2), .val (.int p3), .val (.int p4), .val (.int p5), .val (.int n), .val (.int s0), .val (.int d1), .val (.int tt), .val (.int d2), .val (.int s1), .val (.int s2), .val (.int (3 : Int32)), .val (.int (1 : Int32)), .val (.int (0 : Int32)), .val (.ref b241), .val (.ref b249), .unset, .unset] [])) _
    refine XS.iload X252.here hx rfl (hb hby at_173) rfl ?_
    refine XS.iconst X252.here hx rfl (hb hby at_175) ?_
    refine XS.icmpNo X252.here hx rfl (hb hby at_176) rfl (tlt (by decide)).2.2.2 ?_
    refine XS.aload X252.here hx rfl (hb hby at_179) rfl rfl ?_
    refine XS.iconst X252.here hx rfl (hb hby at_181) ?_
    refine XS.iconst X252.here hx rfl (hb hby at_182) ?_
    refine XS.iload X252.here hx rfl (hb hby at_183) rfl ?_
    refine XS.icmpYes X252.here hx rfl (pc0 := 185) (pc' := 195) rfl (hb hby at_185) rfl (flt (by decide)).2.1 (by decide) (by decide) ?_
    refine XS.aload X252.here hx rfl (hb hby at_195) rfl rfl ?_
    refine XS.iconst X252.here hx rfl (hb hby at_197) ?_
    exact kt
  obtain ⟨cl254, Ar254, -, S254, M254, H254, -⟩ := id ((V247.ext E249).other W252 ne_b241_b249)
  have hin254 : ¬ ((2 : Int32) < 0 ∨ cl254.slots.size ≤ ((2 : Int32)).toNatClampNeg) := inb_of S254 ⟨by decide, by decide⟩
  have hat254 : cl254.slots[((2 : Int32)).toNatClampNeg]? = some (.int s2) := Has.at H254 hin254 rfl
  refine own_thr (a := T252.setTop (mkF m 199 #[.val (.int p0), .val (.int p1), .val (.int p2), .val (.int p3), .val (.int p4), .val (.int p5), .val (.int n), .val (.int s0), .val (.int d1), .val (.int tt), .val (.int d2), .val (.int s1), .val (.int s2), .val (.int (3 : Int32)), .val (.int (1 : Int32)), .val (.int (0 : Int32)), .val (.ref b241), .val (.ref b249), .unset, .unset] [(.int s2), (.int (1 : Int32)), (.ref b249)])) (fun t kt => ?_) ?_
  · show Steps p.tables e below (T252.setTop (mkF m 198 #[.val (.int p0), .val (.int p1), .val (.int p2), .val (.int p3), .val (.int p4), .val (.int p5), .val (.int n), .val (.int s0), .val (.int d1), .val (.int tt), .val (.int d2), .val (.int s1), .val (.int s2), .val (.int (3 : Int32)), .val (.int (1 : Int32)), .val (.int (0 : Int32)), .val (.ref b241), .val (.ref b249), .unset, .unset] [(.int (2 : Int32)), (.ref b241), (.int (1 : Int32)), (.ref b249)])) _
    refine X252.iaload hx (j := (2 : Int32)) (v := (.int s2)) (by rw [e252]; exact Ar254.1) (State.isArrayOf_alike hZ.alike Ar254.2.1) Ar254.2.2 hin254 hat254 (g := (mkF m 198 #[.val (.int p0), .val (.int p1), .val (.int p2), .val (.int p3), .val (.int p4), .val (.int p5), .val (.int n), .val (.int s0), .val (.int d1), .val (.int tt), .val (.int d2), .val (.int s1), .val (.int s2), .val (.int (3 : Int32)), .val (.int (1 : Int32)), .val (.int (0 : Int32)), .val (.ref b241), .val (.ref b249), .unset, .unset] [(.int (2 : Int32)), (.ref b241), (.int (1 : Int32)), (.ref b249)])) rfl rfl (hb hby at_198) _ ?_
    exact kt
  obtain ⟨cl255, Ar255, q255, S255, M255, H255, G255⟩ := id V252
  have hin255 : ¬ ((1 : Int32) < 0 ∨ cl255.slots.size ≤ ((1 : Int32)).toNatClampNeg) := inb_of S255 ⟨by decide, by decide⟩
  obtain ⟨T255, h255, X255, e255, W255, st255⟩ := stI X252 hx hZ e252 Ar255 (j := (1 : Int32)) hin255 (g := (mkF m 199 #[.val (.int p0), .val (.int p1), .val (.int p2), .val (.int p3), .val (.int p4), .val (.int p5), .val (.int n), .val (.int s0), .val (.int d1), .val (.int tt), .val (.int d2), .val (.int s1), .val (.int s2), .val (.int (3 : Int32)), .val (.int (1 : Int32)), .val (.int (0 : Int32)), .val (.ref b241), .val (.ref b249), .unset, .unset] [(.int s2), (.int (1 : Int32)), (.ref b249)])) rfl rfl (hb hby at_199)
  have Z256 : n0 ≤ h255.size := Nat.le_trans Z253 (Nat.le_of_eq W255.size.symm)
  have Z256h : h0.size ≤ h255.size := Nat.le_trans Z253h (Nat.le_of_eq W255.size.symm)
  have V255 : Arv Z h255 b249 k249 .int (3 : Int32) [(.int s1), (.int s2), (.int (0 : Int32))] (.int (0 : Int32)) := Arv.set Ar255 q255 S255 M255 H255 G255 rfl W255 1 rfl (Nat.le_of_ble_eq_true rfl)
  obtain ⟨lc255, X255, N255⟩ := own_pack1 X255 N252 g_b249
  refine own_thr (a := T255.setTop (mkF m 200 #[.val (.int p0), .val (.int p1), .val (.int p2), .val (.int p3), .val (.int p4), .val (.int p5), .val (.int n), .val (.int s0), .val (.int d1), .val (.int tt), .val (.int d2), .val (.int s1), .val (.int s2), .val (.int (3 : Int32)), .val (.int (1 : Int32)), .val (.int (0 : Int32)), .val (.ref b241), .val (.ref b249), .unset, .unset] [])) (fun t kt => st255 t kt) ?_
  refine own_thr (a := T255.setTop (mkF m 210 #[.val (.int p0), .val (.int p1), .val (.int p2), .val (.int p3), .val (.int p4), .val (.int p5), .val (.int n), .val (.int s0), .val (.int d1), .val (.int tt), .val (.int d2), .val (.int s1), .val (.int s2), .val (.int (3 : Int32)), .val (.int (1 : Int32)), .val (.int (0 : Int32)), .val (.ref b241), .val (.ref b249), .unset, .unset] [(.int (0 : Int32)), (.ref b241), (.int (2 : Int32)), (.ref b249)])) (fun t kt => ?_) ?_
  · show Steps p.tables e below (T255.setTop (mkF m 200 #[.val (.int p0), .val (.int p1), .val (.int p2), .val (.int p3), .val (.int p4), .val (.int p5), .val (.int n), .val (.int s0), .val (.int d1), .val (.int tt), .val (.int d2), .val (.int s1), .val (.int s2), .val (.int (3 : Int32)), .val (.int (1 : Int32)), .val (.int (0 : Int32)), .val (.ref b241), .val (.ref b249), .unset, .unset] [])) _
    refine XS.aload X255.here hx rfl (hb hby at_200) rfl rfl ?_
    refine XS.iload X255.here hx rfl (hb hby at_202) rfl ?_
    refine XS.iconst X255.here hx rfl (hb hby at_204) ?_
    refine XS.isub X255.here hx rfl (hb hby at_205) rfl ?_
    refine XS.aload X255.here hx rfl (hb hby at_206) rfl rfl ?_
    refine XS.iload X255.here hx rfl (hb hby at_208) rfl ?_
    exact kt
  have c258 := (((V247.ext E249).other W252 ne_b241_b249).other W255 ne_b241_b249)
  obtain ⟨cl257, Ar257, -, S257, M257, H257, -⟩ := id c258
  have hin257 : ¬ ((0 : Int32) < 0 ∨ cl257.slots.size ≤ ((0 : Int32)).toNatClampNeg) := inb_of S257 ⟨by decide, by decide⟩
  have hat257 : cl257.slots[((0 : Int32)).toNatClampNeg]? = some (.int s0) := Has.at H257 hin257 rfl
  refine own_thr (a := T255.setTop (mkF m 211 #[.val (.int p0), .val (.int p1), .val (.int p2), .val (.int p3), .val (.int p4), .val (.int p5), .val (.int n), .val (.int s0), .val (.int d1), .val (.int tt), .val (.int d2), .val (.int s1), .val (.int s2), .val (.int (3 : Int32)), .val (.int (1 : Int32)), .val (.int (0 : Int32)), .val (.ref b241), .val (.ref b249), .unset, .unset] [(.int s0), (.int (2 : Int32)), (.ref b249)])) (fun t kt => ?_) ?_
  · show Steps p.tables e below (T255.setTop (mkF m 210 #[.val (.int p0), .val (.int p1), .val (.int p2), .val (.int p3), .val (.int p4), .val (.int p5), .val (.int n), .val (.int s0), .val (.int d1), .val (.int tt), .val (.int d2), .val (.int s1), .val (.int s2), .val (.int (3 : Int32)), .val (.int (1 : Int32)), .val (.int (0 : Int32)), .val (.ref b241), .val (.ref b249), .unset, .unset] [(.int (0 : Int32)), (.ref b241), (.int (2 : Int32)), (.ref b249)])) _
    refine X255.iaload hx (j := (0 : Int32)) (v := (.int s0)) (by rw [e255]; exact Ar257.1) (State.isArrayOf_alike hZ.alike Ar257.2.1) Ar257.2.2 hin257 hat257 (g := (mkF m 210 #[.val (.int p0), .val (.int p1), .val (.int p2), .val (.int p3), .val (.int p4), .val (.int p5), .val (.int n), .val (.int s0), .val (.int d1), .val (.int tt), .val (.int d2), .val (.int s1), .val (.int s2), .val (.int (3 : Int32)), .val (.int (1 : Int32)), .val (.int (0 : Int32)), .val (.ref b241), .val (.ref b249), .unset, .unset] [(.int (0 : Int32)), (.ref b241), (.int (2 : Int32)), (.ref b249)])) rfl rfl (hb hby at_210) _ ?_
    exact kt
  obtain ⟨cl259, Ar259, q259, S259, M259, H259, G259⟩ := id V255
  have hin259 : ¬ ((2 : Int32) < 0 ∨ cl259.slots.size ≤ ((2 : Int32)).toNatClampNeg) := inb_of S259 ⟨by decide, by decide⟩
  obtain ⟨T259, h259, X259, e259, W259, st259⟩ := stI X255 hx hZ e255 Ar259 (j := (2 : Int32)) hin259 (g := (mkF m 211 #[.val (.int p0), .val (.int p1), .val (.int p2), .val (.int p3), .val (.int p4), .val (.int p5), .val (.int n), .val (.int s0), .val (.int d1), .val (.int tt), .val (.int d2), .val (.int s1), .val (.int s2), .val (.int (3 : Int32)), .val (.int (1 : Int32)), .val (.int (0 : Int32)), .val (.ref b241), .val (.ref b249), .unset, .unset] [(.int s0), (.int (2 : Int32)), (.ref b249)])) rfl rfl (hb hby at_211)
  have Z260 : n0 ≤ h259.size := Nat.le_trans Z256 (Nat.le_of_eq W259.size.symm)
  have Z260h : h0.size ≤ h259.size := Nat.le_trans Z256h (Nat.le_of_eq W259.size.symm)
  have V259 : Arv Z h259 b249 k249 .int (3 : Int32) [(.int s1), (.int s2), (.int s0)] (.int (0 : Int32)) := Arv.set Ar259 q259 S259 M259 H259 G259 rfl W259 2 rfl (Nat.le_of_ble_eq_true rfl)
  obtain ⟨lc259, X259, N259⟩ := own_pack1 X259 N255 g_b249
  refine own_thr (a := T259.setTop (mkF m 212 #[.val (.int p0), .val (.int p1), .val (.int p2), .val (.int p3), .val (.int p4), .val (.int p5), .val (.int n), .val (.int s0), .val (.int d1), .val (.int tt), .val (.int d2), .val (.int s1), .val (.int s2), .val (.int (3 : Int32)), .val (.int (1 : Int32)), .val (.int (0 : Int32)), .val (.ref b241), .val (.ref b249), .unset, .unset] [])) (fun t kt => st259 t kt) ?_
  refine own_thr (a := T259.setTop (mkF m 239 #[.val (.int p0), .val (.int p1), .val (.int p2), .val (.int p3), .val (.int p4), .val (.int p5), .val (.int n), .val (.int s0), .val (.int d1), .val (.int tt), .val (.int d2), .val (.int s1), .val (.int s2), .val (.int (3 : Int32)), .val (.int (1 : Int32)), .val (.int (0 : Int32)), .val (.ref b241), .val (.ref b249), .unset, .unset] [])) (fun t kt => ?_) ?_
  · show Steps p.tables e below (T259.setTop (mkF m 212 #[.val (.int p0), .val (.int p1), .val (.int p2), .val (.int p3), .val (.int p4), .val (.int p5), .val (.int n), .val (.int s0), .val (.int d1), .val (.int tt), .val (.int d2), .val (.int s1), .val (.int s2), .val (.int (3 : Int32)), .val (.int (1 : Int32)), .val (.int (0 : Int32)), .val (.ref b241), .val (.ref b249), .unset, .unset] [])) _
    refine XS.goto X259.here hx rfl (pc0 := 212) (pc' := 239) rfl (hb hby at_212) (by decide) (by decide) ?_
    exact kt
  obtain ⟨T261, h261, X261, e261, E261, A261, D261, U261, st261⟩ := newO X259 hx hZ hown (hw _ (List.mem_of_getElem? (i := 3) rfl)) (hw _ (List.mem_of_getElem? (i := 4) rfl)) (hw _ (List.mem_of_getElem? (i := 5) rfl)) e259 (g := (mkF m 239 #[.val (.int p0), .val (.int p1), .val (.int p2), .val (.int p3), .val (.int p4), .val (.int p5), .val (.int n), .val (.int s0), .val (.int d1), .val (.int tt), .val (.int d2), .val (.int s1), .val (.int s2), .val (.int (3 : Int32)), .val (.int (1 : Int32)), .val (.int (0 : Int32)), .val (.ref b241), .val (.ref b249), .unset, .unset] [])) rfl (hb hby at_239) (by decide : 2 + 1 ≤ _) (by decide : 6 + 4 ≤ _)
  obtain ⟨b261, g261⟩ : ∃ z, z = h259.size := ⟨_, rfl⟩
  rw [← g261] at A261 D261 st261 U261
  have g_b261 : n0 ≤ b261 := Nat.le_trans Z260 (Nat.le_of_eq g261.symm)
  have sz_b261 : h0.size ≤ b261 := Nat.le_trans Z260h (Nat.le_of_eq g261.symm)
  have lt_b241_b261 : b241 < b261 := Nat.lt_of_lt_of_le (c258.other W259 ne_b241_b249).lt (Nat.le_of_eq g261.symm)
  have ne_b241_b261 : b241 ≠ b261 := Nat.ne_of_lt lt_b241_b261
  have lt_b249_b261 : b249 < b261 := Nat.lt_of_lt_of_le V259.lt (Nat.le_of_eq g261.symm)
  have ne_b249_b261 : b249 ≠ b261 := Nat.ne_of_lt lt_b249_b261
  have Z262 : n0 ≤ h261.size := Nat.le_trans Z260 E261.1
  have Z262h : h0.size ≤ h261.size := Nat.le_trans Z260h E261.1
  have F_first_b261 : Fld Z h261 b261 "dev/chainlatch/bucket/Order" "first" "I" (.int (0 : Int32)) := D261 (Or.inl (hw _ (List.mem_of_getElem? (i := 13) rfl))) (ty := .int) (by decide)
  have F_last_b261 : Fld Z h261 b261 "dev/chainlatch/bucket/Order" "last" "I" (.int (0 : Int32)) := D261 (Or.inl (hw _ (List.mem_of_getElem? (i := 15) rfl))) (ty := .int) (by decide)
  have F_before_b261 : Fld Z h261 b261 "dev/chainlatch/bucket/Order" "before" "[I" .null := D261 (Or.inl (hw _ (List.mem_of_getElem? (i := 17) rfl))) (ty := (.array .int)) (by decide)
  have F_after_b261 : Fld Z h261 b261 "dev/chainlatch/bucket/Order" "after" "[I" .null := D261 (Or.inl (hw _ (List.mem_of_getElem? (i := 19) rfl))) (ty := (.array .int)) (by decide)
  refine own_thr (a := T261.setTop (mkF m 242 #[.val (.int p0), .val (.int p1), .val (.int p2), .val (.int p3), .val (.int p4), .val (.int p5), .val (.int n), .val (.int s0), .val (.int d1), .val (.int tt), .val (.int d2), .val (.int s1), .val (.int s2), .val (.int (3 : Int32)), .val (.int (1 : Int32)), .val (.int (0 : Int32)), .val (.ref b241), .val (.ref b249), .unset, .unset] [(.ref b261)])) (fun t kt => st261 t kt) ?_
  refine own_thr (a := T261.setTop (mkF m 245 #[.val (.int p0), .val (.int p1), .val (.int p2), .val (.int p3), .val (.int p4), .val (.int p5), .val (.int n), .val (.int s0), .val (.int d1), .val (.int tt), .val (.int d2), .val (.int s1), .val (.int s2), .val (.int (3 : Int32)), .val (.int (1 : Int32)), .val (.int (0 : Int32)), .val (.ref b241), .val (.ref b249), .unset, .unset] [(.int n), (.ref b261), (.ref b261)])) (fun t kt => ?_) ?_
  · show Steps p.tables e below (T261.setTop (mkF m 242 #[.val (.int p0), .val (.int p1), .val (.int p2), .val (.int p3), .val (.int p4), .val (.int p5), .val (.int n), .val (.int s0), .val (.int d1), .val (.int tt), .val (.int d2), .val (.int s1), .val (.int s2), .val (.int (3 : Int32)), .val (.int (1 : Int32)), .val (.int (0 : Int32)), .val (.ref b241), .val (.ref b249), .unset, .unset] [(.ref b261)])) _
    refine XS.dup X261.here hx rfl (hb hby at_242) rfl rfl ?_
    refine XS.iload X261.here hx rfl (hb hby at_243) rfl ?_
    exact kt
  obtain ⟨_, _, ⟨T263, L263, k263, n263⟩, -, X263, ⟨Lc263, hQ263, l263, y263, z263⟩, st263⟩ := X261.specialBack hx (y := (⟨"dev/chainlatch/bucket/Order", "<init>", "(I)V"⟩ : MethodName)) rfl hown (mvT hZ (hw _ (List.mem_of_getElem? (i := 6) rfl))) (mvT hZ (hw _ (List.mem_of_getElem? (i := 7) rfl))) (mvT hZ (hw _ (List.mem_of_getElem? (i := 8) rfl))) (by decide) (backOf (W := 1) (rmI l Z a0 hw [] b261 n h261 n0 Z262 A261 F_first_b261 F_last_b261 F_before_b261 F_after_b261 g_b261 hn0 hn1) hZ (hw _ (List.mem_of_getElem? (i := 8) rfl)) (hw _ (List.mem_of_getElem? (i := 5) rfl)) (by decide) (by decide)) (g := (mkF m 245 #[.val (.int p0), .val (.int p1), .val (.int p2), .val (.int p3), .val (.int p4), .val (.int p5), .val (.int n), .val (.int s0), .val (.int d1), .val (.int tt), .val (.int d2), .val (.int s1), .val (.int s2), .val (.int (3 : Int32)), .val (.int (1 : Int32)), .val (.int (0 : Int32)), .val (.ref b241), .val (.ref b249), .unset, .unset] [(.int n), (.ref b261), (.ref b261)])) rfl (by rw [hml]; rfl) (Steps.refl _) (a := b261) (argsL := [(.int n)]) (rest := [(.ref b261)]) (lenOf pd__28I_29V rfl) rfl (by show 2 * 0 + _ ≤ _; exact Nat.le_of_eq rfl) (hb hby at_245) (fun _ _ => ⟨rfl, e261, (by decide : 3 + 2 ≤ _), (by decide : 10 + 20 ≤ _)⟩)
  dsimp only [Pt.U, Pt.locs, Pt.cells, Pt.slots] at X263 l263 y263 z263 st263 hQ263
  obtain ⟨B263, A263, rfl, N263q, K263, o263_e, o263_f, o263_l, o263_b, o263_a, o263_B, o263_A, hB263, hBA263⟩ := hQ263
  have ne_b241_B263 : b241 ≠ B263 := Nat.ne_of_lt (Nat.lt_of_lt_of_le ((c258.other W259 ne_b241_b249).ext E261).lt hB263)
  have ne_b241_A263 : b241 ≠ A263 := Nat.ne_of_lt (Nat.lt_trans (Nat.lt_of_lt_of_le ((c258.other W259 ne_b241_b249).ext E261).lt hB263) hBA263)
  have ne_b249_B263 : b249 ≠ B263 := Nat.ne_of_lt (Nat.lt_of_lt_of_le (V259.ext E261).lt hB263)
  have ne_b249_A263 : b249 ≠ A263 := Nat.ne_of_lt (Nat.lt_trans (Nat.lt_of_lt_of_le (V259.ext E261).lt hB263) hBA263)
  have ne_b261_B263 : b261 ≠ B263 := Nat.ne_of_lt (Nat.lt_of_lt_of_le A261.lt hB263)
  have ne_b261_A263 : b261 ≠ A263 := Nat.ne_of_lt (Nat.lt_trans (Nat.lt_of_lt_of_le A261.lt hB263) hBA263)
  have ne_B263_A263 : B263 ≠ A263 := Nat.ne_of_lt hBA263
  have g_B263 : n0 ≤ B263 := Nat.le_trans Z262 hB263
  have g_A263 : n0 ≤ A263 := Nat.le_trans g_B263 (Nat.le_of_lt hBA263)
  have Z264 : n0 ≤ T263.heap.size := Nat.le_trans Z262 K263.1
  have Z264h : h0.size ≤ T263.heap.size := Nat.le_trans Z262h K263.1
  obtain ⟨lc263, X263, N263⟩ := own_pack X263 l263 y263 z263 N259 N263q (C := 5) (S' := 30) rfl rfl
  refine own_thr (a := T263.setTop (mkF m 248 #[.val (.int p0), .val (.int p1), .val (.int p2), .val (.int p3), .val (.int p4), .val (.int p5), .val (.int n), .val (.int s0), .val (.int d1), .val (.int tt), .val (.int d2), .val (.int s1), .val (.int s2), .val (.int (3 : Int32)), .val (.int (1 : Int32)), .val (.int (0 : Int32)), .val (.ref b241), .val (.ref b249), .unset, .unset] [(.ref b261)])) (fun t kt => st263.trans kt) ?_
  refine own_thr (a := T263.setTop (mkF m 255 #[.val (.int p0), .val (.int p1), .val (.int p2), .val (.int p3), .val (.int p4), .val (.int p5), .val (.int n), .val (.int s0), .val (.int d1), .val (.int tt), .val (.int d2), .val (.int s1), .val (.int s2), .val (.int (3 : Int32)), .val (.int (1 : Int32)), .val (.int (0 : Int32)), .val (.ref b241), .val (.ref b249), .val (.ref b261), .unset] [(.int (0 : Int32)), (.ref b241), (.ref b261)])) (fun t kt => ?_) ?_
  · show Steps p.tables e below (T263.setTop (mkF m 248 #[.val (.int p0), .val (.int p1), .val (.int p2), .val (.int p3), .val (.int p4), .val (.int p5), .val (.int n), .val (.int s0), .val (.int d1), .val (.int tt), .val (.int d2), .val (.int s1), .val (.int s2), .val (.int (3 : Int32)), .val (.int (1 : Int32)), .val (.int (0 : Int32)), .val (.ref b241), .val (.ref b249), .unset, .unset] [(.ref b261)])) _
    refine XS.astore X263.here hx rfl (hb hby at_248) rfl rfl (l' := #[.val (.int p0), .val (.int p1), .val (.int p2), .val (.int p3), .val (.int p4), .val (.int p5), .val (.int n), .val (.int s0), .val (.int d1), .val (.int tt), .val (.int d2), .val (.int s1), .val (.int s2), .val (.int (3 : Int32)), .val (.int (1 : Int32)), .val (.int (0 : Int32)), .val (.ref b241), .val (.ref b249), .val (.ref b261), .unset]) rfl ?_
    refine XS.aload X263.here hx rfl (hb hby at_250) rfl rfl ?_
    refine XS.aload X263.here hx rfl (hb hby at_252) rfl rfl ?_
    refine XS.iconst X263.here hx rfl (hb hby at_254) ?_
    exact kt
  have c266 := (((c258.other W259 ne_b241_b249).ext E261).keep K263 (ninS ne_b241_b261 nin0))
  obtain ⟨cl265, Ar265, -, S265, M265, H265, -⟩ := id c266
  have hin265 : ¬ ((0 : Int32) < 0 ∨ cl265.slots.size ≤ ((0 : Int32)).toNatClampNeg) := inb_of S265 ⟨by decide, by decide⟩
  have hat265 : cl265.slots[((0 : Int32)).toNatClampNeg]? = some (.int s0) := Has.at H265 hin265 rfl
  refine own_thr (a := T263.setTop (mkF m 256 #[.val (.int p0), .val (.int p1), .val (.int p2), .val (.int p3), .val (.int p4), .val (.int p5), .val (.int n), .val (.int s0), .val (.int d1), .val (.int tt), .val (.int d2), .val (.int s1), .val (.int s2), .val (.int (3 : Int32)), .val (.int (1 : Int32)), .val (.int (0 : Int32)), .val (.ref b241), .val (.ref b249), .val (.ref b261), .unset] [(.int s0), (.ref b261)])) (fun t kt => ?_) ?_
  · show Steps p.tables e below (T263.setTop (mkF m 255 #[.val (.int p0), .val (.int p1), .val (.int p2), .val (.int p3), .val (.int p4), .val (.int p5), .val (.int n), .val (.int s0), .val (.int d1), .val (.int tt), .val (.int d2), .val (.int s1), .val (.int s2), .val (.int (3 : Int32)), .val (.int (1 : Int32)), .val (.int (0 : Int32)), .val (.ref b241), .val (.ref b249), .val (.ref b261), .unset] [(.int (0 : Int32)), (.ref b241), (.ref b261)])) _
    refine X263.iaload hx (j := (0 : Int32)) (v := (.int s0)) Ar265.1 (State.isArrayOf_alike hZ.alike Ar265.2.1) Ar265.2.2 hin265 hat265 (g := (mkF m 255 #[.val (.int p0), .val (.int p1), .val (.int p2), .val (.int p3), .val (.int p4), .val (.int p5), .val (.int n), .val (.int s0), .val (.int d1), .val (.int tt), .val (.int d2), .val (.int s1), .val (.int s2), .val (.int (3 : Int32)), .val (.int (1 : Int32)), .val (.int (0 : Int32)), .val (.ref b241), .val (.ref b249), .val (.ref b261), .unset] [(.int (0 : Int32)), (.ref b241), (.ref b261)])) rfl rfl (hb hby at_255) _ ?_
    exact kt
  obtain ⟨cq267, kq267, q267a, q267b, q267c⟩ := isOf hZ rfl o263_e
  obtain ⟨_, _, ⟨T267, L267, k267, n267⟩, -, X267, ⟨Lc267, hQ267, l267, y267, z267⟩, st267⟩ := X263.virtualBack hx (y := (⟨"dev/chainlatch/bucket/Order", "append", "(I)V"⟩ : MethodName)) (z := (⟨"dev/chainlatch/bucket/Order", "append", "(I)V"⟩ : MethodName)) hown (mvT hZ (hw _ (List.mem_of_getElem? (i := 20) rfl))) (mvT hZ (hw _ (List.mem_of_getElem? (i := 21) rfl))) (notFace_of_selects (args := #[]) (mvT hZ (hw _ (List.mem_of_getElem? (i := 23) rfl)))) (mvT hZ (hw _ (List.mem_of_getElem? (i := 23) rfl))) (mvT hZ (hw _ (List.mem_of_getElem? (i := 22) rfl))) (by decide) (backOf (W := 0) (rmA1 l Z a0 hw [] b261 s0 B263 A263 n (-1 : Int32) (-1 : Int32) (fun _ => 0) (fun _ => 0) T263.heap n0 Z264 o263_e o263_f o263_l o263_b o263_a o263_B o263_A g_b261 g_B263 g_A263 ne_b261_B263 ne_b261_A263 ne_B263_A263 hs00 hs01 rfl) hZ (hw _ (List.mem_of_getElem? (i := 24) rfl)) (hw _ (List.mem_of_getElem? (i := 5) rfl)) (by decide) (by decide)) q267a q267c (g := (mkF m 256 #[.val (.int p0), .val (.int p1), .val (.int p2), .val (.int p3), .val (.int p4), .val (.int p5), .val (.int n), .val (.int s0), .val (.int d1), .val (.int tt), .val (.int d2), .val (.int s1), .val (.int s2), .val (.int (3 : Int32)), .val (.int (1 : Int32)), .val (.int (0 : Int32)), .val (.ref b241), .val (.ref b249), .val (.ref b261), .unset] [(.int s0), (.ref b261)])) rfl (by rw [hml]; rfl) (Steps.refl _) (argsL := [(.int s0)]) (rest := []) (lenOf pd__28I_29V rfl) rfl (by show 2 * 0 + _ ≤ _; exact Nat.le_of_eq rfl) (hb hby at_256) (fun _ _ => ⟨rfl, rfl, (by decide : 5 + 0 ≤ _), (by decide : 30 + 0 ≤ _)⟩)
  dsimp only [Pt.U, Pt.locs, Pt.cells, Pt.slots] at X267 l267 y267 z267 st267 hQ267
  obtain ⟨rfl, N267q, K267, o267_0, o267_1, o267_2, o267_3, o267_4, o267_5, o267_6⟩ := hQ267
  have Z268 : n0 ≤ T267.heap.size := Nat.le_trans Z264 K267.1
  have Z268h : h0.size ≤ T267.heap.size := Nat.le_trans Z264h K267.1
  obtain ⟨lc267, X267, N267⟩ := own_pack X267 l267 y267 z267 N263 N267q (C := 5) (S' := 30) rfl rfl
  refine own_thr (a := T267.setTop (mkF m 259 #[.val (.int p0), .val (.int p1), .val (.int p2), .val (.int p3), .val (.int p4), .val (.int p5), .val (.int n), .val (.int s0), .val (.int d1), .val (.int tt), .val (.int d2), .val (.int s1), .val (.int s2), .val (.int (3 : Int32)), .val (.int (1 : Int32)), .val (.int (0 : Int32)), .val (.ref b241), .val (.ref b249), .val (.ref b261), .unset] [])) (fun t kt => st267.trans kt) ?_
  refine own_thr (a := T267.setTop (mkF m 270 #[.val (.int p0), .val (.int p1), .val (.int p2), .val (.int p3), .val (.int p4), .val (.int p5), .val (.int n), .val (.int s0), .val (.int d1), .val (.int tt), .val (.int d2), .val (.int s1), .val (.int s2), .val (.int (3 : Int32)), .val (.int (1 : Int32)), .val (.int (0 : Int32)), .val (.ref b241), .val (.ref b249), .val (.ref b261), .unset] [(.int (1 : Int32)), (.ref b241), (.ref b261)])) (fun t kt => ?_) ?_
  · show Steps p.tables e below (T267.setTop (mkF m 259 #[.val (.int p0), .val (.int p1), .val (.int p2), .val (.int p3), .val (.int p4), .val (.int p5), .val (.int n), .val (.int s0), .val (.int d1), .val (.int tt), .val (.int d2), .val (.int s1), .val (.int s2), .val (.int (3 : Int32)), .val (.int (1 : Int32)), .val (.int (0 : Int32)), .val (.ref b241), .val (.ref b249), .val (.ref b261), .unset] [])) _
    refine XS.iload X267.here hx rfl (hb hby at_259) rfl ?_
    refine XS.iconst X267.here hx rfl (hb hby at_261) ?_
    refine XS.icmpNo X267.here hx rfl (hb hby at_262) rfl (tlt (by decide)).2.2.2 ?_
    refine XS.aload X267.here hx rfl (hb hby at_265) rfl rfl ?_
    refine XS.aload X267.here hx rfl (hb hby at_267) rfl rfl ?_
    refine XS.iconst X267.here hx rfl (hb hby at_269) ?_
    exact kt
  have c270 := (c266.keep K267 (ninS ne_b241_b261 (ninS ne_b241_B263 (ninS ne_b241_A263 nin0))))
  obtain ⟨cl269, Ar269, -, S269, M269, H269, -⟩ := id c270
  have hin269 : ¬ ((1 : Int32) < 0 ∨ cl269.slots.size ≤ ((1 : Int32)).toNatClampNeg) := inb_of S269 ⟨by decide, by decide⟩
  have hat269 : cl269.slots[((1 : Int32)).toNatClampNeg]? = some (.int s1) := Has.at H269 hin269 rfl
  refine own_thr (a := T267.setTop (mkF m 271 #[.val (.int p0), .val (.int p1), .val (.int p2), .val (.int p3), .val (.int p4), .val (.int p5), .val (.int n), .val (.int s0), .val (.int d1), .val (.int tt), .val (.int d2), .val (.int s1), .val (.int s2), .val (.int (3 : Int32)), .val (.int (1 : Int32)), .val (.int (0 : Int32)), .val (.ref b241), .val (.ref b249), .val (.ref b261), .unset] [(.int s1), (.ref b261)])) (fun t kt => ?_) ?_
  · show Steps p.tables e below (T267.setTop (mkF m 270 #[.val (.int p0), .val (.int p1), .val (.int p2), .val (.int p3), .val (.int p4), .val (.int p5), .val (.int n), .val (.int s0), .val (.int d1), .val (.int tt), .val (.int d2), .val (.int s1), .val (.int s2), .val (.int (3 : Int32)), .val (.int (1 : Int32)), .val (.int (0 : Int32)), .val (.ref b241), .val (.ref b249), .val (.ref b261), .unset] [(.int (1 : Int32)), (.ref b241), (.ref b261)])) _
    refine X267.iaload hx (j := (1 : Int32)) (v := (.int s1)) Ar269.1 (State.isArrayOf_alike hZ.alike Ar269.2.1) Ar269.2.2 hin269 hat269 (g := (mkF m 270 #[.val (.int p0), .val (.int p1), .val (.int p2), .val (.int p3), .val (.int p4), .val (.int p5), .val (.int n), .val (.int s0), .val (.int d1), .val (.int tt), .val (.int d2), .val (.int s1), .val (.int s2), .val (.int (3 : Int32)), .val (.int (1 : Int32)), .val (.int (0 : Int32)), .val (.ref b241), .val (.ref b249), .val (.ref b261), .unset] [(.int (1 : Int32)), (.ref b241), (.ref b261)])) rfl rfl (hb hby at_270) _ ?_
    exact kt
  obtain ⟨cq271, kq271, q271a, q271b, q271c⟩ := isOf hZ rfl o267_0
  obtain ⟨_, _, ⟨T271, L271, k271, n271⟩, -, X271, ⟨Lc271, hQ271, l271, y271, z271⟩, st271⟩ := X267.virtualBack hx (y := (⟨"dev/chainlatch/bucket/Order", "append", "(I)V"⟩ : MethodName)) (z := (⟨"dev/chainlatch/bucket/Order", "append", "(I)V"⟩ : MethodName)) hown (mvT hZ (hw _ (List.mem_of_getElem? (i := 20) rfl))) (mvT hZ (hw _ (List.mem_of_getElem? (i := 21) rfl))) (notFace_of_selects (args := #[]) (mvT hZ (hw _ (List.mem_of_getElem? (i := 23) rfl)))) (mvT hZ (hw _ (List.mem_of_getElem? (i := 23) rfl))) (mvT hZ (hw _ (List.mem_of_getElem? (i := 22) rfl))) (by decide) (backOf (W := 0) (rmA2 l Z a0 hw [] b261 s1 B263 A263 n s0 s0 (own_up (fun _ => 0) s0 ((-1 : Int32) + (1 : Int32))) (own_up (fun _ => 0) s0 (0 : Int32)) T267.heap n0 Z268 o267_0 o267_1 o267_2 o267_3 o267_4 o267_5 o267_6 g_b261 g_B263 g_A263 ne_b261_B263 ne_b261_A263 ne_B263_A263 hs10 hs11 hs00 hs01) hZ (hw _ (List.mem_of_getElem? (i := 24) rfl)) (hw _ (List.mem_of_getElem? (i := 5) rfl)) (by decide) (by decide)) q271a q271c (g := (mkF m 271 #[.val (.int p0), .val (.int p1), .val (.int p2), .val (.int p3), .val (.int p4), .val (.int p5), .val (.int n), .val (.int s0), .val (.int d1), .val (.int tt), .val (.int d2), .val (.int s1), .val (.int s2), .val (.int (3 : Int32)), .val (.int (1 : Int32)), .val (.int (0 : Int32)), .val (.ref b241), .val (.ref b249), .val (.ref b261), .unset] [(.int s1), (.ref b261)])) rfl (by rw [hml]; rfl) (Steps.refl _) (argsL := [(.int s1)]) (rest := []) (lenOf pd__28I_29V rfl) rfl (by show 2 * 0 + _ ≤ _; exact Nat.le_of_eq rfl) (hb hby at_271) (fun _ _ => ⟨rfl, rfl, (by decide : 5 + 0 ≤ _), (by decide : 30 + 0 ≤ _)⟩)
  dsimp only [Pt.U, Pt.locs, Pt.cells, Pt.slots] at X271 l271 y271 z271 st271 hQ271
  obtain ⟨rfl, N271q, K271, o271_0, o271_1, o271_2, o271_3, o271_4, o271_5, o271_6⟩ := hQ271
  have Z272 : n0 ≤ T271.heap.size := Nat.le_trans Z268 K271.1
  have Z272h : h0.size ≤ T271.heap.size := Nat.le_trans Z268h K271.1
  obtain ⟨lc271, X271, N271⟩ := own_pack X271 l271 y271 z271 N267 N271q (C := 5) (S' := 30) rfl rfl
  refine own_thr (a := T271.setTop (mkF m 274 #[.val (.int p0), .val (.int p1), .val (.int p2), .val (.int p3), .val (.int p4), .val (.int p5), .val (.int n), .val (.int s0), .val (.int d1), .val (.int tt), .val (.int d2), .val (.int s1), .val (.int s2), .val (.int (3 : Int32)), .val (.int (1 : Int32)), .val (.int (0 : Int32)), .val (.ref b241), .val (.ref b249), .val (.ref b261), .unset] [])) (fun t kt => st271.trans kt) ?_
  refine own_thr (a := T271.setTop (mkF m 285 #[.val (.int p0), .val (.int p1), .val (.int p2), .val (.int p3), .val (.int p4), .val (.int p5), .val (.int n), .val (.int s0), .val (.int d1), .val (.int tt), .val (.int d2), .val (.int s1), .val (.int s2), .val (.int (3 : Int32)), .val (.int (1 : Int32)), .val (.int (0 : Int32)), .val (.ref b241), .val (.ref b249), .val (.ref b261), .unset] [(.int (2 : Int32)), (.ref b241), (.ref b261)])) (fun t kt => ?_) ?_
  · show Steps p.tables e below (T271.setTop (mkF m 274 #[.val (.int p0), .val (.int p1), .val (.int p2), .val (.int p3), .val (.int p4), .val (.int p5), .val (.int n), .val (.int s0), .val (.int d1), .val (.int tt), .val (.int d2), .val (.int s1), .val (.int s2), .val (.int (3 : Int32)), .val (.int (1 : Int32)), .val (.int (0 : Int32)), .val (.ref b241), .val (.ref b249), .val (.ref b261), .unset] [])) _
    refine XS.iload X271.here hx rfl (hb hby at_274) rfl ?_
    refine XS.iconst X271.here hx rfl (hb hby at_276) ?_
    refine XS.icmpNo X271.here hx rfl (hb hby at_277) rfl (tlt (by decide)).2.2.2 ?_
    refine XS.aload X271.here hx rfl (hb hby at_280) rfl rfl ?_
    refine XS.aload X271.here hx rfl (hb hby at_282) rfl rfl ?_
    refine XS.iconst X271.here hx rfl (hb hby at_284) ?_
    exact kt
  have c274 := (c270.keep K271 (ninS ne_b241_b261 (ninS ne_b241_B263 (ninS ne_b241_A263 nin0))))
  obtain ⟨cl273, Ar273, -, S273, M273, H273, -⟩ := id c274
  have hin273 : ¬ ((2 : Int32) < 0 ∨ cl273.slots.size ≤ ((2 : Int32)).toNatClampNeg) := inb_of S273 ⟨by decide, by decide⟩
  have hat273 : cl273.slots[((2 : Int32)).toNatClampNeg]? = some (.int s2) := Has.at H273 hin273 rfl
  refine own_thr (a := T271.setTop (mkF m 286 #[.val (.int p0), .val (.int p1), .val (.int p2), .val (.int p3), .val (.int p4), .val (.int p5), .val (.int n), .val (.int s0), .val (.int d1), .val (.int tt), .val (.int d2), .val (.int s1), .val (.int s2), .val (.int (3 : Int32)), .val (.int (1 : Int32)), .val (.int (0 : Int32)), .val (.ref b241), .val (.ref b249), .val (.ref b261), .unset] [(.int s2), (.ref b261)])) (fun t kt => ?_) ?_
  · show Steps p.tables e below (T271.setTop (mkF m 285 #[.val (.int p0), .val (.int p1), .val (.int p2), .val (.int p3), .val (.int p4), .val (.int p5), .val (.int n), .val (.int s0), .val (.int d1), .val (.int tt), .val (.int d2), .val (.int s1), .val (.int s2), .val (.int (3 : Int32)), .val (.int (1 : Int32)), .val (.int (0 : Int32)), .val (.ref b241), .val (.ref b249), .val (.ref b261), .unset] [(.int (2 : Int32)), (.ref b241), (.ref b261)])) _
    refine X271.iaload hx (j := (2 : Int32)) (v := (.int s2)) Ar273.1 (State.isArrayOf_alike hZ.alike Ar273.2.1) Ar273.2.2 hin273 hat273 (g := (mkF m 285 #[.val (.int p0), .val (.int p1), .val (.int p2), .val (.int p3), .val (.int p4), .val (.int p5), .val (.int n), .val (.int s0), .val (.int d1), .val (.int tt), .val (.int d2), .val (.int s1), .val (.int s2), .val (.int (3 : Int32)), .val (.int (1 : Int32)), .val (.int (0 : Int32)), .val (.ref b241), .val (.ref b249), .val (.ref b261), .unset] [(.int (2 : Int32)), (.ref b241), (.ref b261)])) rfl rfl (hb hby at_285) _ ?_
    exact kt
  obtain ⟨cq275, kq275, q275a, q275b, q275c⟩ := isOf hZ rfl o271_0
  obtain ⟨_, _, ⟨T275, L275, k275, n275⟩, -, X275, ⟨Lc275, hQ275, l275, y275, z275⟩, st275⟩ := X271.virtualBack hx (y := (⟨"dev/chainlatch/bucket/Order", "append", "(I)V"⟩ : MethodName)) (z := (⟨"dev/chainlatch/bucket/Order", "append", "(I)V"⟩ : MethodName)) hown (mvT hZ (hw _ (List.mem_of_getElem? (i := 20) rfl))) (mvT hZ (hw _ (List.mem_of_getElem? (i := 21) rfl))) (notFace_of_selects (args := #[]) (mvT hZ (hw _ (List.mem_of_getElem? (i := 23) rfl)))) (mvT hZ (hw _ (List.mem_of_getElem? (i := 23) rfl))) (mvT hZ (hw _ (List.mem_of_getElem? (i := 22) rfl))) (by decide) (backOf (W := 0) (rmA2 l Z a0 hw [] b261 s2 B263 A263 n s0 s1 (own_up (own_up (fun _ => 0) s0 ((-1 : Int32) + (1 : Int32))) s1 (s0 + (1 : Int32))) (own_up (own_up (own_up (fun _ => 0) s0 (0 : Int32)) s1 (0 : Int32)) s0 (s1 + (1 : Int32))) T271.heap n0 Z272 o271_0 o271_1 o271_2 o271_3 o271_4 o271_5 o271_6 g_b261 g_B263 g_A263 ne_b261_B263 ne_b261_A263 ne_B263_A263 hs20 hs21 hs10 hs11) hZ (hw _ (List.mem_of_getElem? (i := 24) rfl)) (hw _ (List.mem_of_getElem? (i := 5) rfl)) (by decide) (by decide)) q275a q275c (g := (mkF m 286 #[.val (.int p0), .val (.int p1), .val (.int p2), .val (.int p3), .val (.int p4), .val (.int p5), .val (.int n), .val (.int s0), .val (.int d1), .val (.int tt), .val (.int d2), .val (.int s1), .val (.int s2), .val (.int (3 : Int32)), .val (.int (1 : Int32)), .val (.int (0 : Int32)), .val (.ref b241), .val (.ref b249), .val (.ref b261), .unset] [(.int s2), (.ref b261)])) rfl (by rw [hml]; rfl) (Steps.refl _) (argsL := [(.int s2)]) (rest := []) (lenOf pd__28I_29V rfl) rfl (by show 2 * 0 + _ ≤ _; exact Nat.le_of_eq rfl) (hb hby at_286) (fun _ _ => ⟨rfl, rfl, (by decide : 5 + 0 ≤ _), (by decide : 30 + 0 ≤ _)⟩)
  dsimp only [Pt.U, Pt.locs, Pt.cells, Pt.slots] at X275 l275 y275 z275 st275 hQ275
  obtain ⟨rfl, N275q, K275, o275_0, o275_1, o275_2, o275_3, o275_4, o275_5, o275_6⟩ := hQ275
  have Z276 : n0 ≤ T275.heap.size := Nat.le_trans Z272 K275.1
  have Z276h : h0.size ≤ T275.heap.size := Nat.le_trans Z272h K275.1
  obtain ⟨lc275, X275, N275⟩ := own_pack X275 l275 y275 z275 N271 N275q (C := 5) (S' := 30) rfl rfl
  refine own_thr (a := T275.setTop (mkF m 289 #[.val (.int p0), .val (.int p1), .val (.int p2), .val (.int p3), .val (.int p4), .val (.int p5), .val (.int n), .val (.int s0), .val (.int d1), .val (.int tt), .val (.int d2), .val (.int s1), .val (.int s2), .val (.int (3 : Int32)), .val (.int (1 : Int32)), .val (.int (0 : Int32)), .val (.ref b241), .val (.ref b249), .val (.ref b261), .unset] [])) (fun t kt => st275.trans kt) ?_
  refine own_thr (a := T275.setTop (mkF m 300 #[.val (.int p0), .val (.int p1), .val (.int p2), .val (.int p3), .val (.int p4), .val (.int p5), .val (.int n), .val (.int s0), .val (.int d1), .val (.int tt), .val (.int d2), .val (.int s1), .val (.int s2), .val (.int (3 : Int32)), .val (.int (1 : Int32)), .val (.int (0 : Int32)), .val (.ref b241), .val (.ref b249), .val (.ref b261), .unset] [(.int (0 : Int32)), (.ref b241), (.ref b261)])) (fun t kt => ?_) ?_
  · show Steps p.tables e below (T275.setTop (mkF m 289 #[.val (.int p0), .val (.int p1), .val (.int p2), .val (.int p3), .val (.int p4), .val (.int p5), .val (.int n), .val (.int s0), .val (.int d1), .val (.int tt), .val (.int d2), .val (.int s1), .val (.int s2), .val (.int (3 : Int32)), .val (.int (1 : Int32)), .val (.int (0 : Int32)), .val (.ref b241), .val (.ref b249), .val (.ref b261), .unset] [])) _
    refine XS.iload X275.here hx rfl (hb hby at_289) rfl ?_
    refine XS.ifNo X275.here hx rfl (hb hby at_291) rfl ((if0 _ _).trans (feq (by decide)).1) ?_
    refine XS.aload X275.here hx rfl (hb hby at_294) rfl rfl ?_
    refine XS.aload X275.here hx rfl (hb hby at_296) rfl rfl ?_
    refine XS.iload X275.here hx rfl (hb hby at_298) rfl ?_
    exact kt
  have c278 := (c274.keep K275 (ninS ne_b241_b261 (ninS ne_b241_B263 (ninS ne_b241_A263 nin0))))
  obtain ⟨cl277, Ar277, -, S277, M277, H277, -⟩ := id c278
  have hin277 : ¬ ((0 : Int32) < 0 ∨ cl277.slots.size ≤ ((0 : Int32)).toNatClampNeg) := inb_of S277 ⟨by decide, by decide⟩
  have hat277 : cl277.slots[((0 : Int32)).toNatClampNeg]? = some (.int s0) := Has.at H277 hin277 rfl
  refine own_thr (a := T275.setTop (mkF m 301 #[.val (.int p0), .val (.int p1), .val (.int p2), .val (.int p3), .val (.int p4), .val (.int p5), .val (.int n), .val (.int s0), .val (.int d1), .val (.int tt), .val (.int d2), .val (.int s1), .val (.int s2), .val (.int (3 : Int32)), .val (.int (1 : Int32)), .val (.int (0 : Int32)), .val (.ref b241), .val (.ref b249), .val (.ref b261), .unset] [(.int s0), (.ref b261)])) (fun t kt => ?_) ?_
  · show Steps p.tables e below (T275.setTop (mkF m 300 #[.val (.int p0), .val (.int p1), .val (.int p2), .val (.int p3), .val (.int p4), .val (.int p5), .val (.int n), .val (.int s0), .val (.int d1), .val (.int tt), .val (.int d2), .val (.int s1), .val (.int s2), .val (.int (3 : Int32)), .val (.int (1 : Int32)), .val (.int (0 : Int32)), .val (.ref b241), .val (.ref b249), .val (.ref b261), .unset] [(.int (0 : Int32)), (.ref b241), (.ref b261)])) _
    refine X275.iaload hx (j := (0 : Int32)) (v := (.int s0)) Ar277.1 (State.isArrayOf_alike hZ.alike Ar277.2.1) Ar277.2.2 hin277 hat277 (g := (mkF m 300 #[.val (.int p0), .val (.int p1), .val (.int p2), .val (.int p3), .val (.int p4), .val (.int p5), .val (.int n), .val (.int s0), .val (.int d1), .val (.int tt), .val (.int d2), .val (.int s1), .val (.int s2), .val (.int (3 : Int32)), .val (.int (1 : Int32)), .val (.int (0 : Int32)), .val (.ref b241), .val (.ref b249), .val (.ref b261), .unset] [(.int (0 : Int32)), (.ref b241), (.ref b261)])) rfl rfl (hb hby at_300) _ ?_
    exact kt
  obtain ⟨cq279, kq279, q279a, q279b, q279c⟩ := isOf hZ rfl o275_0
  obtain ⟨_, _, ⟨T279, L279, k279, n279⟩, -, X279, ⟨Lc279, hQ279, l279, y279, z279⟩, st279⟩ := X275.virtualBack hx (y := (⟨"dev/chainlatch/bucket/Order", "remove", "(I)V"⟩ : MethodName)) (z := (⟨"dev/chainlatch/bucket/Order", "remove", "(I)V"⟩ : MethodName)) hown (mvT hZ (hw _ (List.mem_of_getElem? (i := 25) rfl))) (mvT hZ (hw _ (List.mem_of_getElem? (i := 26) rfl))) (notFace_of_selects (args := #[]) (mvT hZ (hw _ (List.mem_of_getElem? (i := 28) rfl)))) (mvT hZ (hw _ (List.mem_of_getElem? (i := 28) rfl))) (mvT hZ (hw _ (List.mem_of_getElem? (i := 27) rfl))) (by decide) (backOf (W := 0) (rmR01 l Z a0 hw [] b261 s0 B263 A263 n s0 s2 (own_up (own_up (own_up (fun _ => 0) s0 ((-1 : Int32) + (1 : Int32))) s1 (s0 + (1 : Int32))) s2 (s1 + (1 : Int32))) (own_up (own_up (own_up (own_up (own_up (fun _ => 0) s0 (0 : Int32)) s1 (0 : Int32)) s0 (s1 + (1 : Int32))) s2 (0 : Int32)) s1 (s2 + (1 : Int32))) T275.heap n0 Z276 o275_0 o275_1 o275_2 o275_3 o275_4 o275_5 o275_6 g_b261 g_B263 g_A263 ne_b261_B263 ne_b261_A263 ne_B263_A263 hs00 hs01 (by simp [own_up, own_as, n01, n10, n02, n20, n12, n21] : (((own_up (own_up (own_up (fun _ => 0) s0 ((-1 : Int32) + (1 : Int32))) s1 (s0 + (1 : Int32))) s2 (s1 + (1 : Int32))) s0) - (1 : Int32)) = (-1 : Int32)) (by rw [show (((own_up (own_up (own_up (own_up (own_up (fun _ => 0) s0 (0 : Int32)) s1 (0 : Int32)) s0 (s1 + (1 : Int32))) s2 (0 : Int32)) s1 (s2 + (1 : Int32))) s0) - (1 : Int32)) = s1 by simp [own_up, own_as, n01, n10, n02, n20, n12, n21]]; exact hs10) (by rw [show (((own_up (own_up (own_up (own_up (own_up (fun _ => 0) s0 (0 : Int32)) s1 (0 : Int32)) s0 (s1 + (1 : Int32))) s2 (0 : Int32)) s1 (s2 + (1 : Int32))) s0) - (1 : Int32)) = s1 by simp [own_up, own_as, n01, n10, n02, n20, n12, n21]]; exact hs11)) hZ (hw _ (List.mem_of_getElem? (i := 29) rfl)) (hw _ (List.mem_of_getElem? (i := 5) rfl)) (by decide) (by decide)) q279a q279c (g := (mkF m 301 #[.val (.int p0), .val (.int p1), .val (.int p2), .val (.int p3), .val (.int p4), .val (.int p5), .val (.int n), .val (.int s0), .val (.int d1), .val (.int tt), .val (.int d2), .val (.int s1), .val (.int s2), .val (.int (3 : Int32)), .val (.int (1 : Int32)), .val (.int (0 : Int32)), .val (.ref b241), .val (.ref b249), .val (.ref b261), .unset] [(.int s0), (.ref b261)])) rfl (by rw [hml]; rfl) (Steps.refl _) (argsL := [(.int s0)]) (rest := []) (lenOf pd__28I_29V rfl) rfl (by show 2 * 0 + _ ≤ _; exact Nat.le_of_eq rfl) (hb hby at_301) (fun _ _ => ⟨rfl, rfl, (by decide : 5 + 0 ≤ _), (by decide : 30 + 0 ≤ _)⟩)
  dsimp only [Pt.U, Pt.locs, Pt.cells, Pt.slots] at X279 l279 y279 z279 st279 hQ279
  obtain ⟨rfl, N279q, K279, o279_0, o279_1, o279_2, o279_3, o279_4, o279_5, o279_6⟩ := hQ279
  have Z280 : n0 ≤ T279.heap.size := Nat.le_trans Z276 K279.1
  have Z280h : h0.size ≤ T279.heap.size := Nat.le_trans Z276h K279.1
  obtain ⟨lc279, X279, N279⟩ := own_pack X279 l279 y279 z279 N275 N279q (C := 5) (S' := 30) rfl rfl
  refine own_thr (a := T279.setTop (mkF m 304 #[.val (.int p0), .val (.int p1), .val (.int p2), .val (.int p3), .val (.int p4), .val (.int p5), .val (.int n), .val (.int s0), .val (.int d1), .val (.int tt), .val (.int d2), .val (.int s1), .val (.int s2), .val (.int (3 : Int32)), .val (.int (1 : Int32)), .val (.int (0 : Int32)), .val (.ref b241), .val (.ref b249), .val (.ref b261), .unset] [])) (fun t kt => st279.trans kt) ?_
  have el_first : (((own_up (own_up (own_up (own_up (own_up (fun _ => 0) s0 (0 : Int32)) s1 (0 : Int32)) s0 (s1 + (1 : Int32))) s2 (0 : Int32)) s1 (s2 + (1 : Int32))) s0) - (1 : Int32)) = s1 := by simp [own_up, own_as, n01, n10, n02, n20, n12, n21]
  rw [el_first] at o279_1
  refine own_thr (a := T279.setTop (mkF m 310 #[.val (.int p0), .val (.int p1), .val (.int p2), .val (.int p3), .val (.int p4), .val (.int p5), .val (.int n), .val (.int s0), .val (.int d1), .val (.int tt), .val (.int d2), .val (.int s1), .val (.int s2), .val (.int (3 : Int32)), .val (.int (1 : Int32)), .val (.int (0 : Int32)), .val (.ref b241), .val (.ref b249), .val (.ref b261), .unset] [(.int (0 : Int32)), (.ref b241), (.ref b261)])) (fun t kt => ?_) ?_
  · show Steps p.tables e below (T279.setTop (mkF m 304 #[.val (.int p0), .val (.int p1), .val (.int p2), .val (.int p3), .val (.int p4), .val (.int p5), .val (.int n), .val (.int s0), .val (.int d1), .val (.int tt), .val (.int d2), .val (.int s1), .val (.int s2), .val (.int (3 : Int32)), .val (.int (1 : Int32)), .val (.int (0 : Int32)), .val (.ref b241), .val (.ref b249), .val (.ref b261), .unset] [])) _
    refine XS.aload X279.here hx rfl (hb hby at_304) rfl rfl ?_
    refine XS.aload X279.here hx rfl (hb hby at_306) rfl rfl ?_
    refine XS.iload X279.here hx rfl (hb hby at_308) rfl ?_
    exact kt
  have c282 := (c278.keep K279 (ninS ne_b241_b261 (ninS ne_b241_B263 (ninS ne_b241_A263 nin0))))
  obtain ⟨cl281, Ar281, -, S281, M281, H281, -⟩ := id c282
  have hin281 : ¬ ((0 : Int32) < 0 ∨ cl281.slots.size ≤ ((0 : Int32)).toNatClampNeg) := inb_of S281 ⟨by decide, by decide⟩
  have hat281 : cl281.slots[((0 : Int32)).toNatClampNeg]? = some (.int s0) := Has.at H281 hin281 rfl
  refine own_thr (a := T279.setTop (mkF m 311 #[.val (.int p0), .val (.int p1), .val (.int p2), .val (.int p3), .val (.int p4), .val (.int p5), .val (.int n), .val (.int s0), .val (.int d1), .val (.int tt), .val (.int d2), .val (.int s1), .val (.int s2), .val (.int (3 : Int32)), .val (.int (1 : Int32)), .val (.int (0 : Int32)), .val (.ref b241), .val (.ref b249), .val (.ref b261), .unset] [(.int s0), (.ref b261)])) (fun t kt => ?_) ?_
  · show Steps p.tables e below (T279.setTop (mkF m 310 #[.val (.int p0), .val (.int p1), .val (.int p2), .val (.int p3), .val (.int p4), .val (.int p5), .val (.int n), .val (.int s0), .val (.int d1), .val (.int tt), .val (.int d2), .val (.int s1), .val (.int s2), .val (.int (3 : Int32)), .val (.int (1 : Int32)), .val (.int (0 : Int32)), .val (.ref b241), .val (.ref b249), .val (.ref b261), .unset] [(.int (0 : Int32)), (.ref b241), (.ref b261)])) _
    refine X279.iaload hx (j := (0 : Int32)) (v := (.int s0)) Ar281.1 (State.isArrayOf_alike hZ.alike Ar281.2.1) Ar281.2.2 hin281 hat281 (g := (mkF m 310 #[.val (.int p0), .val (.int p1), .val (.int p2), .val (.int p3), .val (.int p4), .val (.int p5), .val (.int n), .val (.int s0), .val (.int d1), .val (.int tt), .val (.int d2), .val (.int s1), .val (.int s2), .val (.int (3 : Int32)), .val (.int (1 : Int32)), .val (.int (0 : Int32)), .val (.ref b241), .val (.ref b249), .val (.ref b261), .unset] [(.int (0 : Int32)), (.ref b241), (.ref b261)])) rfl rfl (hb hby at_310) _ ?_
    exact kt
  obtain ⟨cq283, kq283, q283a, q283b, q283c⟩ := isOf hZ rfl o279_0
  obtain ⟨_, _, ⟨T283, L283, k283, n283⟩, -, X283, ⟨Lc283, hQ283, l283, y283, z283⟩, st283⟩ := X279.virtualBack hx (y := (⟨"dev/chainlatch/bucket/Order", "append", "(I)V"⟩ : MethodName)) (z := (⟨"dev/chainlatch/bucket/Order", "append", "(I)V"⟩ : MethodName)) hown (mvT hZ (hw _ (List.mem_of_getElem? (i := 20) rfl))) (mvT hZ (hw _ (List.mem_of_getElem? (i := 21) rfl))) (notFace_of_selects (args := #[]) (mvT hZ (hw _ (List.mem_of_getElem? (i := 23) rfl)))) (mvT hZ (hw _ (List.mem_of_getElem? (i := 23) rfl))) (mvT hZ (hw _ (List.mem_of_getElem? (i := 22) rfl))) (by decide) (backOf (W := 0) (rmA2 l Z a0 hw [] b261 s0 B263 A263 n s1 s2 (own_up (own_up (own_up (own_up (own_up (fun _ => 0) s0 ((-1 : Int32) + (1 : Int32))) s1 (s0 + (1 : Int32))) s2 (s1 + (1 : Int32))) (((own_up (own_up (own_up (own_up (own_up (fun _ => 0) s0 (0 : Int32)) s1 (0 : Int32)) s0 (s1 + (1 : Int32))) s2 (0 : Int32)) s1 (s2 + (1 : Int32))) s0) - (1 : Int32)) ((((own_up (own_up (own_up (fun _ => 0) s0 ((-1 : Int32) + (1 : Int32))) s1 (s0 + (1 : Int32))) s2 (s1 + (1 : Int32))) s0) - (1 : Int32)) + (1 : Int32))) s0 (0 : Int32)) (own_up (own_up (own_up (own_up (own_up (own_up (fun _ => 0) s0 (0 : Int32)) s1 (0 : Int32)) s0 (s1 + (1 : Int32))) s2 (0 : Int32)) s1 (s2 + (1 : Int32))) s0 (0 : Int32)) T279.heap n0 Z280 o279_0 o279_1 o279_2 o279_3 o279_4 o279_5 o279_6 g_b261 g_B263 g_A263 ne_b261_B263 ne_b261_A263 ne_B263_A263 hs00 hs01 hs20 hs21) hZ (hw _ (List.mem_of_getElem? (i := 24) rfl)) (hw _ (List.mem_of_getElem? (i := 5) rfl)) (by decide) (by decide)) q283a q283c (g := (mkF m 311 #[.val (.int p0), .val (.int p1), .val (.int p2), .val (.int p3), .val (.int p4), .val (.int p5), .val (.int n), .val (.int s0), .val (.int d1), .val (.int tt), .val (.int d2), .val (.int s1), .val (.int s2), .val (.int (3 : Int32)), .val (.int (1 : Int32)), .val (.int (0 : Int32)), .val (.ref b241), .val (.ref b249), .val (.ref b261), .unset] [(.int s0), (.ref b261)])) rfl (by rw [hml]; rfl) (Steps.refl _) (argsL := [(.int s0)]) (rest := []) (lenOf pd__28I_29V rfl) rfl (by show 2 * 0 + _ ≤ _; exact Nat.le_of_eq rfl) (hb hby at_311) (fun _ _ => ⟨rfl, rfl, (by decide : 5 + 0 ≤ _), (by decide : 30 + 0 ≤ _)⟩)
  dsimp only [Pt.U, Pt.locs, Pt.cells, Pt.slots] at X283 l283 y283 z283 st283 hQ283
  obtain ⟨rfl, N283q, K283, o283_0, o283_1, o283_2, o283_3, o283_4, o283_5, o283_6⟩ := hQ283
  have Z284 : n0 ≤ T283.heap.size := Nat.le_trans Z280 K283.1
  have Z284h : h0.size ≤ T283.heap.size := Nat.le_trans Z280h K283.1
  obtain ⟨lc283, X283, N283⟩ := own_pack X283 l283 y283 z283 N279 N283q (C := 5) (S' := 30) rfl rfl
  refine own_thr (a := T283.setTop (mkF m 314 #[.val (.int p0), .val (.int p1), .val (.int p2), .val (.int p3), .val (.int p4), .val (.int p5), .val (.int n), .val (.int s0), .val (.int d1), .val (.int tt), .val (.int d2), .val (.int s1), .val (.int s2), .val (.int (3 : Int32)), .val (.int (1 : Int32)), .val (.int (0 : Int32)), .val (.ref b241), .val (.ref b249), .val (.ref b261), .unset] [])) (fun t kt => st283.trans kt) ?_
  refine own_thr (a := T283.setTop (mkF m 316 #[.val (.int p0), .val (.int p1), .val (.int p2), .val (.int p3), .val (.int p4), .val (.int p5), .val (.int n), .val (.int s0), .val (.int d1), .val (.int tt), .val (.int d2), .val (.int s1), .val (.int s2), .val (.int (3 : Int32)), .val (.int (1 : Int32)), .val (.int (0 : Int32)), .val (.ref b241), .val (.ref b249), .val (.ref b261), .unset] [(.ref b261)])) (fun t kt => ?_) ?_
  · show Steps p.tables e below (T283.setTop (mkF m 314 #[.val (.int p0), .val (.int p1), .val (.int p2), .val (.int p3), .val (.int p4), .val (.int p5), .val (.int n), .val (.int s0), .val (.int d1), .val (.int tt), .val (.int d2), .val (.int s1), .val (.int s2), .val (.int (3 : Int32)), .val (.int (1 : Int32)), .val (.int (0 : Int32)), .val (.ref b241), .val (.ref b249), .val (.ref b261), .unset] [])) _
    refine XS.aload X283.here hx rfl (hb hby at_314) rfl rfl ?_
    exact kt
  obtain ⟨cq285, kq285, q285a, q285b, q285c⟩ := isOf hZ rfl o283_0
  obtain ⟨_, _, ⟨T285, L285, k285, n285⟩, -, X285, ⟨Lc285, hQ285, l285, y285, z285⟩, st285⟩ := X283.virtualBack hx (y := (⟨"dev/chainlatch/bucket/Order", "first", "()I"⟩ : MethodName)) (z := (⟨"dev/chainlatch/bucket/Order", "first", "()I"⟩ : MethodName)) hown (mvT hZ (hw _ (List.mem_of_getElem? (i := 34) rfl))) (mvT hZ (hw _ (List.mem_of_getElem? (i := 35) rfl))) (notFace_of_selects (args := #[]) (mvT hZ (hw _ (List.mem_of_getElem? (i := 37) rfl)))) (mvT hZ (hw _ (List.mem_of_getElem? (i := 37) rfl))) (mvT hZ (hw _ (List.mem_of_getElem? (i := 36) rfl))) (by decide) (backOf (W := 0) (rmF l Z a0 hw [] b261 s1 T283.heap n0 Z284 o283_1) hZ (hw _ (List.mem_of_getElem? (i := 38) rfl)) (hw _ (List.mem_of_getElem? (i := 5) rfl)) (by decide) (by decide)) q285a q285c (g := (mkF m 316 #[.val (.int p0), .val (.int p1), .val (.int p2), .val (.int p3), .val (.int p4), .val (.int p5), .val (.int n), .val (.int s0), .val (.int d1), .val (.int tt), .val (.int d2), .val (.int s1), .val (.int s2), .val (.int (3 : Int32)), .val (.int (1 : Int32)), .val (.int (0 : Int32)), .val (.ref b241), .val (.ref b249), .val (.ref b261), .unset] [(.ref b261)])) rfl (by rw [hml]; rfl) (Steps.refl _) (argsL := []) (rest := []) (lenOf pd__28_29I rfl) rfl (by show 2 * 0 + _ ≤ _; exact Nat.le_of_eq rfl) (hb hby at_316) (fun _ _ => ⟨rfl, rfl, (by decide : 5 + 0 ≤ _), (by decide : 30 + 0 ≤ _)⟩)
  dsimp only [Pt.U, Pt.locs, Pt.cells, Pt.slots] at X285 l285 y285 z285 st285 hQ285
  obtain ⟨rfl, N285q, e285⟩ := hQ285
  obtain ⟨lc285, X285, N285⟩ := own_pack X285 l285 y285 z285 N283 N285q (C := 5) (S' := 30) rfl rfl
  refine own_thr (a := T285.setTop (mkF m 319 #[.val (.int p0), .val (.int p1), .val (.int p2), .val (.int p3), .val (.int p4), .val (.int p5), .val (.int n), .val (.int s0), .val (.int d1), .val (.int tt), .val (.int d2), .val (.int s1), .val (.int s2), .val (.int (3 : Int32)), .val (.int (1 : Int32)), .val (.int (0 : Int32)), .val (.ref b241), .val (.ref b249), .val (.ref b261), .unset] [(.int s1)])) (fun t kt => st285.trans kt) ?_
  refine own_thr (a := T285.setTop (mkF m 322 #[.val (.int p0), .val (.int p1), .val (.int p2), .val (.int p3), .val (.int p4), .val (.int p5), .val (.int n), .val (.int s0), .val (.int d1), .val (.int tt), .val (.int d2), .val (.int s1), .val (.int s2), .val (.int (3 : Int32)), .val (.int (1 : Int32)), .val (.int (0 : Int32)), .val (.ref b241), .val (.ref b249), .val (.ref b261), .unset] [(.int (0 : Int32)), (.ref b249), (.int s1)])) (fun t kt => ?_) ?_
  · show Steps p.tables e below (T285.setTop (mkF m 319 #[.val (.int p0), .val (.int p1), .val (.int p2), .val (.int p3), .val (.int p4), .val (.int p5), .val (.int n), .val (.int s0), .val (.int d1), .val (.int tt), .val (.int d2), .val (.int s1), .val (.int s2), .val (.int (3 : Int32)), .val (.int (1 : Int32)), .val (.int (0 : Int32)), .val (.ref b241), .val (.ref b249), .val (.ref b261), .unset] [(.int s1)])) _
    refine XS.aload X285.here hx rfl (hb hby at_319) rfl rfl ?_
    refine XS.iconst X285.here hx rfl (hb hby at_321) ?_
    exact kt
  have c287 := (((((((V259.ext E261).keep K263 (ninS ne_b249_b261 nin0)).keep K267 (ninS ne_b249_b261 (ninS ne_b249_B263 (ninS ne_b249_A263 nin0)))).keep K271 (ninS ne_b249_b261 (ninS ne_b249_B263 (ninS ne_b249_A263 nin0)))).keep K275 (ninS ne_b249_b261 (ninS ne_b249_B263 (ninS ne_b249_A263 nin0)))).keep K279 (ninS ne_b249_b261 (ninS ne_b249_B263 (ninS ne_b249_A263 nin0)))).keep K283 (ninS ne_b249_b261 (ninS ne_b249_B263 (ninS ne_b249_A263 nin0))))
  obtain ⟨cl286, Ar286, -, S286, M286, H286, -⟩ := id c287
  have hin286 : ¬ ((0 : Int32) < 0 ∨ cl286.slots.size ≤ ((0 : Int32)).toNatClampNeg) := inb_of S286 ⟨by decide, by decide⟩
  have hat286 : cl286.slots[((0 : Int32)).toNatClampNeg]? = some (.int s1) := Has.at H286 hin286 rfl
  refine own_thr (a := T285.setTop (mkF m 343 #[.val (.int p0), .val (.int p1), .val (.int p2), .val (.int p3), .val (.int p4), .val (.int p5), .val (.int n), .val (.int s0), .val (.int d1), .val (.int tt), .val (.int d2), .val (.int s1), .val (.int s2), .val (.int (3 : Int32)), .val (.int (1 : Int32)), .val (.int (0 : Int32)), .val (.ref b241), .val (.ref b249), .val (.ref b261), .val (.int (1 : Int32))] [(.int (0 : Int32)), (.ref b249), (.ref b261)])) (fun t kt => ?_) ?_
  · show Steps p.tables e below (T285.setTop (mkF m 322 #[.val (.int p0), .val (.int p1), .val (.int p2), .val (.int p3), .val (.int p4), .val (.int p5), .val (.int n), .val (.int s0), .val (.int d1), .val (.int tt), .val (.int d2), .val (.int s1), .val (.int s2), .val (.int (3 : Int32)), .val (.int (1 : Int32)), .val (.int (0 : Int32)), .val (.ref b241), .val (.ref b249), .val (.ref b261), .unset] [(.int (0 : Int32)), (.ref b249), (.int s1)])) _
    refine X285.iaload hx (j := (0 : Int32)) (v := (.int s1)) (by rw [e285]; exact Ar286.1) (State.isArrayOf_alike hZ.alike Ar286.2.1) Ar286.2.2 hin286 hat286 (g := (mkF m 322 #[.val (.int p0), .val (.int p1), .val (.int p2), .val (.int p3), .val (.int p4), .val (.int p5), .val (.int n), .val (.int s0), .val (.int d1), .val (.int tt), .val (.int d2), .val (.int s1), .val (.int s2), .val (.int (3 : Int32)), .val (.int (1 : Int32)), .val (.int (0 : Int32)), .val (.ref b241), .val (.ref b249), .val (.ref b261), .unset] [(.int (0 : Int32)), (.ref b249), (.int s1)])) rfl rfl (hb hby at_322) _ ?_
    refine XS.icmpNo X285.here hx rfl (hb hby at_323) rfl (teq (by simp [own_up, own_as, n01, n10, n02, n20, n12, n21])).2 ?_
    refine XS.iconst X285.here hx rfl (hb hby at_326) ?_
    refine XS.goto X285.here hx rfl (pc0 := 327) (pc' := 331) rfl (hb hby at_327) (by decide) (by decide) ?_
    refine XS.istore X285.here hx rfl (hb hby at_331) rfl (l' := #[.val (.int p0), .val (.int p1), .val (.int p2), .val (.int p3), .val (.int p4), .val (.int p5), .val (.int n), .val (.int s0), .val (.int d1), .val (.int tt), .val (.int d2), .val (.int s1), .val (.int s2), .val (.int (3 : Int32)), .val (.int (1 : Int32)), .val (.int (0 : Int32)), .val (.ref b241), .val (.ref b249), .val (.ref b261), .val (.int (1 : Int32))]) rfl ?_
    refine XS.iload X285.here hx rfl (hb hby at_333) rfl ?_
    refine XS.ifNo X285.here hx rfl (hb hby at_335) rfl ((if0 _ _).trans (feq (by decide)).1) ?_
    refine XS.aload X285.here hx rfl (hb hby at_338) rfl rfl ?_
    refine XS.aload X285.here hx rfl (hb hby at_340) rfl rfl ?_
    refine XS.iconst X285.here hx rfl (hb hby at_342) ?_
    exact kt
  obtain ⟨cl288, Ar288, -, S288, M288, H288, -⟩ := id c287
  have hin288 : ¬ ((0 : Int32) < 0 ∨ cl288.slots.size ≤ ((0 : Int32)).toNatClampNeg) := inb_of S288 ⟨by decide, by decide⟩
  have hat288 : cl288.slots[((0 : Int32)).toNatClampNeg]? = some (.int s1) := Has.at H288 hin288 rfl
  refine own_thr (a := T285.setTop (mkF m 344 #[.val (.int p0), .val (.int p1), .val (.int p2), .val (.int p3), .val (.int p4), .val (.int p5), .val (.int n), .val (.int s0), .val (.int d1), .val (.int tt), .val (.int d2), .val (.int s1), .val (.int s2), .val (.int (3 : Int32)), .val (.int (1 : Int32)), .val (.int (0 : Int32)), .val (.ref b241), .val (.ref b249), .val (.ref b261), .val (.int (1 : Int32))] [(.int s1), (.ref b261)])) (fun t kt => ?_) ?_
  · show Steps p.tables e below (T285.setTop (mkF m 343 #[.val (.int p0), .val (.int p1), .val (.int p2), .val (.int p3), .val (.int p4), .val (.int p5), .val (.int n), .val (.int s0), .val (.int d1), .val (.int tt), .val (.int d2), .val (.int s1), .val (.int s2), .val (.int (3 : Int32)), .val (.int (1 : Int32)), .val (.int (0 : Int32)), .val (.ref b241), .val (.ref b249), .val (.ref b261), .val (.int (1 : Int32))] [(.int (0 : Int32)), (.ref b249), (.ref b261)])) _
    refine X285.iaload hx (j := (0 : Int32)) (v := (.int s1)) (by rw [e285]; exact Ar288.1) (State.isArrayOf_alike hZ.alike Ar288.2.1) Ar288.2.2 hin288 hat288 (g := (mkF m 343 #[.val (.int p0), .val (.int p1), .val (.int p2), .val (.int p3), .val (.int p4), .val (.int p5), .val (.int n), .val (.int s0), .val (.int d1), .val (.int tt), .val (.int d2), .val (.int s1), .val (.int s2), .val (.int (3 : Int32)), .val (.int (1 : Int32)), .val (.int (0 : Int32)), .val (.ref b241), .val (.ref b249), .val (.ref b261), .val (.int (1 : Int32))] [(.int (0 : Int32)), (.ref b249), (.ref b261)])) rfl rfl (hb hby at_343) _ ?_
    exact kt
  obtain ⟨cq289, kq289, q289a, q289b, q289c⟩ := isOf hZ e285 o283_0
  obtain ⟨_, _, ⟨T289, L289, k289, n289⟩, -, X289, ⟨Lc289, hQ289, l289, y289, z289⟩, st289⟩ := X285.virtualBack hx (y := (⟨"dev/chainlatch/bucket/Order", "after", "(I)I"⟩ : MethodName)) (z := (⟨"dev/chainlatch/bucket/Order", "after", "(I)I"⟩ : MethodName)) hown (mvT hZ (hw _ (List.mem_of_getElem? (i := 39) rfl))) (mvT hZ (hw _ (List.mem_of_getElem? (i := 40) rfl))) (notFace_of_selects (args := #[]) (mvT hZ (hw _ (List.mem_of_getElem? (i := 42) rfl)))) (mvT hZ (hw _ (List.mem_of_getElem? (i := 42) rfl))) (mvT hZ (hw _ (List.mem_of_getElem? (i := 41) rfl))) (by decide) (backOf (W := 0) (rmN l Z a0 hw [] b261 s1 A263 n (own_up (own_up (own_up (own_up (own_up (own_up (own_up (own_up (fun _ => 0) s0 (0 : Int32)) s1 (0 : Int32)) s0 (s1 + (1 : Int32))) s2 (0 : Int32)) s1 (s2 + (1 : Int32))) s0 (0 : Int32)) s0 (0 : Int32)) s2 (s0 + (1 : Int32))) T283.heap n0 Z284 o283_4 o283_6 hs10 hs11) hZ (hw _ (List.mem_of_getElem? (i := 43) rfl)) (hw _ (List.mem_of_getElem? (i := 5) rfl)) (by decide) (by decide)) q289a q289c (g := (mkF m 344 #[.val (.int p0), .val (.int p1), .val (.int p2), .val (.int p3), .val (.int p4), .val (.int p5), .val (.int n), .val (.int s0), .val (.int d1), .val (.int tt), .val (.int d2), .val (.int s1), .val (.int s2), .val (.int (3 : Int32)), .val (.int (1 : Int32)), .val (.int (0 : Int32)), .val (.ref b241), .val (.ref b249), .val (.ref b261), .val (.int (1 : Int32))] [(.int s1), (.ref b261)])) rfl (by rw [hml]; rfl) (Steps.refl _) (argsL := [(.int s1)]) (rest := []) (lenOf pd__28I_29I rfl) rfl (by show 2 * 0 + _ ≤ _; exact Nat.le_of_eq rfl) (hb hby at_344) (fun _ _ => ⟨rfl, e285, (by decide : 5 + 0 ≤ _), (by decide : 30 + 0 ≤ _)⟩)
  dsimp only [Pt.U, Pt.locs, Pt.cells, Pt.slots] at X289 l289 y289 z289 st289 hQ289
  obtain ⟨rfl, N289q, e289⟩ := hQ289
  obtain ⟨lc289, X289, N289⟩ := own_pack X289 l289 y289 z289 N285 N289q (C := 5) (S' := 30) rfl rfl
  refine own_thr (a := T289.setTop (mkF m 347 #[.val (.int p0), .val (.int p1), .val (.int p2), .val (.int p3), .val (.int p4), .val (.int p5), .val (.int n), .val (.int s0), .val (.int d1), .val (.int tt), .val (.int d2), .val (.int s1), .val (.int s2), .val (.int (3 : Int32)), .val (.int (1 : Int32)), .val (.int (0 : Int32)), .val (.ref b241), .val (.ref b249), .val (.ref b261), .val (.int (1 : Int32))] [(.int (((own_up (own_up (own_up (own_up (own_up (own_up (own_up (own_up (fun _ => 0) s0 (0 : Int32)) s1 (0 : Int32)) s0 (s1 + (1 : Int32))) s2 (0 : Int32)) s1 (s2 + (1 : Int32))) s0 (0 : Int32)) s0 (0 : Int32)) s2 (s0 + (1 : Int32))) s1) - (1 : Int32)))])) (fun t kt => st289.trans kt) ?_
  refine own_thr (a := T289.setTop (mkF m 356 #[.val (.int p0), .val (.int p1), .val (.int p2), .val (.int p3), .val (.int p4), .val (.int p5), .val (.int n), .val (.int s0), .val (.int d1), .val (.int tt), .val (.int d2), .val (.int s1), .val (.int s2), .val (.int (3 : Int32)), .val (.int (1 : Int32)), .val (.int (0 : Int32)), .val (.ref b241), .val (.ref b249), .val (.ref b261), .val (.int (1 : Int32))] [(.int (1 : Int32)), (.ref b249), (.int (((own_up (own_up (own_up (own_up (own_up (own_up (own_up (own_up (fun _ => 0) s0 (0 : Int32)) s1 (0 : Int32)) s0 (s1 + (1 : Int32))) s2 (0 : Int32)) s1 (s2 + (1 : Int32))) s0 (0 : Int32)) s0 (0 : Int32)) s2 (s0 + (1 : Int32))) s1) - (1 : Int32)))])) (fun t kt => ?_) ?_
  · show Steps p.tables e below (T289.setTop (mkF m 347 #[.val (.int p0), .val (.int p1), .val (.int p2), .val (.int p3), .val (.int p4), .val (.int p5), .val (.int n), .val (.int s0), .val (.int d1), .val (.int tt), .val (.int d2), .val (.int s1), .val (.int s2), .val (.int (3 : Int32)), .val (.int (1 : Int32)), .val (.int (0 : Int32)), .val (.ref b241), .val (.ref b249), .val (.ref b261), .val (.int (1 : Int32))] [(.int (((own_up (own_up (own_up (own_up (own_up (own_up (own_up (own_up (fun _ => 0) s0 (0 : Int32)) s1 (0 : Int32)) s0 (s1 + (1 : Int32))) s2 (0 : Int32)) s1 (s2 + (1 : Int32))) s0 (0 : Int32)) s0 (0 : Int32)) s2 (s0 + (1 : Int32))) s1) - (1 : Int32)))])) _
    refine XS.iload X289.here hx rfl (hb hby at_347) rfl ?_
    refine XS.iconst X289.here hx rfl (hb hby at_349) ?_
    refine XS.icmpNo X289.here hx rfl (hb hby at_350) rfl (tlt (by decide)).2.2.2 ?_
    refine XS.aload X289.here hx rfl (hb hby at_353) rfl rfl ?_
    refine XS.iconst X289.here hx rfl (hb hby at_355) ?_
    exact kt
  obtain ⟨cl290, Ar290, -, S290, M290, H290, -⟩ := id c287
  have hin290 : ¬ ((1 : Int32) < 0 ∨ cl290.slots.size ≤ ((1 : Int32)).toNatClampNeg) := inb_of S290 ⟨by decide, by decide⟩
  have hat290 : cl290.slots[((1 : Int32)).toNatClampNeg]? = some (.int s2) := Has.at H290 hin290 rfl
  refine own_thr (a := T289.setTop (mkF m 387 #[.val (.int p0), .val (.int p1), .val (.int p2), .val (.int p3), .val (.int p4), .val (.int p5), .val (.int n), .val (.int s0), .val (.int d1), .val (.int tt), .val (.int d2), .val (.int s1), .val (.int s2), .val (.int (3 : Int32)), .val (.int (1 : Int32)), .val (.int (0 : Int32)), .val (.ref b241), .val (.ref b249), .val (.ref b261), .val (.int (1 : Int32))] [(.int (1 : Int32)), (.ref b249), (.ref b261)])) (fun t kt => ?_) ?_
  · show Steps p.tables e below (T289.setTop (mkF m 356 #[.val (.int p0), .val (.int p1), .val (.int p2), .val (.int p3), .val (.int p4), .val (.int p5), .val (.int n), .val (.int s0), .val (.int d1), .val (.int tt), .val (.int d2), .val (.int s1), .val (.int s2), .val (.int (3 : Int32)), .val (.int (1 : Int32)), .val (.int (0 : Int32)), .val (.ref b241), .val (.ref b249), .val (.ref b261), .val (.int (1 : Int32))] [(.int (1 : Int32)), (.ref b249), (.int (((own_up (own_up (own_up (own_up (own_up (own_up (own_up (own_up (fun _ => 0) s0 (0 : Int32)) s1 (0 : Int32)) s0 (s1 + (1 : Int32))) s2 (0 : Int32)) s1 (s2 + (1 : Int32))) s0 (0 : Int32)) s0 (0 : Int32)) s2 (s0 + (1 : Int32))) s1) - (1 : Int32)))])) _
    refine X289.iaload hx (j := (1 : Int32)) (v := (.int s2)) (by rw [e289]; exact Ar290.1) (State.isArrayOf_alike hZ.alike Ar290.2.1) Ar290.2.2 hin290 hat290 (g := (mkF m 356 #[.val (.int p0), .val (.int p1), .val (.int p2), .val (.int p3), .val (.int p4), .val (.int p5), .val (.int n), .val (.int s0), .val (.int d1), .val (.int tt), .val (.int d2), .val (.int s1), .val (.int s2), .val (.int (3 : Int32)), .val (.int (1 : Int32)), .val (.int (0 : Int32)), .val (.ref b241), .val (.ref b249), .val (.ref b261), .val (.int (1 : Int32))] [(.int (1 : Int32)), (.ref b249), (.int (((own_up (own_up (own_up (own_up (own_up (own_up (own_up (own_up (fun _ => 0) s0 (0 : Int32)) s1 (0 : Int32)) s0 (s1 + (1 : Int32))) s2 (0 : Int32)) s1 (s2 + (1 : Int32))) s0 (0 : Int32)) s0 (0 : Int32)) s2 (s0 + (1 : Int32))) s1) - (1 : Int32)))])) rfl rfl (hb hby at_356) _ ?_
    refine XS.goto X289.here hx rfl (pc0 := 357) (pc' := 361) rfl (hb hby at_357) (by decide) (by decide) ?_
    refine XS.icmpNo X289.here hx rfl (hb hby at_361) rfl (teq (by simp [own_up, own_as, n01, n10, n02, n20, n12, n21])).2 ?_
    refine XS.iconst X289.here hx rfl (hb hby at_364) ?_
    refine XS.goto X289.here hx rfl (pc0 := 365) (pc' := 369) rfl (hb hby at_365) (by decide) (by decide) ?_
    refine XS.istore X289.here hx rfl (hb hby at_369) rfl (l' := #[.val (.int p0), .val (.int p1), .val (.int p2), .val (.int p3), .val (.int p4), .val (.int p5), .val (.int n), .val (.int s0), .val (.int d1), .val (.int tt), .val (.int d2), .val (.int s1), .val (.int s2), .val (.int (3 : Int32)), .val (.int (1 : Int32)), .val (.int (0 : Int32)), .val (.ref b241), .val (.ref b249), .val (.ref b261), .val (.int (1 : Int32))]) rfl ?_
    refine XS.iload X289.here hx rfl (hb hby at_371) rfl ?_
    refine XS.iconst X289.here hx rfl (hb hby at_373) ?_
    refine XS.icmpNo X289.here hx rfl (hb hby at_374) rfl (tlt (by decide)).2.2.2 ?_
    refine XS.iload X289.here hx rfl (hb hby at_377) rfl ?_
    refine XS.ifNo X289.here hx rfl (hb hby at_379) rfl ((if0 _ _).trans (feq (by decide)).1) ?_
    refine XS.aload X289.here hx rfl (hb hby at_382) rfl rfl ?_
    refine XS.aload X289.here hx rfl (hb hby at_384) rfl rfl ?_
    refine XS.iconst X289.here hx rfl (hb hby at_386) ?_
    exact kt
  obtain ⟨cl291, Ar291, -, S291, M291, H291, -⟩ := id c287
  have hin291 : ¬ ((1 : Int32) < 0 ∨ cl291.slots.size ≤ ((1 : Int32)).toNatClampNeg) := inb_of S291 ⟨by decide, by decide⟩
  have hat291 : cl291.slots[((1 : Int32)).toNatClampNeg]? = some (.int s2) := Has.at H291 hin291 rfl
  refine own_thr (a := T289.setTop (mkF m 388 #[.val (.int p0), .val (.int p1), .val (.int p2), .val (.int p3), .val (.int p4), .val (.int p5), .val (.int n), .val (.int s0), .val (.int d1), .val (.int tt), .val (.int d2), .val (.int s1), .val (.int s2), .val (.int (3 : Int32)), .val (.int (1 : Int32)), .val (.int (0 : Int32)), .val (.ref b241), .val (.ref b249), .val (.ref b261), .val (.int (1 : Int32))] [(.int s2), (.ref b261)])) (fun t kt => ?_) ?_
  · show Steps p.tables e below (T289.setTop (mkF m 387 #[.val (.int p0), .val (.int p1), .val (.int p2), .val (.int p3), .val (.int p4), .val (.int p5), .val (.int n), .val (.int s0), .val (.int d1), .val (.int tt), .val (.int d2), .val (.int s1), .val (.int s2), .val (.int (3 : Int32)), .val (.int (1 : Int32)), .val (.int (0 : Int32)), .val (.ref b241), .val (.ref b249), .val (.ref b261), .val (.int (1 : Int32))] [(.int (1 : Int32)), (.ref b249), (.ref b261)])) _
    refine X289.iaload hx (j := (1 : Int32)) (v := (.int s2)) (by rw [e289]; exact Ar291.1) (State.isArrayOf_alike hZ.alike Ar291.2.1) Ar291.2.2 hin291 hat291 (g := (mkF m 387 #[.val (.int p0), .val (.int p1), .val (.int p2), .val (.int p3), .val (.int p4), .val (.int p5), .val (.int n), .val (.int s0), .val (.int d1), .val (.int tt), .val (.int d2), .val (.int s1), .val (.int s2), .val (.int (3 : Int32)), .val (.int (1 : Int32)), .val (.int (0 : Int32)), .val (.ref b241), .val (.ref b249), .val (.ref b261), .val (.int (1 : Int32))] [(.int (1 : Int32)), (.ref b249), (.ref b261)])) rfl rfl (hb hby at_387) _ ?_
    exact kt
  obtain ⟨cq292, kq292, q292a, q292b, q292c⟩ := isOf hZ e289 o283_0
  obtain ⟨_, _, ⟨T292, L292, k292, n292⟩, -, X292, ⟨Lc292, hQ292, l292, y292, z292⟩, st292⟩ := X289.virtualBack hx (y := (⟨"dev/chainlatch/bucket/Order", "after", "(I)I"⟩ : MethodName)) (z := (⟨"dev/chainlatch/bucket/Order", "after", "(I)I"⟩ : MethodName)) hown (mvT hZ (hw _ (List.mem_of_getElem? (i := 39) rfl))) (mvT hZ (hw _ (List.mem_of_getElem? (i := 40) rfl))) (notFace_of_selects (args := #[]) (mvT hZ (hw _ (List.mem_of_getElem? (i := 42) rfl)))) (mvT hZ (hw _ (List.mem_of_getElem? (i := 42) rfl))) (mvT hZ (hw _ (List.mem_of_getElem? (i := 41) rfl))) (by decide) (backOf (W := 0) (rmN l Z a0 hw [] b261 s2 A263 n (own_up (own_up (own_up (own_up (own_up (own_up (own_up (own_up (fun _ => 0) s0 (0 : Int32)) s1 (0 : Int32)) s0 (s1 + (1 : Int32))) s2 (0 : Int32)) s1 (s2 + (1 : Int32))) s0 (0 : Int32)) s0 (0 : Int32)) s2 (s0 + (1 : Int32))) T283.heap n0 Z284 o283_4 o283_6 hs20 hs21) hZ (hw _ (List.mem_of_getElem? (i := 43) rfl)) (hw _ (List.mem_of_getElem? (i := 5) rfl)) (by decide) (by decide)) q292a q292c (g := (mkF m 388 #[.val (.int p0), .val (.int p1), .val (.int p2), .val (.int p3), .val (.int p4), .val (.int p5), .val (.int n), .val (.int s0), .val (.int d1), .val (.int tt), .val (.int d2), .val (.int s1), .val (.int s2), .val (.int (3 : Int32)), .val (.int (1 : Int32)), .val (.int (0 : Int32)), .val (.ref b241), .val (.ref b249), .val (.ref b261), .val (.int (1 : Int32))] [(.int s2), (.ref b261)])) rfl (by rw [hml]; rfl) (Steps.refl _) (argsL := [(.int s2)]) (rest := []) (lenOf pd__28I_29I rfl) rfl (by show 2 * 0 + _ ≤ _; exact Nat.le_of_eq rfl) (hb hby at_388) (fun _ _ => ⟨rfl, e289, (by decide : 5 + 0 ≤ _), (by decide : 30 + 0 ≤ _)⟩)
  dsimp only [Pt.U, Pt.locs, Pt.cells, Pt.slots] at X292 l292 y292 z292 st292 hQ292
  obtain ⟨rfl, N292q, e292⟩ := hQ292
  obtain ⟨lc292, X292, N292⟩ := own_pack X292 l292 y292 z292 N289 N292q (C := 5) (S' := 30) rfl rfl
  refine own_thr (a := T292.setTop (mkF m 391 #[.val (.int p0), .val (.int p1), .val (.int p2), .val (.int p3), .val (.int p4), .val (.int p5), .val (.int n), .val (.int s0), .val (.int d1), .val (.int tt), .val (.int d2), .val (.int s1), .val (.int s2), .val (.int (3 : Int32)), .val (.int (1 : Int32)), .val (.int (0 : Int32)), .val (.ref b241), .val (.ref b249), .val (.ref b261), .val (.int (1 : Int32))] [(.int (((own_up (own_up (own_up (own_up (own_up (own_up (own_up (own_up (fun _ => 0) s0 (0 : Int32)) s1 (0 : Int32)) s0 (s1 + (1 : Int32))) s2 (0 : Int32)) s1 (s2 + (1 : Int32))) s0 (0 : Int32)) s0 (0 : Int32)) s2 (s0 + (1 : Int32))) s2) - (1 : Int32)))])) (fun t kt => st292.trans kt) ?_
  refine own_thr (a := T292.setTop (mkF m 400 #[.val (.int p0), .val (.int p1), .val (.int p2), .val (.int p3), .val (.int p4), .val (.int p5), .val (.int n), .val (.int s0), .val (.int d1), .val (.int tt), .val (.int d2), .val (.int s1), .val (.int s2), .val (.int (3 : Int32)), .val (.int (1 : Int32)), .val (.int (0 : Int32)), .val (.ref b241), .val (.ref b249), .val (.ref b261), .val (.int (1 : Int32))] [(.int (2 : Int32)), (.ref b249), (.int (((own_up (own_up (own_up (own_up (own_up (own_up (own_up (own_up (fun _ => 0) s0 (0 : Int32)) s1 (0 : Int32)) s0 (s1 + (1 : Int32))) s2 (0 : Int32)) s1 (s2 + (1 : Int32))) s0 (0 : Int32)) s0 (0 : Int32)) s2 (s0 + (1 : Int32))) s2) - (1 : Int32)))])) (fun t kt => ?_) ?_
  · show Steps p.tables e below (T292.setTop (mkF m 391 #[.val (.int p0), .val (.int p1), .val (.int p2), .val (.int p3), .val (.int p4), .val (.int p5), .val (.int n), .val (.int s0), .val (.int d1), .val (.int tt), .val (.int d2), .val (.int s1), .val (.int s2), .val (.int (3 : Int32)), .val (.int (1 : Int32)), .val (.int (0 : Int32)), .val (.ref b241), .val (.ref b249), .val (.ref b261), .val (.int (1 : Int32))] [(.int (((own_up (own_up (own_up (own_up (own_up (own_up (own_up (own_up (fun _ => 0) s0 (0 : Int32)) s1 (0 : Int32)) s0 (s1 + (1 : Int32))) s2 (0 : Int32)) s1 (s2 + (1 : Int32))) s0 (0 : Int32)) s0 (0 : Int32)) s2 (s0 + (1 : Int32))) s2) - (1 : Int32)))])) _
    refine XS.iload X292.here hx rfl (hb hby at_391) rfl ?_
    refine XS.iconst X292.here hx rfl (hb hby at_393) ?_
    refine XS.icmpNo X292.here hx rfl (hb hby at_394) rfl (tlt (by decide)).2.2.2 ?_
    refine XS.aload X292.here hx rfl (hb hby at_397) rfl rfl ?_
    refine XS.iconst X292.here hx rfl (hb hby at_399) ?_
    exact kt
  obtain ⟨cl293, Ar293, -, S293, M293, H293, -⟩ := id c287
  have hin293 : ¬ ((2 : Int32) < 0 ∨ cl293.slots.size ≤ ((2 : Int32)).toNatClampNeg) := inb_of S293 ⟨by decide, by decide⟩
  have hat293 : cl293.slots[((2 : Int32)).toNatClampNeg]? = some (.int s0) := Has.at H293 hin293 rfl
  refine own_thr (a := T292.setTop (mkF m 431 #[.val (.int p0), .val (.int p1), .val (.int p2), .val (.int p3), .val (.int p4), .val (.int p5), .val (.int n), .val (.int s0), .val (.int d1), .val (.int tt), .val (.int d2), .val (.int s1), .val (.int s2), .val (.int (3 : Int32)), .val (.int (1 : Int32)), .val (.int (0 : Int32)), .val (.ref b241), .val (.ref b249), .val (.ref b261), .val (.int (1 : Int32))] [(.int (2 : Int32)), (.ref b249), (.ref b261)])) (fun t kt => ?_) ?_
  · show Steps p.tables e below (T292.setTop (mkF m 400 #[.val (.int p0), .val (.int p1), .val (.int p2), .val (.int p3), .val (.int p4), .val (.int p5), .val (.int n), .val (.int s0), .val (.int d1), .val (.int tt), .val (.int d2), .val (.int s1), .val (.int s2), .val (.int (3 : Int32)), .val (.int (1 : Int32)), .val (.int (0 : Int32)), .val (.ref b241), .val (.ref b249), .val (.ref b261), .val (.int (1 : Int32))] [(.int (2 : Int32)), (.ref b249), (.int (((own_up (own_up (own_up (own_up (own_up (own_up (own_up (own_up (fun _ => 0) s0 (0 : Int32)) s1 (0 : Int32)) s0 (s1 + (1 : Int32))) s2 (0 : Int32)) s1 (s2 + (1 : Int32))) s0 (0 : Int32)) s0 (0 : Int32)) s2 (s0 + (1 : Int32))) s2) - (1 : Int32)))])) _
    refine X292.iaload hx (j := (2 : Int32)) (v := (.int s0)) (by rw [e292]; exact Ar293.1) (State.isArrayOf_alike hZ.alike Ar293.2.1) Ar293.2.2 hin293 hat293 (g := (mkF m 400 #[.val (.int p0), .val (.int p1), .val (.int p2), .val (.int p3), .val (.int p4), .val (.int p5), .val (.int n), .val (.int s0), .val (.int d1), .val (.int tt), .val (.int d2), .val (.int s1), .val (.int s2), .val (.int (3 : Int32)), .val (.int (1 : Int32)), .val (.int (0 : Int32)), .val (.ref b241), .val (.ref b249), .val (.ref b261), .val (.int (1 : Int32))] [(.int (2 : Int32)), (.ref b249), (.int (((own_up (own_up (own_up (own_up (own_up (own_up (own_up (own_up (fun _ => 0) s0 (0 : Int32)) s1 (0 : Int32)) s0 (s1 + (1 : Int32))) s2 (0 : Int32)) s1 (s2 + (1 : Int32))) s0 (0 : Int32)) s0 (0 : Int32)) s2 (s0 + (1 : Int32))) s2) - (1 : Int32)))])) rfl rfl (hb hby at_400) _ ?_
    refine XS.goto X292.here hx rfl (pc0 := 401) (pc' := 405) rfl (hb hby at_401) (by decide) (by decide) ?_
    refine XS.icmpNo X292.here hx rfl (hb hby at_405) rfl (teq (by simp [own_up, own_as, n01, n10, n02, n20, n12, n21])).2 ?_
    refine XS.iconst X292.here hx rfl (hb hby at_408) ?_
    refine XS.goto X292.here hx rfl (pc0 := 409) (pc' := 413) rfl (hb hby at_409) (by decide) (by decide) ?_
    refine XS.istore X292.here hx rfl (hb hby at_413) rfl (l' := #[.val (.int p0), .val (.int p1), .val (.int p2), .val (.int p3), .val (.int p4), .val (.int p5), .val (.int n), .val (.int s0), .val (.int d1), .val (.int tt), .val (.int d2), .val (.int s1), .val (.int s2), .val (.int (3 : Int32)), .val (.int (1 : Int32)), .val (.int (0 : Int32)), .val (.ref b241), .val (.ref b249), .val (.ref b261), .val (.int (1 : Int32))]) rfl ?_
    refine XS.iload X292.here hx rfl (hb hby at_415) rfl ?_
    refine XS.iconst X292.here hx rfl (hb hby at_417) ?_
    refine XS.icmpNo X292.here hx rfl (hb hby at_418) rfl (tlt (by decide)).2.2.2 ?_
    refine XS.iload X292.here hx rfl (hb hby at_421) rfl ?_
    refine XS.ifNo X292.here hx rfl (hb hby at_423) rfl ((if0 _ _).trans (feq (by decide)).1) ?_
    refine XS.aload X292.here hx rfl (hb hby at_426) rfl rfl ?_
    refine XS.aload X292.here hx rfl (hb hby at_428) rfl rfl ?_
    refine XS.iconst X292.here hx rfl (hb hby at_430) ?_
    exact kt
  obtain ⟨cl294, Ar294, -, S294, M294, H294, -⟩ := id c287
  have hin294 : ¬ ((2 : Int32) < 0 ∨ cl294.slots.size ≤ ((2 : Int32)).toNatClampNeg) := inb_of S294 ⟨by decide, by decide⟩
  have hat294 : cl294.slots[((2 : Int32)).toNatClampNeg]? = some (.int s0) := Has.at H294 hin294 rfl
  refine own_thr (a := T292.setTop (mkF m 432 #[.val (.int p0), .val (.int p1), .val (.int p2), .val (.int p3), .val (.int p4), .val (.int p5), .val (.int n), .val (.int s0), .val (.int d1), .val (.int tt), .val (.int d2), .val (.int s1), .val (.int s2), .val (.int (3 : Int32)), .val (.int (1 : Int32)), .val (.int (0 : Int32)), .val (.ref b241), .val (.ref b249), .val (.ref b261), .val (.int (1 : Int32))] [(.int s0), (.ref b261)])) (fun t kt => ?_) ?_
  · show Steps p.tables e below (T292.setTop (mkF m 431 #[.val (.int p0), .val (.int p1), .val (.int p2), .val (.int p3), .val (.int p4), .val (.int p5), .val (.int n), .val (.int s0), .val (.int d1), .val (.int tt), .val (.int d2), .val (.int s1), .val (.int s2), .val (.int (3 : Int32)), .val (.int (1 : Int32)), .val (.int (0 : Int32)), .val (.ref b241), .val (.ref b249), .val (.ref b261), .val (.int (1 : Int32))] [(.int (2 : Int32)), (.ref b249), (.ref b261)])) _
    refine X292.iaload hx (j := (2 : Int32)) (v := (.int s0)) (by rw [e292]; exact Ar294.1) (State.isArrayOf_alike hZ.alike Ar294.2.1) Ar294.2.2 hin294 hat294 (g := (mkF m 431 #[.val (.int p0), .val (.int p1), .val (.int p2), .val (.int p3), .val (.int p4), .val (.int p5), .val (.int n), .val (.int s0), .val (.int d1), .val (.int tt), .val (.int d2), .val (.int s1), .val (.int s2), .val (.int (3 : Int32)), .val (.int (1 : Int32)), .val (.int (0 : Int32)), .val (.ref b241), .val (.ref b249), .val (.ref b261), .val (.int (1 : Int32))] [(.int (2 : Int32)), (.ref b249), (.ref b261)])) rfl rfl (hb hby at_431) _ ?_
    exact kt
  obtain ⟨cq295, kq295, q295a, q295b, q295c⟩ := isOf hZ e292 o283_0
  obtain ⟨_, _, ⟨T295, L295, k295, n295⟩, -, X295, ⟨Lc295, hQ295, l295, y295, z295⟩, st295⟩ := X292.virtualBack hx (y := (⟨"dev/chainlatch/bucket/Order", "after", "(I)I"⟩ : MethodName)) (z := (⟨"dev/chainlatch/bucket/Order", "after", "(I)I"⟩ : MethodName)) hown (mvT hZ (hw _ (List.mem_of_getElem? (i := 39) rfl))) (mvT hZ (hw _ (List.mem_of_getElem? (i := 40) rfl))) (notFace_of_selects (args := #[]) (mvT hZ (hw _ (List.mem_of_getElem? (i := 42) rfl)))) (mvT hZ (hw _ (List.mem_of_getElem? (i := 42) rfl))) (mvT hZ (hw _ (List.mem_of_getElem? (i := 41) rfl))) (by decide) (backOf (W := 0) (rmN l Z a0 hw [] b261 s0 A263 n (own_up (own_up (own_up (own_up (own_up (own_up (own_up (own_up (fun _ => 0) s0 (0 : Int32)) s1 (0 : Int32)) s0 (s1 + (1 : Int32))) s2 (0 : Int32)) s1 (s2 + (1 : Int32))) s0 (0 : Int32)) s0 (0 : Int32)) s2 (s0 + (1 : Int32))) T283.heap n0 Z284 o283_4 o283_6 hs00 hs01) hZ (hw _ (List.mem_of_getElem? (i := 43) rfl)) (hw _ (List.mem_of_getElem? (i := 5) rfl)) (by decide) (by decide)) q295a q295c (g := (mkF m 432 #[.val (.int p0), .val (.int p1), .val (.int p2), .val (.int p3), .val (.int p4), .val (.int p5), .val (.int n), .val (.int s0), .val (.int d1), .val (.int tt), .val (.int d2), .val (.int s1), .val (.int s2), .val (.int (3 : Int32)), .val (.int (1 : Int32)), .val (.int (0 : Int32)), .val (.ref b241), .val (.ref b249), .val (.ref b261), .val (.int (1 : Int32))] [(.int s0), (.ref b261)])) rfl (by rw [hml]; rfl) (Steps.refl _) (argsL := [(.int s0)]) (rest := []) (lenOf pd__28I_29I rfl) rfl (by show 2 * 0 + _ ≤ _; exact Nat.le_of_eq rfl) (hb hby at_432) (fun _ _ => ⟨rfl, e292, (by decide : 5 + 0 ≤ _), (by decide : 30 + 0 ≤ _)⟩)
  dsimp only [Pt.U, Pt.locs, Pt.cells, Pt.slots] at X295 l295 y295 z295 st295 hQ295
  obtain ⟨rfl, N295q, e295⟩ := hQ295
  obtain ⟨lc295, X295, N295⟩ := own_pack X295 l295 y295 z295 N292 N295q (C := 5) (S' := 30) rfl rfl
  refine own_thr (a := T295.setTop (mkF m 435 #[.val (.int p0), .val (.int p1), .val (.int p2), .val (.int p3), .val (.int p4), .val (.int p5), .val (.int n), .val (.int s0), .val (.int d1), .val (.int tt), .val (.int d2), .val (.int s1), .val (.int s2), .val (.int (3 : Int32)), .val (.int (1 : Int32)), .val (.int (0 : Int32)), .val (.ref b241), .val (.ref b249), .val (.ref b261), .val (.int (1 : Int32))] [(.int (((own_up (own_up (own_up (own_up (own_up (own_up (own_up (own_up (fun _ => 0) s0 (0 : Int32)) s1 (0 : Int32)) s0 (s1 + (1 : Int32))) s2 (0 : Int32)) s1 (s2 + (1 : Int32))) s0 (0 : Int32)) s0 (0 : Int32)) s2 (s0 + (1 : Int32))) s0) - (1 : Int32)))])) (fun t kt => st295.trans kt) ?_
  refine own_thr (a := T295.setTop (mkF m 448 #[.val (.int p0), .val (.int p1), .val (.int p2), .val (.int p3), .val (.int p4), .val (.int p5), .val (.int n), .val (.int s0), .val (.int d1), .val (.int tt), .val (.int d2), .val (.int s1), .val (.int s2), .val (.int (3 : Int32)), .val (.int (1 : Int32)), .val (.int (0 : Int32)), .val (.ref b241), .val (.ref b249), .val (.ref b261), .val (.int (1 : Int32))] [(.int (1 : Int32))])) (fun t kt => ?_) ?_
  · show Steps p.tables e below (T295.setTop (mkF m 435 #[.val (.int p0), .val (.int p1), .val (.int p2), .val (.int p3), .val (.int p4), .val (.int p5), .val (.int n), .val (.int s0), .val (.int d1), .val (.int tt), .val (.int d2), .val (.int s1), .val (.int s2), .val (.int (3 : Int32)), .val (.int (1 : Int32)), .val (.int (0 : Int32)), .val (.ref b241), .val (.ref b249), .val (.ref b261), .val (.int (1 : Int32))] [(.int (((own_up (own_up (own_up (own_up (own_up (own_up (own_up (own_up (fun _ => 0) s0 (0 : Int32)) s1 (0 : Int32)) s0 (s1 + (1 : Int32))) s2 (0 : Int32)) s1 (s2 + (1 : Int32))) s0 (0 : Int32)) s0 (0 : Int32)) s2 (s0 + (1 : Int32))) s0) - (1 : Int32)))])) _
    refine XS.iconst X295.here hx rfl (hb hby at_435) ?_
    refine XS.icmpNo X295.here hx rfl (hb hby at_436) rfl (teq (by simp [own_up, own_as, n01, n10, n02, n20, n12, n21])).2 ?_
    refine XS.iconst X295.here hx rfl (hb hby at_439) ?_
    refine XS.goto X295.here hx rfl (pc0 := 440) (pc' := 444) rfl (hb hby at_440) (by decide) (by decide) ?_
    refine XS.istore X295.here hx rfl (hb hby at_444) rfl (l' := #[.val (.int p0), .val (.int p1), .val (.int p2), .val (.int p3), .val (.int p4), .val (.int p5), .val (.int n), .val (.int s0), .val (.int d1), .val (.int tt), .val (.int d2), .val (.int s1), .val (.int s2), .val (.int (3 : Int32)), .val (.int (1 : Int32)), .val (.int (0 : Int32)), .val (.ref b241), .val (.ref b249), .val (.ref b261), .val (.int (1 : Int32))]) rfl ?_
    refine XS.iload X295.here hx rfl (hb hby at_446) rfl ?_
    exact kt
  exact own_end X295 hlk (v := some (.int (1 : Int32))) (fun h => by rw [hret] at h; cases h) (fun fs hr => retN X295 hx (t := .boolean) hret (by simp) (hb hby at_448) hr) ⟨rfl, N295⟩ (by decide : 5 ≤ _) (by decide : 30 ≤ _)
set_option maxRecDepth 65536 in
set_option maxHeartbeats 40000000 in
theorem tl311 {p : Program} {l : Launch} {e : Env} {s : State} {m : MethodId} {below : List Frame} {meth : Method} {c : Code} {Z : State} {a0 : Array Value} (p0 : Int32) (p1 : Int32) (p2 : Int32) (p3 : Int32) (p4 : Int32) (p5 : Int32) {h0 : Heap} {n0 : Nat} (Z0 : n0 ≤ h0.size) (hw : ∀ d ∈ tables_1, d.before a0 Z = true) (hx : p.tables.exec = Jvm.exec) (hZ : Z.Warmed39 s.vm) (hby : c.code = code) (hml : c.maxLocals = 20) (hown : s.vm.findClass "dev/chainlatch/bucket/OrderAppendPinLaw" = some m.cls) (hlk : meth.locks = false) (hret : meth.sig.returnType = ret)
    {T0 : State} {lc0 : List Loc} (X0 : Stand p l e room_1 s m #[(.int p0), (.int p1), (.int p2), (.int p3), (.int p4), (.int p5)] below meth c T0 lc0 0 0) (N0 : Fr n0 lc0) (e0 : T0.heap = h0) (n s0 d1 tt d2 s1 s2 r : Int32) (hH : own_H n s0 s1 s2) : own_G p.tables e below s (Q0 Z p0 p1 p2 p3 p4 p5 h0 n0) room_1.cells room_1.slots (T0.setTop (mkF m 116 #[.val (.int p0), .val (.int p1), .val (.int p2), .val (.int p3), .val (.int p4), .val (.int p5), .val (.int n), .val (.int s0), .val (.int d1), .val (.int tt), .val (.int d2), .val (.int s1), .val (.int s2), .val (.int (3 : Int32)), .val (.int (1 : Int32)), .val (.int (1 : Int32)), .unset, .unset, .unset, .unset] [])) := by
  obtain ⟨⟨hn0, hn1⟩, ⟨hs00, hs01⟩, ⟨hs10, hs11⟩, ⟨hs20, hs21⟩, n01, n02, n12⟩ := hH
  have n10 : ¬ s1 = s0 := fun q => n01 q.symm
  have n20 : ¬ s2 = s0 := fun q => n02 q.symm
  have n21 : ¬ s2 = s1 := fun q => n12 q.symm
  refine own_thr (a := T0.setTop (mkF m 117 #[.val (.int p0), .val (.int p1), .val (.int p2), .val (.int p3), .val (.int p4), .val (.int p5), .val (.int n), .val (.int s0), .val (.int d1), .val (.int tt), .val (.int d2), .val (.int s1), .val (.int s2), .val (.int (3 : Int32)), .val (.int (1 : Int32)), .val (.int (1 : Int32)), .unset, .unset, .unset, .unset] [(.int (3 : Int32))])) (fun t kt => ?_) ?_
  · show Steps p.tables e below (T0.setTop (mkF m 116 #[.val (.int p0), .val (.int p1), .val (.int p2), .val (.int p3), .val (.int p4), .val (.int p5), .val (.int n), .val (.int s0), .val (.int d1), .val (.int tt), .val (.int d2), .val (.int s1), .val (.int s2), .val (.int (3 : Int32)), .val (.int (1 : Int32)), .val (.int (1 : Int32)), .unset, .unset, .unset, .unset] [])) _
    refine XS.iconst X0.here hx rfl (hb hby at_116) ?_
    exact kt
  obtain ⟨T296, h296, k296, X296, e296, E296, A296, st296⟩ := newP X0 hx hZ (hw _ (List.mem_of_getElem? (i := 2) rfl)) e0 (g := (mkF m 117 #[.val (.int p0), .val (.int p1), .val (.int p2), .val (.int p3), .val (.int p4), .val (.int p5), .val (.int n), .val (.int s0), .val (.int d1), .val (.int tt), .val (.int d2), .val (.int s1), .val (.int s2), .val (.int (3 : Int32)), .val (.int (1 : Int32)), .val (.int (1 : Int32)), .unset, .unset, .unset, .unset] [(.int (3 : Int32))])) rfl (hb hby at_117) rfl (by decide) (cap := 3) (by decide) (by decide) (by decide : 0 + 1 ≤ _) (by decide : 0 + 3 ≤ _)
  obtain ⟨b296, g296⟩ : ∃ z, z = h0.size := ⟨_, rfl⟩
  rw [← g296] at A296 st296
  have g_b296 : n0 ≤ b296 := Nat.le_trans Z0 (Nat.le_of_eq g296.symm)
  have sz_b296 : h0.size ≤ b296 := Nat.le_trans (Nat.le_refl h0.size) (Nat.le_of_eq g296.symm)
  have V_b296 : Arv Z h296 b296 k296 .int (3 : Int32) [(.int (0 : Int32)), (.int (0 : Int32)), (.int (0 : Int32))] (.int (0 : Int32)) := (Arv.new A296 (by decide)).pad (pad_rep [] (.int (0 : Int32)) 3)
  have Z297 : n0 ≤ h296.size := Nat.le_trans Z0 E296.1
  have Z297h : h0.size ≤ h296.size := Nat.le_trans (Nat.le_refl h0.size) E296.1
  refine own_thr (a := T296.setTop (mkF m 119 #[.val (.int p0), .val (.int p1), .val (.int p2), .val (.int p3), .val (.int p4), .val (.int p5), .val (.int n), .val (.int s0), .val (.int d1), .val (.int tt), .val (.int d2), .val (.int s1), .val (.int s2), .val (.int (3 : Int32)), .val (.int (1 : Int32)), .val (.int (1 : Int32)), .unset, .unset, .unset, .unset] [(.ref b296)])) (fun t kt => st296 t kt) ?_
  refine own_thr (a := T296.setTop (mkF m 123 #[.val (.int p0), .val (.int p1), .val (.int p2), .val (.int p3), .val (.int p4), .val (.int p5), .val (.int n), .val (.int s0), .val (.int d1), .val (.int tt), .val (.int d2), .val (.int s1), .val (.int s2), .val (.int (3 : Int32)), .val (.int (1 : Int32)), .val (.int (1 : Int32)), .unset, .unset, .unset, .unset] [(.int s0), (.int (0 : Int32)), (.ref b296), (.ref b296)])) (fun t kt => ?_) ?_
  · show Steps p.tables e below (T296.setTop (mkF m 119 #[.val (.int p0), .val (.int p1), .val (.int p2), .val (.int p3), .val (.int p4), .val (.int p5), .val (.int n), .val (.int s0), .val (.int d1), .val (.int tt), .val (.int d2), .val (.int s1), .val (.int s2), .val (.int (3 : Int32)), .val (.int (1 : Int32)), .val (.int (1 : Int32)), .unset, .unset, .unset, .unset] [(.ref b296)])) _
    refine XS.dup X296.here hx rfl (hb hby at_119) rfl rfl ?_
    refine XS.iconst X296.here hx rfl (hb hby at_120) ?_
    refine XS.iload X296.here hx rfl (hb hby at_121) rfl ?_
    exact kt
  obtain ⟨cl298, Ar298, q298, S298, M298, H298, G298⟩ := id V_b296
  have hin298 : ¬ ((0 : Int32) < 0 ∨ cl298.slots.size ≤ ((0 : Int32)).toNatClampNeg) := inb_of S298 ⟨by decide, by decide⟩
  obtain ⟨T298, h298, X298, e298, W298, st298⟩ := stI X296 hx hZ e296 Ar298 (j := (0 : Int32)) hin298 (g := (mkF m 123 #[.val (.int p0), .val (.int p1), .val (.int p2), .val (.int p3), .val (.int p4), .val (.int p5), .val (.int n), .val (.int s0), .val (.int d1), .val (.int tt), .val (.int d2), .val (.int s1), .val (.int s2), .val (.int (3 : Int32)), .val (.int (1 : Int32)), .val (.int (1 : Int32)), .unset, .unset, .unset, .unset] [(.int s0), (.int (0 : Int32)), (.ref b296), (.ref b296)])) rfl rfl (hb hby at_123)
  have Z299 : n0 ≤ h298.size := Nat.le_trans Z297 (Nat.le_of_eq W298.size.symm)
  have Z299h : h0.size ≤ h298.size := Nat.le_trans Z297h (Nat.le_of_eq W298.size.symm)
  have V298 : Arv Z h298 b296 k296 .int (3 : Int32) [(.int s0), (.int (0 : Int32)), (.int (0 : Int32))] (.int (0 : Int32)) := Arv.set Ar298 q298 S298 M298 H298 G298 rfl W298 0 rfl (Nat.le_of_ble_eq_true rfl)
  obtain ⟨lc298, X298, N298⟩ := own_pack1 X298 N0 g_b296
  refine own_thr (a := T298.setTop (mkF m 124 #[.val (.int p0), .val (.int p1), .val (.int p2), .val (.int p3), .val (.int p4), .val (.int p5), .val (.int n), .val (.int s0), .val (.int d1), .val (.int tt), .val (.int d2), .val (.int s1), .val (.int s2), .val (.int (3 : Int32)), .val (.int (1 : Int32)), .val (.int (1 : Int32)), .unset, .unset, .unset, .unset] [(.ref b296)])) (fun t kt => st298 t kt) ?_
  refine own_thr (a := T298.setTop (mkF m 128 #[.val (.int p0), .val (.int p1), .val (.int p2), .val (.int p3), .val (.int p4), .val (.int p5), .val (.int n), .val (.int s0), .val (.int d1), .val (.int tt), .val (.int d2), .val (.int s1), .val (.int s2), .val (.int (3 : Int32)), .val (.int (1 : Int32)), .val (.int (1 : Int32)), .unset, .unset, .unset, .unset] [(.int s1), (.int (1 : Int32)), (.ref b296), (.ref b296)])) (fun t kt => ?_) ?_
  · show Steps p.tables e below (T298.setTop (mkF m 124 #[.val (.int p0), .val (.int p1), .val (.int p2), .val (.int p3), .val (.int p4), .val (.int p5), .val (.int n), .val (.int s0), .val (.int d1), .val (.int tt), .val (.int d2), .val (.int s1), .val (.int s2), .val (.int (3 : Int32)), .val (.int (1 : Int32)), .val (.int (1 : Int32)), .unset, .unset, .unset, .unset] [(.ref b296)])) _
    refine XS.dup X298.here hx rfl (hb hby at_124) rfl rfl ?_
    refine XS.iconst X298.here hx rfl (hb hby at_125) ?_
    refine XS.iload X298.here hx rfl (hb hby at_126) rfl ?_
    exact kt
  obtain ⟨cl300, Ar300, q300, S300, M300, H300, G300⟩ := id V298
  have hin300 : ¬ ((1 : Int32) < 0 ∨ cl300.slots.size ≤ ((1 : Int32)).toNatClampNeg) := inb_of S300 ⟨by decide, by decide⟩
  obtain ⟨T300, h300, X300, e300, W300, st300⟩ := stI X298 hx hZ e298 Ar300 (j := (1 : Int32)) hin300 (g := (mkF m 128 #[.val (.int p0), .val (.int p1), .val (.int p2), .val (.int p3), .val (.int p4), .val (.int p5), .val (.int n), .val (.int s0), .val (.int d1), .val (.int tt), .val (.int d2), .val (.int s1), .val (.int s2), .val (.int (3 : Int32)), .val (.int (1 : Int32)), .val (.int (1 : Int32)), .unset, .unset, .unset, .unset] [(.int s1), (.int (1 : Int32)), (.ref b296), (.ref b296)])) rfl rfl (hb hby at_128)
  have Z301 : n0 ≤ h300.size := Nat.le_trans Z299 (Nat.le_of_eq W300.size.symm)
  have Z301h : h0.size ≤ h300.size := Nat.le_trans Z299h (Nat.le_of_eq W300.size.symm)
  have V300 : Arv Z h300 b296 k296 .int (3 : Int32) [(.int s0), (.int s1), (.int (0 : Int32))] (.int (0 : Int32)) := Arv.set Ar300 q300 S300 M300 H300 G300 rfl W300 1 rfl (Nat.le_of_ble_eq_true rfl)
  obtain ⟨lc300, X300, N300⟩ := own_pack1 X300 N298 g_b296
  refine own_thr (a := T300.setTop (mkF m 129 #[.val (.int p0), .val (.int p1), .val (.int p2), .val (.int p3), .val (.int p4), .val (.int p5), .val (.int n), .val (.int s0), .val (.int d1), .val (.int tt), .val (.int d2), .val (.int s1), .val (.int s2), .val (.int (3 : Int32)), .val (.int (1 : Int32)), .val (.int (1 : Int32)), .unset, .unset, .unset, .unset] [(.ref b296)])) (fun t kt => st300 t kt) ?_
  refine own_thr (a := T300.setTop (mkF m 133 #[.val (.int p0), .val (.int p1), .val (.int p2), .val (.int p3), .val (.int p4), .val (.int p5), .val (.int n), .val (.int s0), .val (.int d1), .val (.int tt), .val (.int d2), .val (.int s1), .val (.int s2), .val (.int (3 : Int32)), .val (.int (1 : Int32)), .val (.int (1 : Int32)), .unset, .unset, .unset, .unset] [(.int s2), (.int (2 : Int32)), (.ref b296), (.ref b296)])) (fun t kt => ?_) ?_
  · show Steps p.tables e below (T300.setTop (mkF m 129 #[.val (.int p0), .val (.int p1), .val (.int p2), .val (.int p3), .val (.int p4), .val (.int p5), .val (.int n), .val (.int s0), .val (.int d1), .val (.int tt), .val (.int d2), .val (.int s1), .val (.int s2), .val (.int (3 : Int32)), .val (.int (1 : Int32)), .val (.int (1 : Int32)), .unset, .unset, .unset, .unset] [(.ref b296)])) _
    refine XS.dup X300.here hx rfl (hb hby at_129) rfl rfl ?_
    refine XS.iconst X300.here hx rfl (hb hby at_130) ?_
    refine XS.iload X300.here hx rfl (hb hby at_131) rfl ?_
    exact kt
  obtain ⟨cl302, Ar302, q302, S302, M302, H302, G302⟩ := id V300
  have hin302 : ¬ ((2 : Int32) < 0 ∨ cl302.slots.size ≤ ((2 : Int32)).toNatClampNeg) := inb_of S302 ⟨by decide, by decide⟩
  obtain ⟨T302, h302, X302, e302, W302, st302⟩ := stI X300 hx hZ e300 Ar302 (j := (2 : Int32)) hin302 (g := (mkF m 133 #[.val (.int p0), .val (.int p1), .val (.int p2), .val (.int p3), .val (.int p4), .val (.int p5), .val (.int n), .val (.int s0), .val (.int d1), .val (.int tt), .val (.int d2), .val (.int s1), .val (.int s2), .val (.int (3 : Int32)), .val (.int (1 : Int32)), .val (.int (1 : Int32)), .unset, .unset, .unset, .unset] [(.int s2), (.int (2 : Int32)), (.ref b296), (.ref b296)])) rfl rfl (hb hby at_133)
  have Z303 : n0 ≤ h302.size := Nat.le_trans Z301 (Nat.le_of_eq W302.size.symm)
  have Z303h : h0.size ≤ h302.size := Nat.le_trans Z301h (Nat.le_of_eq W302.size.symm)
  have V302 : Arv Z h302 b296 k296 .int (3 : Int32) [(.int s0), (.int s1), (.int s2)] (.int (0 : Int32)) := Arv.set Ar302 q302 S302 M302 H302 G302 rfl W302 2 rfl (Nat.le_of_ble_eq_true rfl)
  obtain ⟨lc302, X302, N302⟩ := own_pack1 X302 N300 g_b296
  refine own_thr (a := T302.setTop (mkF m 134 #[.val (.int p0), .val (.int p1), .val (.int p2), .val (.int p3), .val (.int p4), .val (.int p5), .val (.int n), .val (.int s0), .val (.int d1), .val (.int tt), .val (.int d2), .val (.int s1), .val (.int s2), .val (.int (3 : Int32)), .val (.int (1 : Int32)), .val (.int (1 : Int32)), .unset, .unset, .unset, .unset] [(.ref b296)])) (fun t kt => st302 t kt) ?_
  refine own_thr (a := T302.setTop (mkF m 137 #[.val (.int p0), .val (.int p1), .val (.int p2), .val (.int p3), .val (.int p4), .val (.int p5), .val (.int n), .val (.int s0), .val (.int d1), .val (.int tt), .val (.int d2), .val (.int s1), .val (.int s2), .val (.int (3 : Int32)), .val (.int (1 : Int32)), .val (.int (1 : Int32)), .val (.ref b296), .unset, .unset, .unset] [(.int (3 : Int32))])) (fun t kt => ?_) ?_
  · show Steps p.tables e below (T302.setTop (mkF m 134 #[.val (.int p0), .val (.int p1), .val (.int p2), .val (.int p3), .val (.int p4), .val (.int p5), .val (.int n), .val (.int s0), .val (.int d1), .val (.int tt), .val (.int d2), .val (.int s1), .val (.int s2), .val (.int (3 : Int32)), .val (.int (1 : Int32)), .val (.int (1 : Int32)), .unset, .unset, .unset, .unset] [(.ref b296)])) _
    refine XS.astore X302.here hx rfl (hb hby at_134) rfl rfl (l' := #[.val (.int p0), .val (.int p1), .val (.int p2), .val (.int p3), .val (.int p4), .val (.int p5), .val (.int n), .val (.int s0), .val (.int d1), .val (.int tt), .val (.int d2), .val (.int s1), .val (.int s2), .val (.int (3 : Int32)), .val (.int (1 : Int32)), .val (.int (1 : Int32)), .val (.ref b296), .unset, .unset, .unset]) rfl ?_
    refine XS.iconst X302.here hx rfl (hb hby at_136) ?_
    exact kt
  obtain ⟨T304, h304, k304, X304, e304, E304, A304, st304⟩ := newP X302 hx hZ (hw _ (List.mem_of_getElem? (i := 2) rfl)) e302 (g := (mkF m 137 #[.val (.int p0), .val (.int p1), .val (.int p2), .val (.int p3), .val (.int p4), .val (.int p5), .val (.int n), .val (.int s0), .val (.int d1), .val (.int tt), .val (.int d2), .val (.int s1), .val (.int s2), .val (.int (3 : Int32)), .val (.int (1 : Int32)), .val (.int (1 : Int32)), .val (.ref b296), .unset, .unset, .unset] [(.int (3 : Int32))])) rfl (hb hby at_137) rfl (by decide) (cap := 3) (by decide) (by decide) (by decide : 1 + 1 ≤ _) (by decide : 3 + 3 ≤ _)
  obtain ⟨b304, g304⟩ : ∃ z, z = h302.size := ⟨_, rfl⟩
  rw [← g304] at A304 st304
  have g_b304 : n0 ≤ b304 := Nat.le_trans Z303 (Nat.le_of_eq g304.symm)
  have sz_b304 : h0.size ≤ b304 := Nat.le_trans Z303h (Nat.le_of_eq g304.symm)
  have lt_b296_b304 : b296 < b304 := Nat.lt_of_lt_of_le V302.lt (Nat.le_of_eq g304.symm)
  have ne_b296_b304 : b296 ≠ b304 := Nat.ne_of_lt lt_b296_b304
  have V_b304 : Arv Z h304 b304 k304 .int (3 : Int32) [(.int (0 : Int32)), (.int (0 : Int32)), (.int (0 : Int32))] (.int (0 : Int32)) := (Arv.new A304 (by decide)).pad (pad_rep [] (.int (0 : Int32)) 3)
  have Z305 : n0 ≤ h304.size := Nat.le_trans Z303 E304.1
  have Z305h : h0.size ≤ h304.size := Nat.le_trans Z303h E304.1
  refine own_thr (a := T304.setTop (mkF m 139 #[.val (.int p0), .val (.int p1), .val (.int p2), .val (.int p3), .val (.int p4), .val (.int p5), .val (.int n), .val (.int s0), .val (.int d1), .val (.int tt), .val (.int d2), .val (.int s1), .val (.int s2), .val (.int (3 : Int32)), .val (.int (1 : Int32)), .val (.int (1 : Int32)), .val (.ref b296), .unset, .unset, .unset] [(.ref b304)])) (fun t kt => st304 t kt) ?_
  refine own_thr (a := T304.setTop (mkF m 164 #[.val (.int p0), .val (.int p1), .val (.int p2), .val (.int p3), .val (.int p4), .val (.int p5), .val (.int n), .val (.int s0), .val (.int d1), .val (.int tt), .val (.int d2), .val (.int s1), .val (.int s2), .val (.int (3 : Int32)), .val (.int (1 : Int32)), .val (.int (1 : Int32)), .val (.ref b296), .val (.ref b304), .unset, .unset] [(.int (0 : Int32)), (.ref b296), (.int (0 : Int32)), (.ref b304)])) (fun t kt => ?_) ?_
  · show Steps p.tables e below (T304.setTop (mkF m 139 #[.val (.int p0), .val (.int p1), .val (.int p2), .val (.int p3), .val (.int p4), .val (.int p5), .val (.int n), .val (.int s0), .val (.int d1), .val (.int tt), .val (.int d2), .val (.int s1), .val (.int s2), .val (.int (3 : Int32)), .val (.int (1 : Int32)), .val (.int (1 : Int32)), .val (.ref b296), .unset, .unset, .unset] [(.ref b304)])) _
    refine XS.astore X304.here hx rfl (hb hby at_139) rfl rfl (l' := #[.val (.int p0), .val (.int p1), .val (.int p2), .val (.int p3), .val (.int p4), .val (.int p5), .val (.int n), .val (.int s0), .val (.int d1), .val (.int tt), .val (.int d2), .val (.int s1), .val (.int s2), .val (.int (3 : Int32)), .val (.int (1 : Int32)), .val (.int (1 : Int32)), .val (.ref b296), .val (.ref b304), .unset, .unset]) rfl ?_
    refine XS.iload X304.here hx rfl (hb hby at_141) rfl ?_
    refine XS.ifNo X304.here hx rfl (hb hby at_143) rfl ((if0 _ _).trans (feq (by decide)).1) ?_
    refine XS.iload X304.here hx rfl (hb hby at_146) rfl ?_
    refine XS.iconst X304.here hx rfl (hb hby at_148) ?_
    refine XS.icmpNo X304.here hx rfl (hb hby at_149) rfl (tlt (by decide)).2.2.2 ?_
    refine XS.aload X304.here hx rfl (hb hby at_152) rfl rfl ?_
    refine XS.iconst X304.here hx rfl (hb hby at_154) ?_
    refine XS.iconst X304.here hx rfl (hb hby at_155) ?_
    refine XS.iload X304.here hx rfl (hb hby at_156) rfl ?_
    refine XS.icmpNo X304.here hx rfl (hb hby at_158) rfl (tlt (by decide)).2.1 ?_
    refine XS.aload X304.here hx rfl (hb hby at_161) rfl rfl ?_
    refine XS.iconst X304.here hx rfl (hb hby at_163) ?_
    exact kt
  obtain ⟨cl306, Ar306, -, S306, M306, H306, -⟩ := id (V302.ext E304)
  have hin306 : ¬ ((0 : Int32) < 0 ∨ cl306.slots.size ≤ ((0 : Int32)).toNatClampNeg) := inb_of S306 ⟨by decide, by decide⟩
  have hat306 : cl306.slots[((0 : Int32)).toNatClampNeg]? = some (.int s0) := Has.at H306 hin306 rfl
  refine own_thr (a := T304.setTop (mkF m 172 #[.val (.int p0), .val (.int p1), .val (.int p2), .val (.int p3), .val (.int p4), .val (.int p5), .val (.int n), .val (.int s0), .val (.int d1), .val (.int tt), .val (.int d2), .val (.int s1), .val (.int s2), .val (.int (3 : Int32)), .val (.int (1 : Int32)), .val (.int (1 : Int32)), .val (.ref b296), .val (.ref b304), .unset, .unset] [(.int s0), (.int (0 : Int32)), (.ref b304)])) (fun t kt => ?_) ?_
  · show Steps p.tables e below (T304.setTop (mkF m 164 #[.val (.int p0), .val (.int p1), .val (.int p2), .val (.int p3), .val (.int p4), .val (.int p5), .val (.int n), .val (.int s0), .val (.int d1), .val (.int tt), .val (.int d2), .val (.int s1), .val (.int s2), .val (.int (3 : Int32)), .val (.int (1 : Int32)), .val (.int (1 : Int32)), .val (.ref b296), .val (.ref b304), .unset, .unset] [(.int (0 : Int32)), (.ref b296), (.int (0 : Int32)), (.ref b304)])) _
    refine X304.iaload hx (j := (0 : Int32)) (v := (.int s0)) (by rw [e304]; exact Ar306.1) (State.isArrayOf_alike hZ.alike Ar306.2.1) Ar306.2.2 hin306 hat306 (g := (mkF m 164 #[.val (.int p0), .val (.int p1), .val (.int p2), .val (.int p3), .val (.int p4), .val (.int p5), .val (.int n), .val (.int s0), .val (.int d1), .val (.int tt), .val (.int d2), .val (.int s1), .val (.int s2), .val (.int (3 : Int32)), .val (.int (1 : Int32)), .val (.int (1 : Int32)), .val (.ref b296), .val (.ref b304), .unset, .unset] [(.int (0 : Int32)), (.ref b296), (.int (0 : Int32)), (.ref b304)])) rfl rfl (hb hby at_164) _ ?_
    refine XS.goto X304.here hx rfl (pc0 := 165) (pc' := 172) rfl (hb hby at_165) (by decide) (by decide) ?_
    exact kt
  obtain ⟨cl307, Ar307, q307, S307, M307, H307, G307⟩ := id V_b304
  have hin307 : ¬ ((0 : Int32) < 0 ∨ cl307.slots.size ≤ ((0 : Int32)).toNatClampNeg) := inb_of S307 ⟨by decide, by decide⟩
  obtain ⟨T307, h307, X307, e307, W307, st307⟩ := stI X304 hx hZ e304 Ar307 (j := (0 : Int32)) hin307 (g := (mkF m 172 #[.val (.int p0), .val (.int p1), .val (.int p2), .val (.int p3), .val (.int p4), .val (.int p5), .val (.int n), .val (.int s0), .val (.int d1), .val (.int tt), .val (.int d2), .val (.int s1), .val (.int s2), .val (.int (3 : Int32)), .val (.int (1 : Int32)), .val (.int (1 : Int32)), .val (.ref b296), .val (.ref b304), .unset, .unset] [(.int s0), (.int (0 : Int32)), (.ref b304)])) rfl rfl (hb hby at_172)
  have Z308 : n0 ≤ h307.size := Nat.le_trans Z305 (Nat.le_of_eq W307.size.symm)
  have Z308h : h0.size ≤ h307.size := Nat.le_trans Z305h (Nat.le_of_eq W307.size.symm)
  have V307 : Arv Z h307 b304 k304 .int (3 : Int32) [(.int s0), (.int (0 : Int32)), (.int (0 : Int32))] (.int (0 : Int32)) := Arv.set Ar307 q307 S307 M307 H307 G307 rfl W307 0 rfl (Nat.le_of_ble_eq_true rfl)
  obtain ⟨lc307, X307, N307⟩ := own_pack1 X307 N302 g_b304
  refine own_thr (a := T307.setTop (mkF m 173 #[.val (.int p0), .val (.int p1), .val (.int p2), .val (.int p3), .val (.int p4), .val (.int p5), .val (.int n), .val (.int s0), .val (.int d1), .val (.int tt), .val (.int d2), .val (.int s1), .val (.int s2), .val (.int (3 : Int32)), .val (.int (1 : Int32)), .val (.int (1 : Int32)), .val (.ref b296), .val (.ref b304), .unset, .unset] [])) (fun t kt => st307 t kt) ?_
  refine own_thr (a := T307.setTop (mkF m 198 #[.val (.int p0), .val (.int p1), .val (.int p2), .val (.int p3), .val (.int p4), .val (.int p5), .val (.int n), .val (.int s0), .val (.int d1), .val (.int tt), .val (.int d2), .val (.int s1), .val (.int s2), .val (.int (3 : Int32)), .val (.int (1 : Int32)), .val (.int (1 : Int32)), .val (.ref b296), .val (.ref b304), .unset, .unset] [(.int (2 : Int32)), (.ref b296), (.int (1 : Int32)), (.ref b304)])) (fun t kt => ?_) ?_
  · show Steps p.tables e below (T307.setTop (mkF m 173 #[.val (.int p0), .val (.int p1), .val (.int p2), .val (.int p3), .val (.int p4), .val (.int p5), .val (.int n), .val (.int s0), .val (.int d1), .val (.int tt), .val (.int d2), .val (.int s1), .val (.int s2), .val (.int (3 : Int32)), .val (.int (1 : Int32)), .val (.int (1 : Int32)), .val (.ref b296), .val (.ref b304), .unset, .unset] [])) _
    refine XS.iload X307.here hx rfl (hb hby at_173) rfl ?_
    refine XS.iconst X307.here hx rfl (hb hby at_175) ?_
    refine XS.icmpNo X307.here hx rfl (hb hby at_176) rfl (tlt (by decide)).2.2.2 ?_
    refine XS.aload X307.here hx rfl (hb hby at_179) rfl rfl ?_
    refine XS.iconst X307.here hx rfl (hb hby at_181) ?_
    refine XS.iconst X307.here hx rfl (hb hby at_182) ?_
    refine XS.iload X307.here hx rfl (hb hby at_183) rfl ?_
    refine XS.icmpYes X307.here hx rfl (pc0 := 185) (pc' := 195) rfl (hb hby at_185) rfl (flt (by decide)).2.1 (by decide) (by decide) ?_
    refine XS.aload X307.here hx rfl (hb hby at_195) rfl rfl ?_
    refine XS.iconst X307.here hx rfl (hb hby at_197) ?_
    exact kt
  obtain ⟨cl309, Ar309, -, S309, M309, H309, -⟩ := id ((V302.ext E304).other W307 ne_b296_b304)
  have hin309 : ¬ ((2 : Int32) < 0 ∨ cl309.slots.size ≤ ((2 : Int32)).toNatClampNeg) := inb_of S309 ⟨by decide, by decide⟩
  have hat309 : cl309.slots[((2 : Int32)).toNatClampNeg]? = some (.int s2) := Has.at H309 hin309 rfl
  refine own_thr (a := T307.setTop (mkF m 199 #[.val (.int p0), .val (.int p1), .val (.int p2), .val (.int p3), .val (.int p4), .val (.int p5), .val (.int n), .val (.int s0), .val (.int d1), .val (.int tt), .val (.int d2), .val (.int s1), .val (.int s2), .val (.int (3 : Int32)), .val (.int (1 : Int32)), .val (.int (1 : Int32)), .val (.ref b296), .val (.ref b304), .unset, .unset] [(.int s2), (.int (1 : Int32)), (.ref b304)])) (fun t kt => ?_) ?_
  · show Steps p.tables e below (T307.setTop (mkF m 198 #[.val (.int p0), .val (.int p1), .val (.int p2), .val (.int p3), .val (.int p4), .val (.int p5), .val (.int n), .val (.int s0), .val (.int d1), .val (.int tt), .val (.int d2), .val (.int s1), .val (.int s2), .val (.int (3 : Int32)), .val (.int (1 : Int32)), .val (.int (1 : Int32)), .val (.ref b296), .val (.ref b304), .unset, .unset] [(.int (2 : Int32)), (.ref b296), (.int (1 : Int32)), (.ref b304)])) _
    refine X307.iaload hx (j := (2 : Int32)) (v := (.int s2)) (by rw [e307]; exact Ar309.1) (State.isArrayOf_alike hZ.alike Ar309.2.1) Ar309.2.2 hin309 hat309 (g := (mkF m 198 #[.val (.int p0), .val (.int p1), .val (.int p2), .val (.int p3), .val (.int p4), .val (.int p5), .val (.int n), .val (.int s0), .val (.int d1), .val (.int tt), .val (.int d2), .val (.int s1), .val (.int s2), .val (.int (3 : Int32)), .val (.int (1 : Int32)), .val (.int (1 : Int32)), .val (.ref b296), .val (.ref b304), .unset, .unset] [(.int (2 : Int32)), (.ref b296), (.int (1 : Int32)), (.ref b304)])) rfl rfl (hb hby at_198) _ ?_
    exact kt
  obtain ⟨cl310, Ar310, q310, S310, M310, H310, G310⟩ := id V307
  have hin310 : ¬ ((1 : Int32) < 0 ∨ cl310.slots.size ≤ ((1 : Int32)).toNatClampNeg) := inb_of S310 ⟨by decide, by decide⟩
  obtain ⟨T310, h310, X310, e310, W310, st310⟩ := stI X307 hx hZ e307 Ar310 (j := (1 : Int32)) hin310 (g := (mkF m 199 #[.val (.int p0), .val (.int p1), .val (.int p2), .val (.int p3), .val (.int p4), .val (.int p5), .val (.int n), .val (.int s0), .val (.int d1), .val (.int tt), .val (.int d2), .val (.int s1), .val (.int s2), .val (.int (3 : Int32)), .val (.int (1 : Int32)), .val (.int (1 : Int32)), .val (.ref b296), .val (.ref b304), .unset, .unset] [(.int s2), (.int (1 : Int32)), (.ref b304)])) rfl rfl (hb hby at_199)
  have Z311 : n0 ≤ h310.size := Nat.le_trans Z308 (Nat.le_of_eq W310.size.symm)
  have Z311h : h0.size ≤ h310.size := Nat.le_trans Z308h (Nat.le_of_eq W310.size.symm)
  have V310 : Arv Z h310 b304 k304 .int (3 : Int32) [(.int s0), (.int s2), (.int (0 : Int32))] (.int (0 : Int32)) := Arv.set Ar310 q310 S310 M310 H310 G310 rfl W310 1 rfl (Nat.le_of_ble_eq_true rfl)
  obtain ⟨lc310, X310, N310⟩ := own_pack1 X310 N307 g_b304
  refine own_thr (a := T310.setTop (mkF m 200 #[.val (.int p0), .val (.int p1), .val (.int p2), .val (.int p3), .val (.int p4), .val (.int p5), .val (.int n), .val (.int s0), .val (.int d1), .val (.int tt), .val (.int d2), .val (.int s1), .val (.int s2), .val (.int (3 : Int32)), .val (.int (1 : Int32)), .val (.int (1 : Int32)), .val (.ref b296), .val (.ref b304), .unset, .unset] [])) (fun t kt => st310 t kt) ?_
  refine own_thr (a := T310.setTop (mkF m 210 #[.val (.int p0), .val (.int p1), .val (.int p2), .val (.int p3), .val (.int p4), .val (.int p5), .val (.int n), .val (.int s0), .val (.int d1), .val (.int tt), .val (.int d2), .val (.int s1), .val (.int s2), .val (.int (3 : Int32)), .val (.int (1 : Int32)), .val (.int (1 : Int32)), .val (.ref b296), .val (.ref b304), .unset, .unset] [(.int (1 : Int32)), (.ref b296), (.int (2 : Int32)), (.ref b304)])) (fun t kt => ?_) ?_
  · show Steps p.tables e below (T310.setTop (mkF m 200 #[.val (.int p0), .val (.int p1), .val (.int p2), .val (.int p3), .val (.int p4), .val (.int p5), .val (.int n), .val (.int s0), .val (.int d1), .val (.int tt), .val (.int d2), .val (.int s1), .val (.int s2), .val (.int (3 : Int32)), .val (.int (1 : Int32)), .val (.int (1 : Int32)), .val (.ref b296), .val (.ref b304), .unset, .unset] [])) _
    refine XS.aload X310.here hx rfl (hb hby at_200) rfl rfl ?_
    refine XS.iload X310.here hx rfl (hb hby at_202) rfl ?_
    refine XS.iconst X310.here hx rfl (hb hby at_204) ?_
    refine XS.isub X310.here hx rfl (hb hby at_205) rfl ?_
    refine XS.aload X310.here hx rfl (hb hby at_206) rfl rfl ?_
    refine XS.iload X310.here hx rfl (hb hby at_208) rfl ?_
    exact kt
  have c313 := (((V302.ext E304).other W307 ne_b296_b304).other W310 ne_b296_b304)
  obtain ⟨cl312, Ar312, -, S312, M312, H312, -⟩ := id c313
  have hin312 : ¬ ((1 : Int32) < 0 ∨ cl312.slots.size ≤ ((1 : Int32)).toNatClampNeg) := inb_of S312 ⟨by decide, by decide⟩
  have hat312 : cl312.slots[((1 : Int32)).toNatClampNeg]? = some (.int s1) := Has.at H312 hin312 rfl
  refine own_thr (a := T310.setTop (mkF m 211 #[.val (.int p0), .val (.int p1), .val (.int p2), .val (.int p3), .val (.int p4), .val (.int p5), .val (.int n), .val (.int s0), .val (.int d1), .val (.int tt), .val (.int d2), .val (.int s1), .val (.int s2), .val (.int (3 : Int32)), .val (.int (1 : Int32)), .val (.int (1 : Int32)), .val (.ref b296), .val (.ref b304), .unset, .unset] [(.int s1), (.int (2 : Int32)), (.ref b304)])) (fun t kt => ?_) ?_
  · show Steps p.tables e below (T310.setTop (mkF m 210 #[.val (.int p0), .val (.int p1), .val (.int p2), .val (.int p3), .val (.int p4), .val (.int p5), .val (.int n), .val (.int s0), .val (.int d1), .val (.int tt), .val (.int d2), .val (.int s1), .val (.int s2), .val (.int (3 : Int32)), .val (.int (1 : Int32)), .val (.int (1 : Int32)), .val (.ref b296), .val (.ref b304), .unset, .unset] [(.int (1 : Int32)), (.ref b296), (.int (2 : Int32)), (.ref b304)])) _
    refine X310.iaload hx (j := (1 : Int32)) (v := (.int s1)) (by rw [e310]; exact Ar312.1) (State.isArrayOf_alike hZ.alike Ar312.2.1) Ar312.2.2 hin312 hat312 (g := (mkF m 210 #[.val (.int p0), .val (.int p1), .val (.int p2), .val (.int p3), .val (.int p4), .val (.int p5), .val (.int n), .val (.int s0), .val (.int d1), .val (.int tt), .val (.int d2), .val (.int s1), .val (.int s2), .val (.int (3 : Int32)), .val (.int (1 : Int32)), .val (.int (1 : Int32)), .val (.ref b296), .val (.ref b304), .unset, .unset] [(.int (1 : Int32)), (.ref b296), (.int (2 : Int32)), (.ref b304)])) rfl rfl (hb hby at_210) _ ?_
    exact kt
  obtain ⟨cl314, Ar314, q314, S314, M314, H314, G314⟩ := id V310
  have hin314 : ¬ ((2 : Int32) < 0 ∨ cl314.slots.size ≤ ((2 : Int32)).toNatClampNeg) := inb_of S314 ⟨by decide, by decide⟩
  obtain ⟨T314, h314, X314, e314, W314, st314⟩ := stI X310 hx hZ e310 Ar314 (j := (2 : Int32)) hin314 (g := (mkF m 211 #[.val (.int p0), .val (.int p1), .val (.int p2), .val (.int p3), .val (.int p4), .val (.int p5), .val (.int n), .val (.int s0), .val (.int d1), .val (.int tt), .val (.int d2), .val (.int s1), .val (.int s2), .val (.int (3 : Int32)), .val (.int (1 : Int32)), .val (.int (1 : Int32)), .val (.ref b296), .val (.ref b304), .unset, .unset] [(.int s1), (.int (2 : Int32)), (.ref b304)])) rfl rfl (hb hby at_211)
  have Z315 : n0 ≤ h314.size := Nat.le_trans Z311 (Nat.le_of_eq W314.size.symm)
  have Z315h : h0.size ≤ h314.size := Nat.le_trans Z311h (Nat.le_of_eq W314.size.symm)
  have V314 : Arv Z h314 b304 k304 .int (3 : Int32) [(.int s0), (.int s2), (.int s1)] (.int (0 : Int32)) := Arv.set Ar314 q314 S314 M314 H314 G314 rfl W314 2 rfl (Nat.le_of_ble_eq_true rfl)
  obtain ⟨lc314, X314, N314⟩ := own_pack1 X314 N310 g_b304
  refine own_thr (a := T314.setTop (mkF m 212 #[.val (.int p0), .val (.int p1), .val (.int p2), .val (.int p3), .val (.int p4), .val (.int p5), .val (.int n), .val (.int s0), .val (.int d1), .val (.int tt), .val (.int d2), .val (.int s1), .val (.int s2), .val (.int (3 : Int32)), .val (.int (1 : Int32)), .val (.int (1 : Int32)), .val (.ref b296), .val (.ref b304), .unset, .unset] [])) (fun t kt => st314 t kt) ?_
  refine own_thr (a := T314.setTop (mkF m 239 #[.val (.int p0), .val (.int p1), .val (.int p2), .val (.int p3), .val (.int p4), .val (.int p5), .val (.int n), .val (.int s0), .val (.int d1), .val (.int tt), .val (.int d2), .val (.int s1), .val (.int s2), .val (.int (3 : Int32)), .val (.int (1 : Int32)), .val (.int (1 : Int32)), .val (.ref b296), .val (.ref b304), .unset, .unset] [])) (fun t kt => ?_) ?_
  · show Steps p.tables e below (T314.setTop (mkF m 212 #[.val (.int p0), .val (.int p1), .val (.int p2), .val (.int p3), .val (.int p4), .val (.int p5), .val (.int n), .val (.int s0), .val (.int d1), .val (.int tt), .val (.int d2), .val (.int s1), .val (.int s2), .val (.int (3 : Int32)), .val (.int (1 : Int32)), .val (.int (1 : Int32)), .val (.ref b296), .val (.ref b304), .unset, .unset] [])) _
    refine XS.goto X314.here hx rfl (pc0 := 212) (pc' := 239) rfl (hb hby at_212) (by decide) (by decide) ?_
    exact kt
  obtain ⟨T316, h316, X316, e316, E316, A316, D316, U316, st316⟩ := newO X314 hx hZ hown (hw _ (List.mem_of_getElem? (i := 3) rfl)) (hw _ (List.mem_of_getElem? (i := 4) rfl)) (hw _ (List.mem_of_getElem? (i := 5) rfl)) e314 (g := (mkF m 239 #[.val (.int p0), .val (.int p1), .val (.int p2), .val (.int p3), .val (.int p4), .val (.int p5), .val (.int n), .val (.int s0), .val (.int d1), .val (.int tt), .val (.int d2), .val (.int s1), .val (.int s2), .val (.int (3 : Int32)), .val (.int (1 : Int32)), .val (.int (1 : Int32)), .val (.ref b296), .val (.ref b304), .unset, .unset] [])) rfl (hb hby at_239) (by decide : 2 + 1 ≤ _) (by decide : 6 + 4 ≤ _)
  obtain ⟨b316, g316⟩ : ∃ z, z = h314.size := ⟨_, rfl⟩
  rw [← g316] at A316 D316 st316 U316
  have g_b316 : n0 ≤ b316 := Nat.le_trans Z315 (Nat.le_of_eq g316.symm)
  have sz_b316 : h0.size ≤ b316 := Nat.le_trans Z315h (Nat.le_of_eq g316.symm)
  have lt_b296_b316 : b296 < b316 := Nat.lt_of_lt_of_le (c313.other W314 ne_b296_b304).lt (Nat.le_of_eq g316.symm)
  have ne_b296_b316 : b296 ≠ b316 := Nat.ne_of_lt lt_b296_b316
  have lt_b304_b316 : b304 < b316 := Nat.lt_of_lt_of_le V314.lt (Nat.le_of_eq g316.symm)
  have ne_b304_b316 : b304 ≠ b316 := Nat.ne_of_lt lt_b304_b316
  have Z317 : n0 ≤ h316.size := Nat.le_trans Z315 E316.1
  have Z317h : h0.size ≤ h316.size := Nat.le_trans Z315h E316.1
  have F_first_b316 : Fld Z h316 b316 "dev/chainlatch/bucket/Order" "first" "I" (.int (0 : Int32)) := D316 (Or.inl (hw _ (List.mem_of_getElem? (i := 13) rfl))) (ty := .int) (by decide)
  have F_last_b316 : Fld Z h316 b316 "dev/chainlatch/bucket/Order" "last" "I" (.int (0 : Int32)) := D316 (Or.inl (hw _ (List.mem_of_getElem? (i := 15) rfl))) (ty := .int) (by decide)
  have F_before_b316 : Fld Z h316 b316 "dev/chainlatch/bucket/Order" "before" "[I" .null := D316 (Or.inl (hw _ (List.mem_of_getElem? (i := 17) rfl))) (ty := (.array .int)) (by decide)
  have F_after_b316 : Fld Z h316 b316 "dev/chainlatch/bucket/Order" "after" "[I" .null := D316 (Or.inl (hw _ (List.mem_of_getElem? (i := 19) rfl))) (ty := (.array .int)) (by decide)
  refine own_thr (a := T316.setTop (mkF m 242 #[.val (.int p0), .val (.int p1), .val (.int p2), .val (.int p3), .val (.int p4), .val (.int p5), .val (.int n), .val (.int s0), .val (.int d1), .val (.int tt), .val (.int d2), .val (.int s1), .val (.int s2), .val (.int (3 : Int32)), .val (.int (1 : Int32)), .val (.int (1 : Int32)), .val (.ref b296), .val (.ref b304), .unset, .unset] [(.ref b316)])) (fun t kt => st316 t kt) ?_
  refine own_thr (a := T316.setTop (mkF m 245 #[.val (.int p0), .val (.int p1), .val (.int p2), .val (.int p3), .val (.int p4), .val (.int p5), .val (.int n), .val (.int s0), .val (.int d1), .val (.int tt), .val (.int d2), .val (.int s1), .val (.int s2), .val (.int (3 : Int32)), .val (.int (1 : Int32)), .val (.int (1 : Int32)), .val (.ref b296), .val (.ref b304), .unset, .unset] [(.int n), (.ref b316), (.ref b316)])) (fun t kt => ?_) ?_
  · show Steps p.tables e below (T316.setTop (mkF m 242 #[.val (.int p0), .val (.int p1), .val (.int p2), .val (.int p3), .val (.int p4), .val (.int p5), .val (.int n), .val (.int s0), .val (.int d1), .val (.int tt), .val (.int d2), .val (.int s1), .val (.int s2), .val (.int (3 : Int32)), .val (.int (1 : Int32)), .val (.int (1 : Int32)), .val (.ref b296), .val (.ref b304), .unset, .unset] [(.ref b316)])) _
    refine XS.dup X316.here hx rfl (hb hby at_242) rfl rfl ?_
    refine XS.iload X316.here hx rfl (hb hby at_243) rfl ?_
    exact kt
  obtain ⟨_, _, ⟨T318, L318, k318, n318⟩, -, X318, ⟨Lc318, hQ318, l318, y318, z318⟩, st318⟩ := X316.specialBack hx (y := (⟨"dev/chainlatch/bucket/Order", "<init>", "(I)V"⟩ : MethodName)) rfl hown (mvT hZ (hw _ (List.mem_of_getElem? (i := 6) rfl))) (mvT hZ (hw _ (List.mem_of_getElem? (i := 7) rfl))) (mvT hZ (hw _ (List.mem_of_getElem? (i := 8) rfl))) (by decide) (backOf (W := 1) (rmI l Z a0 hw [] b316 n h316 n0 Z317 A316 F_first_b316 F_last_b316 F_before_b316 F_after_b316 g_b316 hn0 hn1) hZ (hw _ (List.mem_of_getElem? (i := 8) rfl)) (hw _ (List.mem_of_getElem? (i := 5) rfl)) (by decide) (by decide)) (g := (mkF m 245 #[.val (.int p0), .val (.int p1), .val (.int p2), .val (.int p3), .val (.int p4), .val (.int p5), .val (.int n), .val (.int s0), .val (.int d1), .val (.int tt), .val (.int d2), .val (.int s1), .val (.int s2), .val (.int (3 : Int32)), .val (.int (1 : Int32)), .val (.int (1 : Int32)), .val (.ref b296), .val (.ref b304), .unset, .unset] [(.int n), (.ref b316), (.ref b316)])) rfl (by rw [hml]; rfl) (Steps.refl _) (a := b316) (argsL := [(.int n)]) (rest := [(.ref b316)]) (lenOf pd__28I_29V rfl) rfl (by show 2 * 0 + _ ≤ _; exact Nat.le_of_eq rfl) (hb hby at_245) (fun _ _ => ⟨rfl, e316, (by decide : 3 + 2 ≤ _), (by decide : 10 + 20 ≤ _)⟩)
  dsimp only [Pt.U, Pt.locs, Pt.cells, Pt.slots] at X318 l318 y318 z318 st318 hQ318
  obtain ⟨B318, A318, rfl, N318q, K318, o318_e, o318_f, o318_l, o318_b, o318_a, o318_B, o318_A, hB318, hBA318⟩ := hQ318
  have ne_b296_B318 : b296 ≠ B318 := Nat.ne_of_lt (Nat.lt_of_lt_of_le ((c313.other W314 ne_b296_b304).ext E316).lt hB318)
  have ne_b296_A318 : b296 ≠ A318 := Nat.ne_of_lt (Nat.lt_trans (Nat.lt_of_lt_of_le ((c313.other W314 ne_b296_b304).ext E316).lt hB318) hBA318)
  have ne_b304_B318 : b304 ≠ B318 := Nat.ne_of_lt (Nat.lt_of_lt_of_le (V314.ext E316).lt hB318)
  have ne_b304_A318 : b304 ≠ A318 := Nat.ne_of_lt (Nat.lt_trans (Nat.lt_of_lt_of_le (V314.ext E316).lt hB318) hBA318)
  have ne_b316_B318 : b316 ≠ B318 := Nat.ne_of_lt (Nat.lt_of_lt_of_le A316.lt hB318)
  have ne_b316_A318 : b316 ≠ A318 := Nat.ne_of_lt (Nat.lt_trans (Nat.lt_of_lt_of_le A316.lt hB318) hBA318)
  have ne_B318_A318 : B318 ≠ A318 := Nat.ne_of_lt hBA318
  have g_B318 : n0 ≤ B318 := Nat.le_trans Z317 hB318
  have g_A318 : n0 ≤ A318 := Nat.le_trans g_B318 (Nat.le_of_lt hBA318)
  have Z319 : n0 ≤ T318.heap.size := Nat.le_trans Z317 K318.1
  have Z319h : h0.size ≤ T318.heap.size := Nat.le_trans Z317h K318.1
  obtain ⟨lc318, X318, N318⟩ := own_pack X318 l318 y318 z318 N314 N318q (C := 5) (S' := 30) rfl rfl
  refine own_thr (a := T318.setTop (mkF m 248 #[.val (.int p0), .val (.int p1), .val (.int p2), .val (.int p3), .val (.int p4), .val (.int p5), .val (.int n), .val (.int s0), .val (.int d1), .val (.int tt), .val (.int d2), .val (.int s1), .val (.int s2), .val (.int (3 : Int32)), .val (.int (1 : Int32)), .val (.int (1 : Int32)), .val (.ref b296), .val (.ref b304), .unset, .unset] [(.ref b316)])) (fun t kt => st318.trans kt) ?_
  refine own_thr (a := T318.setTop (mkF m 255 #[.val (.int p0), .val (.int p1), .val (.int p2), .val (.int p3), .val (.int p4), .val (.int p5), .val (.int n), .val (.int s0), .val (.int d1), .val (.int tt), .val (.int d2), .val (.int s1), .val (.int s2), .val (.int (3 : Int32)), .val (.int (1 : Int32)), .val (.int (1 : Int32)), .val (.ref b296), .val (.ref b304), .val (.ref b316), .unset] [(.int (0 : Int32)), (.ref b296), (.ref b316)])) (fun t kt => ?_) ?_
  · show Steps p.tables e below (T318.setTop (mkF m 248 #[.val (.int p0), .val (.int p1), .val (.int p2), .val (.int p3), .val (.int p4), .val (.int p5), .val (.int n), .val (.int s0), .val (.int d1), .val (.int tt), .val (.int d2), .val (.int s1), .val (.int s2), .val (.int (3 : Int32)), .val (.int (1 : Int32)), .val (.int (1 : Int32)), .val (.ref b296), .val (.ref b304), .unset, .unset] [(.ref b316)])) _
    refine XS.astore X318.here hx rfl (hb hby at_248) rfl rfl (l' := #[.val (.int p0), .val (.int p1), .val (.int p2), .val (.int p3), .val (.int p4), .val (.int p5), .val (.int n), .val (.int s0), .val (.int d1), .val (.int tt), .val (.int d2), .val (.int s1), .val (.int s2), .val (.int (3 : Int32)), .val (.int (1 : Int32)), .val (.int (1 : Int32)), .val (.ref b296), .val (.ref b304), .val (.ref b316), .unset]) rfl ?_
    refine XS.aload X318.here hx rfl (hb hby at_250) rfl rfl ?_
    refine XS.aload X318.here hx rfl (hb hby at_252) rfl rfl ?_
    refine XS.iconst X318.here hx rfl (hb hby at_254) ?_
    exact kt
  have c321 := (((c313.other W314 ne_b296_b304).ext E316).keep K318 (ninS ne_b296_b316 nin0))
  obtain ⟨cl320, Ar320, -, S320, M320, H320, -⟩ := id c321
  have hin320 : ¬ ((0 : Int32) < 0 ∨ cl320.slots.size ≤ ((0 : Int32)).toNatClampNeg) := inb_of S320 ⟨by decide, by decide⟩
  have hat320 : cl320.slots[((0 : Int32)).toNatClampNeg]? = some (.int s0) := Has.at H320 hin320 rfl
  refine own_thr (a := T318.setTop (mkF m 256 #[.val (.int p0), .val (.int p1), .val (.int p2), .val (.int p3), .val (.int p4), .val (.int p5), .val (.int n), .val (.int s0), .val (.int d1), .val (.int tt), .val (.int d2), .val (.int s1), .val (.int s2), .val (.int (3 : Int32)), .val (.int (1 : Int32)), .val (.int (1 : Int32)), .val (.ref b296), .val (.ref b304), .val (.ref b316), .unset] [(.int s0), (.ref b316)])) (fun t kt => ?_) ?_
  · show Steps p.tables e below (T318.setTop (mkF m 255 #[.val (.int p0), .val (.int p1), .val (.int p2), .val (.int p3), .val (.int p4), .val (.int p5), .val (.int n), .val (.int s0), .val (.int d1), .val (.int tt), .val (.int d2), .val (.int s1), .val (.int s2), .val (.int (3 : Int32)), .val (.int (1 : Int32)), .val (.int (1 : Int32)), .val (.ref b296), .val (.ref b304), .val (.ref b316), .unset] [(.int (0 : Int32)), (.ref b296), (.ref b316)])) _
    refine X318.iaload hx (j := (0 : Int32)) (v := (.int s0)) Ar320.1 (State.isArrayOf_alike hZ.alike Ar320.2.1) Ar320.2.2 hin320 hat320 (g := (mkF m 255 #[.val (.int p0), .val (.int p1), .val (.int p2), .val (.int p3), .val (.int p4), .val (.int p5), .val (.int n), .val (.int s0), .val (.int d1), .val (.int tt), .val (.int d2), .val (.int s1), .val (.int s2), .val (.int (3 : Int32)), .val (.int (1 : Int32)), .val (.int (1 : Int32)), .val (.ref b296), .val (.ref b304), .val (.ref b316), .unset] [(.int (0 : Int32)), (.ref b296), (.ref b316)])) rfl rfl (hb hby at_255) _ ?_
    exact kt
  obtain ⟨cq322, kq322, q322a, q322b, q322c⟩ := isOf hZ rfl o318_e
  obtain ⟨_, _, ⟨T322, L322, k322, n322⟩, -, X322, ⟨Lc322, hQ322, l322, y322, z322⟩, st322⟩ := X318.virtualBack hx (y := (⟨"dev/chainlatch/bucket/Order", "append", "(I)V"⟩ : MethodName)) (z := (⟨"dev/chainlatch/bucket/Order", "append", "(I)V"⟩ : MethodName)) hown (mvT hZ (hw _ (List.mem_of_getElem? (i := 20) rfl))) (mvT hZ (hw _ (List.mem_of_getElem? (i := 21) rfl))) (notFace_of_selects (args := #[]) (mvT hZ (hw _ (List.mem_of_getElem? (i := 23) rfl)))) (mvT hZ (hw _ (List.mem_of_getElem? (i := 23) rfl))) (mvT hZ (hw _ (List.mem_of_getElem? (i := 22) rfl))) (by decide) (backOf (W := 0) (rmA1 l Z a0 hw [] b316 s0 B318 A318 n (-1 : Int32) (-1 : Int32) (fun _ => 0) (fun _ => 0) T318.heap n0 Z319 o318_e o318_f o318_l o318_b o318_a o318_B o318_A g_b316 g_B318 g_A318 ne_b316_B318 ne_b316_A318 ne_B318_A318 hs00 hs01 rfl) hZ (hw _ (List.mem_of_getElem? (i := 24) rfl)) (hw _ (List.mem_of_getElem? (i := 5) rfl)) (by decide) (by decide)) q322a q322c (g := (mkF m 256 #[.val (.int p0), .val (.int p1), .val (.int p2), .val (.int p3), .val (.int p4), .val (.int p5), .val (.int n), .val (.int s0), .val (.int d1), .val (.int tt), .val (.int d2), .val (.int s1), .val (.int s2), .val (.int (3 : Int32)), .val (.int (1 : Int32)), .val (.int (1 : Int32)), .val (.ref b296), .val (.ref b304), .val (.ref b316), .unset] [(.int s0), (.ref b316)])) rfl (by rw [hml]; rfl) (Steps.refl _) (argsL := [(.int s0)]) (rest := []) (lenOf pd__28I_29V rfl) rfl (by show 2 * 0 + _ ≤ _; exact Nat.le_of_eq rfl) (hb hby at_256) (fun _ _ => ⟨rfl, rfl, (by decide : 5 + 0 ≤ _), (by decide : 30 + 0 ≤ _)⟩)
  dsimp only [Pt.U, Pt.locs, Pt.cells, Pt.slots] at X322 l322 y322 z322 st322 hQ322
  obtain ⟨rfl, N322q, K322, o322_0, o322_1, o322_2, o322_3, o322_4, o322_5, o322_6⟩ := hQ322
  have Z323 : n0 ≤ T322.heap.size := Nat.le_trans Z319 K322.1
  have Z323h : h0.size ≤ T322.heap.size := Nat.le_trans Z319h K322.1
  obtain ⟨lc322, X322, N322⟩ := own_pack X322 l322 y322 z322 N318 N322q (C := 5) (S' := 30) rfl rfl
  refine own_thr (a := T322.setTop (mkF m 259 #[.val (.int p0), .val (.int p1), .val (.int p2), .val (.int p3), .val (.int p4), .val (.int p5), .val (.int n), .val (.int s0), .val (.int d1), .val (.int tt), .val (.int d2), .val (.int s1), .val (.int s2), .val (.int (3 : Int32)), .val (.int (1 : Int32)), .val (.int (1 : Int32)), .val (.ref b296), .val (.ref b304), .val (.ref b316), .unset] [])) (fun t kt => st322.trans kt) ?_
  refine own_thr (a := T322.setTop (mkF m 270 #[.val (.int p0), .val (.int p1), .val (.int p2), .val (.int p3), .val (.int p4), .val (.int p5), .val (.int n), .val (.int s0), .val (.int d1), .val (.int tt), .val (.int d2), .val (.int s1), .val (.int s2), .val (.int (3 : Int32)), .val (.int (1 : Int32)), .val (.int (1 : Int32)), .val (.ref b296), .val (.ref b304), .val (.ref b316), .unset] [(.int (1 : Int32)), (.ref b296), (.ref b316)])) (fun t kt => ?_) ?_
  · show Steps p.tables e below (T322.setTop (mkF m 259 #[.val (.int p0), .val (.int p1), .val (.int p2), .val (.int p3), .val (.int p4), .val (.int p5), .val (.int n), .val (.int s0), .val (.int d1), .val (.int tt), .val (.int d2), .val (.int s1), .val (.int s2), .val (.int (3 : Int32)), .val (.int (1 : Int32)), .val (.int (1 : Int32)), .val (.ref b296), .val (.ref b304), .val (.ref b316), .unset] [])) _
    refine XS.iload X322.here hx rfl (hb hby at_259) rfl ?_
    refine XS.iconst X322.here hx rfl (hb hby at_261) ?_
    refine XS.icmpNo X322.here hx rfl (hb hby at_262) rfl (tlt (by decide)).2.2.2 ?_
    refine XS.aload X322.here hx rfl (hb hby at_265) rfl rfl ?_
    refine XS.aload X322.here hx rfl (hb hby at_267) rfl rfl ?_
    refine XS.iconst X322.here hx rfl (hb hby at_269) ?_
    exact kt
  have c325 := (c321.keep K322 (ninS ne_b296_b316 (ninS ne_b296_B318 (ninS ne_b296_A318 nin0))))
  obtain ⟨cl324, Ar324, -, S324, M324, H324, -⟩ := id c325
  have hin324 : ¬ ((1 : Int32) < 0 ∨ cl324.slots.size ≤ ((1 : Int32)).toNatClampNeg) := inb_of S324 ⟨by decide, by decide⟩
  have hat324 : cl324.slots[((1 : Int32)).toNatClampNeg]? = some (.int s1) := Has.at H324 hin324 rfl
  refine own_thr (a := T322.setTop (mkF m 271 #[.val (.int p0), .val (.int p1), .val (.int p2), .val (.int p3), .val (.int p4), .val (.int p5), .val (.int n), .val (.int s0), .val (.int d1), .val (.int tt), .val (.int d2), .val (.int s1), .val (.int s2), .val (.int (3 : Int32)), .val (.int (1 : Int32)), .val (.int (1 : Int32)), .val (.ref b296), .val (.ref b304), .val (.ref b316), .unset] [(.int s1), (.ref b316)])) (fun t kt => ?_) ?_
  · show Steps p.tables e below (T322.setTop (mkF m 270 #[.val (.int p0), .val (.int p1), .val (.int p2), .val (.int p3), .val (.int p4), .val (.int p5), .val (.int n), .val (.int s0), .val (.int d1), .val (.int tt), .val (.int d2), .val (.int s1), .val (.int s2), .val (.int (3 : Int32)), .val (.int (1 : Int32)), .val (.int (1 : Int32)), .val (.ref b296), .val (.ref b304), .val (.ref b316), .unset] [(.int (1 : Int32)), (.ref b296), (.ref b316)])) _
    refine X322.iaload hx (j := (1 : Int32)) (v := (.int s1)) Ar324.1 (State.isArrayOf_alike hZ.alike Ar324.2.1) Ar324.2.2 hin324 hat324 (g := (mkF m 270 #[.val (.int p0), .val (.int p1), .val (.int p2), .val (.int p3), .val (.int p4), .val (.int p5), .val (.int n), .val (.int s0), .val (.int d1), .val (.int tt), .val (.int d2), .val (.int s1), .val (.int s2), .val (.int (3 : Int32)), .val (.int (1 : Int32)), .val (.int (1 : Int32)), .val (.ref b296), .val (.ref b304), .val (.ref b316), .unset] [(.int (1 : Int32)), (.ref b296), (.ref b316)])) rfl rfl (hb hby at_270) _ ?_
    exact kt
  obtain ⟨cq326, kq326, q326a, q326b, q326c⟩ := isOf hZ rfl o322_0
  obtain ⟨_, _, ⟨T326, L326, k326, n326⟩, -, X326, ⟨Lc326, hQ326, l326, y326, z326⟩, st326⟩ := X322.virtualBack hx (y := (⟨"dev/chainlatch/bucket/Order", "append", "(I)V"⟩ : MethodName)) (z := (⟨"dev/chainlatch/bucket/Order", "append", "(I)V"⟩ : MethodName)) hown (mvT hZ (hw _ (List.mem_of_getElem? (i := 20) rfl))) (mvT hZ (hw _ (List.mem_of_getElem? (i := 21) rfl))) (notFace_of_selects (args := #[]) (mvT hZ (hw _ (List.mem_of_getElem? (i := 23) rfl)))) (mvT hZ (hw _ (List.mem_of_getElem? (i := 23) rfl))) (mvT hZ (hw _ (List.mem_of_getElem? (i := 22) rfl))) (by decide) (backOf (W := 0) (rmA2 l Z a0 hw [] b316 s1 B318 A318 n s0 s0 (own_up (fun _ => 0) s0 ((-1 : Int32) + (1 : Int32))) (own_up (fun _ => 0) s0 (0 : Int32)) T322.heap n0 Z323 o322_0 o322_1 o322_2 o322_3 o322_4 o322_5 o322_6 g_b316 g_B318 g_A318 ne_b316_B318 ne_b316_A318 ne_B318_A318 hs10 hs11 hs00 hs01) hZ (hw _ (List.mem_of_getElem? (i := 24) rfl)) (hw _ (List.mem_of_getElem? (i := 5) rfl)) (by decide) (by decide)) q326a q326c (g := (mkF m 271 #[.val (.int p0), .val (.int p1), .val (.int p2), .val (.int p3), .val (.int p4), .val (.int p5), .val (.int n), .val (.int s0), .val (.int d1), .val (.int tt), .val (.int d2), .val (.int s1), .val (.int s2), .val (.int (3 : Int32)), .val (.int (1 : Int32)), .val (.int (1 : Int32)), .val (.ref b296), .val (.ref b304), .val (.ref b316), .unset] [(.int s1), (.ref b316)])) rfl (by rw [hml]; rfl) (Steps.refl _) (argsL := [(.int s1)]) (rest := []) (lenOf pd__28I_29V rfl) rfl (by show 2 * 0 + _ ≤ _; exact Nat.le_of_eq rfl) (hb hby at_271) (fun _ _ => ⟨rfl, rfl, (by decide : 5 + 0 ≤ _), (by decide : 30 + 0 ≤ _)⟩)
  dsimp only [Pt.U, Pt.locs, Pt.cells, Pt.slots] at X326 l326 y326 z326 st326 hQ326
  obtain ⟨rfl, N326q, K326, o326_0, o326_1, o326_2, o326_3, o326_4, o326_5, o326_6⟩ := hQ326
  have Z327 : n0 ≤ T326.heap.size := Nat.le_trans Z323 K326.1
  have Z327h : h0.size ≤ T326.heap.size := Nat.le_trans Z323h K326.1
  obtain ⟨lc326, X326, N326⟩ := own_pack X326 l326 y326 z326 N322 N326q (C := 5) (S' := 30) rfl rfl
  refine own_thr (a := T326.setTop (mkF m 274 #[.val (.int p0), .val (.int p1), .val (.int p2), .val (.int p3), .val (.int p4), .val (.int p5), .val (.int n), .val (.int s0), .val (.int d1), .val (.int tt), .val (.int d2), .val (.int s1), .val (.int s2), .val (.int (3 : Int32)), .val (.int (1 : Int32)), .val (.int (1 : Int32)), .val (.ref b296), .val (.ref b304), .val (.ref b316), .unset] [])) (fun t kt => st326.trans kt) ?_
  refine own_thr (a := T326.setTop (mkF m 285 #[.val (.int p0), .val (.int p1), .val (.int p2), .val (.int p3), .val (.int p4), .val (.int p5), .val (.int n), .val (.int s0), .val (.int d1), .val (.int tt), .val (.int d2), .val (.int s1), .val (.int s2), .val (.int (3 : Int32)), .val (.int (1 : Int32)), .val (.int (1 : Int32)), .val (.ref b296), .val (.ref b304), .val (.ref b316), .unset] [(.int (2 : Int32)), (.ref b296), (.ref b316)])) (fun t kt => ?_) ?_
  · show Steps p.tables e below (T326.setTop (mkF m 274 #[.val (.int p0), .val (.int p1), .val (.int p2), .val (.int p3), .val (.int p4), .val (.int p5), .val (.int n), .val (.int s0), .val (.int d1), .val (.int tt), .val (.int d2), .val (.int s1), .val (.int s2), .val (.int (3 : Int32)), .val (.int (1 : Int32)), .val (.int (1 : Int32)), .val (.ref b296), .val (.ref b304), .val (.ref b316), .unset] [])) _
    refine XS.iload X326.here hx rfl (hb hby at_274) rfl ?_
    refine XS.iconst X326.here hx rfl (hb hby at_276) ?_
    refine XS.icmpNo X326.here hx rfl (hb hby at_277) rfl (tlt (by decide)).2.2.2 ?_
    refine XS.aload X326.here hx rfl (hb hby at_280) rfl rfl ?_
    refine XS.aload X326.here hx rfl (hb hby at_282) rfl rfl ?_
    refine XS.iconst X326.here hx rfl (hb hby at_284) ?_
    exact kt
  have c329 := (c325.keep K326 (ninS ne_b296_b316 (ninS ne_b296_B318 (ninS ne_b296_A318 nin0))))
  obtain ⟨cl328, Ar328, -, S328, M328, H328, -⟩ := id c329
  have hin328 : ¬ ((2 : Int32) < 0 ∨ cl328.slots.size ≤ ((2 : Int32)).toNatClampNeg) := inb_of S328 ⟨by decide, by decide⟩
  have hat328 : cl328.slots[((2 : Int32)).toNatClampNeg]? = some (.int s2) := Has.at H328 hin328 rfl
  refine own_thr (a := T326.setTop (mkF m 286 #[.val (.int p0), .val (.int p1), .val (.int p2), .val (.int p3), .val (.int p4), .val (.int p5), .val (.int n), .val (.int s0), .val (.int d1), .val (.int tt), .val (.int d2), .val (.int s1), .val (.int s2), .val (.int (3 : Int32)), .val (.int (1 : Int32)), .val (.int (1 : Int32)), .val (.ref b296), .val (.ref b304), .val (.ref b316), .unset] [(.int s2), (.ref b316)])) (fun t kt => ?_) ?_
  · show Steps p.tables e below (T326.setTop (mkF m 285 #[.val (.int p0), .val (.int p1), .val (.int p2), .val (.int p3), .val (.int p4), .val (.int p5), .val (.int n), .val (.int s0), .val (.int d1), .val (.int tt), .val (.int d2), .val (.int s1), .val (.int s2), .val (.int (3 : Int32)), .val (.int (1 : Int32)), .val (.int (1 : Int32)), .val (.ref b296), .val (.ref b304), .val (.ref b316), .unset] [(.int (2 : Int32)), (.ref b296), (.ref b316)])) _
    refine X326.iaload hx (j := (2 : Int32)) (v := (.int s2)) Ar328.1 (State.isArrayOf_alike hZ.alike Ar328.2.1) Ar328.2.2 hin328 hat328 (g := (mkF m 285 #[.val (.int p0), .val (.int p1), .val (.int p2), .val (.int p3), .val (.int p4), .val (.int p5), .val (.int n), .val (.int s0), .val (.int d1), .val (.int tt), .val (.int d2), .val (.int s1), .val (.int s2), .val (.int (3 : Int32)), .val (.int (1 : Int32)), .val (.int (1 : Int32)), .val (.ref b296), .val (.ref b304), .val (.ref b316), .unset] [(.int (2 : Int32)), (.ref b296), (.ref b316)])) rfl rfl (hb hby at_285) _ ?_
    exact kt
  obtain ⟨cq330, kq330, q330a, q330b, q330c⟩ := isOf hZ rfl o326_0
  obtain ⟨_, _, ⟨T330, L330, k330, n330⟩, -, X330, ⟨Lc330, hQ330, l330, y330, z330⟩, st330⟩ := X326.virtualBack hx (y := (⟨"dev/chainlatch/bucket/Order", "append", "(I)V"⟩ : MethodName)) (z := (⟨"dev/chainlatch/bucket/Order", "append", "(I)V"⟩ : MethodName)) hown (mvT hZ (hw _ (List.mem_of_getElem? (i := 20) rfl))) (mvT hZ (hw _ (List.mem_of_getElem? (i := 21) rfl))) (notFace_of_selects (args := #[]) (mvT hZ (hw _ (List.mem_of_getElem? (i := 23) rfl)))) (mvT hZ (hw _ (List.mem_of_getElem? (i := 23) rfl))) (mvT hZ (hw _ (List.mem_of_getElem? (i := 22) rfl))) (by decide) (backOf (W := 0) (rmA2 l Z a0 hw [] b316 s2 B318 A318 n s0 s1 (own_up (own_up (fun _ => 0) s0 ((-1 : Int32) + (1 : Int32))) s1 (s0 + (1 : Int32))) (own_up (own_up (own_up (fun _ => 0) s0 (0 : Int32)) s1 (0 : Int32)) s0 (s1 + (1 : Int32))) T326.heap n0 Z327 o326_0 o326_1 o326_2 o326_3 o326_4 o326_5 o326_6 g_b316 g_B318 g_A318 ne_b316_B318 ne_b316_A318 ne_B318_A318 hs20 hs21 hs10 hs11) hZ (hw _ (List.mem_of_getElem? (i := 24) rfl)) (hw _ (List.mem_of_getElem? (i := 5) rfl)) (by decide) (by decide)) q330a q330c (g := (mkF m 286 #[.val (.int p0), .val (.int p1), .val (.int p2), .val (.int p3), .val (.int p4), .val (.int p5), .val (.int n), .val (.int s0), .val (.int d1), .val (.int tt), .val (.int d2), .val (.int s1), .val (.int s2), .val (.int (3 : Int32)), .val (.int (1 : Int32)), .val (.int (1 : Int32)), .val (.ref b296), .val (.ref b304), .val (.ref b316), .unset] [(.int s2), (.ref b316)])) rfl (by rw [hml]; rfl) (Steps.refl _) (argsL := [(.int s2)]) (rest := []) (lenOf pd__28I_29V rfl) rfl (by show 2 * 0 + _ ≤ _; exact Nat.le_of_eq rfl) (hb hby at_286) (fun _ _ => ⟨rfl, rfl, (by decide : 5 + 0 ≤ _), (by decide : 30 + 0 ≤ _)⟩)
  dsimp only [Pt.U, Pt.locs, Pt.cells, Pt.slots] at X330 l330 y330 z330 st330 hQ330
  obtain ⟨rfl, N330q, K330, o330_0, o330_1, o330_2, o330_3, o330_4, o330_5, o330_6⟩ := hQ330
  have Z331 : n0 ≤ T330.heap.size := Nat.le_trans Z327 K330.1
  have Z331h : h0.size ≤ T330.heap.size := Nat.le_trans Z327h K330.1
  obtain ⟨lc330, X330, N330⟩ := own_pack X330 l330 y330 z330 N326 N330q (C := 5) (S' := 30) rfl rfl
  refine own_thr (a := T330.setTop (mkF m 289 #[.val (.int p0), .val (.int p1), .val (.int p2), .val (.int p3), .val (.int p4), .val (.int p5), .val (.int n), .val (.int s0), .val (.int d1), .val (.int tt), .val (.int d2), .val (.int s1), .val (.int s2), .val (.int (3 : Int32)), .val (.int (1 : Int32)), .val (.int (1 : Int32)), .val (.ref b296), .val (.ref b304), .val (.ref b316), .unset] [])) (fun t kt => st330.trans kt) ?_
  refine own_thr (a := T330.setTop (mkF m 300 #[.val (.int p0), .val (.int p1), .val (.int p2), .val (.int p3), .val (.int p4), .val (.int p5), .val (.int n), .val (.int s0), .val (.int d1), .val (.int tt), .val (.int d2), .val (.int s1), .val (.int s2), .val (.int (3 : Int32)), .val (.int (1 : Int32)), .val (.int (1 : Int32)), .val (.ref b296), .val (.ref b304), .val (.ref b316), .unset] [(.int (1 : Int32)), (.ref b296), (.ref b316)])) (fun t kt => ?_) ?_
  · show Steps p.tables e below (T330.setTop (mkF m 289 #[.val (.int p0), .val (.int p1), .val (.int p2), .val (.int p3), .val (.int p4), .val (.int p5), .val (.int n), .val (.int s0), .val (.int d1), .val (.int tt), .val (.int d2), .val (.int s1), .val (.int s2), .val (.int (3 : Int32)), .val (.int (1 : Int32)), .val (.int (1 : Int32)), .val (.ref b296), .val (.ref b304), .val (.ref b316), .unset] [])) _
    refine XS.iload X330.here hx rfl (hb hby at_289) rfl ?_
    refine XS.ifNo X330.here hx rfl (hb hby at_291) rfl ((if0 _ _).trans (feq (by decide)).1) ?_
    refine XS.aload X330.here hx rfl (hb hby at_294) rfl rfl ?_
    refine XS.aload X330.here hx rfl (hb hby at_296) rfl rfl ?_
    refine XS.iload X330.here hx rfl (hb hby at_298) rfl ?_
    exact kt
  have c333 := (c329.keep K330 (ninS ne_b296_b316 (ninS ne_b296_B318 (ninS ne_b296_A318 nin0))))
  obtain ⟨cl332, Ar332, -, S332, M332, H332, -⟩ := id c333
  have hin332 : ¬ ((1 : Int32) < 0 ∨ cl332.slots.size ≤ ((1 : Int32)).toNatClampNeg) := inb_of S332 ⟨by decide, by decide⟩
  have hat332 : cl332.slots[((1 : Int32)).toNatClampNeg]? = some (.int s1) := Has.at H332 hin332 rfl
  refine own_thr (a := T330.setTop (mkF m 301 #[.val (.int p0), .val (.int p1), .val (.int p2), .val (.int p3), .val (.int p4), .val (.int p5), .val (.int n), .val (.int s0), .val (.int d1), .val (.int tt), .val (.int d2), .val (.int s1), .val (.int s2), .val (.int (3 : Int32)), .val (.int (1 : Int32)), .val (.int (1 : Int32)), .val (.ref b296), .val (.ref b304), .val (.ref b316), .unset] [(.int s1), (.ref b316)])) (fun t kt => ?_) ?_
  · show Steps p.tables e below (T330.setTop (mkF m 300 #[.val (.int p0), .val (.int p1), .val (.int p2), .val (.int p3), .val (.int p4), .val (.int p5), .val (.int n), .val (.int s0), .val (.int d1), .val (.int tt), .val (.int d2), .val (.int s1), .val (.int s2), .val (.int (3 : Int32)), .val (.int (1 : Int32)), .val (.int (1 : Int32)), .val (.ref b296), .val (.ref b304), .val (.ref b316), .unset] [(.int (1 : Int32)), (.ref b296), (.ref b316)])) _
    refine X330.iaload hx (j := (1 : Int32)) (v := (.int s1)) Ar332.1 (State.isArrayOf_alike hZ.alike Ar332.2.1) Ar332.2.2 hin332 hat332 (g := (mkF m 300 #[.val (.int p0), .val (.int p1), .val (.int p2), .val (.int p3), .val (.int p4), .val (.int p5), .val (.int n), .val (.int s0), .val (.int d1), .val (.int tt), .val (.int d2), .val (.int s1), .val (.int s2), .val (.int (3 : Int32)), .val (.int (1 : Int32)), .val (.int (1 : Int32)), .val (.ref b296), .val (.ref b304), .val (.ref b316), .unset] [(.int (1 : Int32)), (.ref b296), (.ref b316)])) rfl rfl (hb hby at_300) _ ?_
    exact kt
  obtain ⟨cq334, kq334, q334a, q334b, q334c⟩ := isOf hZ rfl o330_0
  obtain ⟨_, _, ⟨T334, L334, k334, n334⟩, -, X334, ⟨Lc334, hQ334, l334, y334, z334⟩, st334⟩ := X330.virtualBack hx (y := (⟨"dev/chainlatch/bucket/Order", "remove", "(I)V"⟩ : MethodName)) (z := (⟨"dev/chainlatch/bucket/Order", "remove", "(I)V"⟩ : MethodName)) hown (mvT hZ (hw _ (List.mem_of_getElem? (i := 25) rfl))) (mvT hZ (hw _ (List.mem_of_getElem? (i := 26) rfl))) (notFace_of_selects (args := #[]) (mvT hZ (hw _ (List.mem_of_getElem? (i := 28) rfl)))) (mvT hZ (hw _ (List.mem_of_getElem? (i := 28) rfl))) (mvT hZ (hw _ (List.mem_of_getElem? (i := 27) rfl))) (by decide) (backOf (W := 0) (rmR11 l Z a0 hw [] b316 s1 B318 A318 n s0 s2 (own_up (own_up (own_up (fun _ => 0) s0 ((-1 : Int32) + (1 : Int32))) s1 (s0 + (1 : Int32))) s2 (s1 + (1 : Int32))) (own_up (own_up (own_up (own_up (own_up (fun _ => 0) s0 (0 : Int32)) s1 (0 : Int32)) s0 (s1 + (1 : Int32))) s2 (0 : Int32)) s1 (s2 + (1 : Int32))) T330.heap n0 Z331 o330_0 o330_1 o330_2 o330_3 o330_4 o330_5 o330_6 g_b316 g_B318 g_A318 ne_b316_B318 ne_b316_A318 ne_B318_A318 hs10 hs11 (by rw [show (((own_up (own_up (own_up (fun _ => 0) s0 ((-1 : Int32) + (1 : Int32))) s1 (s0 + (1 : Int32))) s2 (s1 + (1 : Int32))) s1) - (1 : Int32)) = s0 by simp [own_up, own_as, n01, n10, n02, n20, n12, n21]]; exact hs00) (by rw [show (((own_up (own_up (own_up (fun _ => 0) s0 ((-1 : Int32) + (1 : Int32))) s1 (s0 + (1 : Int32))) s2 (s1 + (1 : Int32))) s1) - (1 : Int32)) = s0 by simp [own_up, own_as, n01, n10, n02, n20, n12, n21]]; exact hs01) (by rw [show (((own_up (own_up (own_up (own_up (own_up (fun _ => 0) s0 (0 : Int32)) s1 (0 : Int32)) s0 (s1 + (1 : Int32))) s2 (0 : Int32)) s1 (s2 + (1 : Int32))) s1) - (1 : Int32)) = s2 by simp [own_up, own_as, n01, n10, n02, n20, n12, n21]]; exact hs20) (by rw [show (((own_up (own_up (own_up (own_up (own_up (fun _ => 0) s0 (0 : Int32)) s1 (0 : Int32)) s0 (s1 + (1 : Int32))) s2 (0 : Int32)) s1 (s2 + (1 : Int32))) s1) - (1 : Int32)) = s2 by simp [own_up, own_as, n01, n10, n02, n20, n12, n21]]; exact hs21)) hZ (hw _ (List.mem_of_getElem? (i := 29) rfl)) (hw _ (List.mem_of_getElem? (i := 5) rfl)) (by decide) (by decide)) q334a q334c (g := (mkF m 301 #[.val (.int p0), .val (.int p1), .val (.int p2), .val (.int p3), .val (.int p4), .val (.int p5), .val (.int n), .val (.int s0), .val (.int d1), .val (.int tt), .val (.int d2), .val (.int s1), .val (.int s2), .val (.int (3 : Int32)), .val (.int (1 : Int32)), .val (.int (1 : Int32)), .val (.ref b296), .val (.ref b304), .val (.ref b316), .unset] [(.int s1), (.ref b316)])) rfl (by rw [hml]; rfl) (Steps.refl _) (argsL := [(.int s1)]) (rest := []) (lenOf pd__28I_29V rfl) rfl (by show 2 * 0 + _ ≤ _; exact Nat.le_of_eq rfl) (hb hby at_301) (fun _ _ => ⟨rfl, rfl, (by decide : 5 + 0 ≤ _), (by decide : 30 + 0 ≤ _)⟩)
  dsimp only [Pt.U, Pt.locs, Pt.cells, Pt.slots] at X334 l334 y334 z334 st334 hQ334
  obtain ⟨rfl, N334q, K334, o334_0, o334_1, o334_2, o334_3, o334_4, o334_5, o334_6⟩ := hQ334
  have Z335 : n0 ≤ T334.heap.size := Nat.le_trans Z331 K334.1
  have Z335h : h0.size ≤ T334.heap.size := Nat.le_trans Z331h K334.1
  obtain ⟨lc334, X334, N334⟩ := own_pack X334 l334 y334 z334 N330 N334q (C := 5) (S' := 30) rfl rfl
  refine own_thr (a := T334.setTop (mkF m 304 #[.val (.int p0), .val (.int p1), .val (.int p2), .val (.int p3), .val (.int p4), .val (.int p5), .val (.int n), .val (.int s0), .val (.int d1), .val (.int tt), .val (.int d2), .val (.int s1), .val (.int s2), .val (.int (3 : Int32)), .val (.int (1 : Int32)), .val (.int (1 : Int32)), .val (.ref b296), .val (.ref b304), .val (.ref b316), .unset] [])) (fun t kt => st334.trans kt) ?_
  refine own_thr (a := T334.setTop (mkF m 310 #[.val (.int p0), .val (.int p1), .val (.int p2), .val (.int p3), .val (.int p4), .val (.int p5), .val (.int n), .val (.int s0), .val (.int d1), .val (.int tt), .val (.int d2), .val (.int s1), .val (.int s2), .val (.int (3 : Int32)), .val (.int (1 : Int32)), .val (.int (1 : Int32)), .val (.ref b296), .val (.ref b304), .val (.ref b316), .unset] [(.int (1 : Int32)), (.ref b296), (.ref b316)])) (fun t kt => ?_) ?_
  · show Steps p.tables e below (T334.setTop (mkF m 304 #[.val (.int p0), .val (.int p1), .val (.int p2), .val (.int p3), .val (.int p4), .val (.int p5), .val (.int n), .val (.int s0), .val (.int d1), .val (.int tt), .val (.int d2), .val (.int s1), .val (.int s2), .val (.int (3 : Int32)), .val (.int (1 : Int32)), .val (.int (1 : Int32)), .val (.ref b296), .val (.ref b304), .val (.ref b316), .unset] [])) _
    refine XS.aload X334.here hx rfl (hb hby at_304) rfl rfl ?_
    refine XS.aload X334.here hx rfl (hb hby at_306) rfl rfl ?_
    refine XS.iload X334.here hx rfl (hb hby at_308) rfl ?_
    exact kt
  have c337 := (c333.keep K334 (ninS ne_b296_b316 (ninS ne_b296_B318 (ninS ne_b296_A318 nin0))))
  obtain ⟨cl336, Ar336, -, S336, M336, H336, -⟩ := id c337
  have hin336 : ¬ ((1 : Int32) < 0 ∨ cl336.slots.size ≤ ((1 : Int32)).toNatClampNeg) := inb_of S336 ⟨by decide, by decide⟩
  have hat336 : cl336.slots[((1 : Int32)).toNatClampNeg]? = some (.int s1) := Has.at H336 hin336 rfl
  refine own_thr (a := T334.setTop (mkF m 311 #[.val (.int p0), .val (.int p1), .val (.int p2), .val (.int p3), .val (.int p4), .val (.int p5), .val (.int n), .val (.int s0), .val (.int d1), .val (.int tt), .val (.int d2), .val (.int s1), .val (.int s2), .val (.int (3 : Int32)), .val (.int (1 : Int32)), .val (.int (1 : Int32)), .val (.ref b296), .val (.ref b304), .val (.ref b316), .unset] [(.int s1), (.ref b316)])) (fun t kt => ?_) ?_
  · show Steps p.tables e below (T334.setTop (mkF m 310 #[.val (.int p0), .val (.int p1), .val (.int p2), .val (.int p3), .val (.int p4), .val (.int p5), .val (.int n), .val (.int s0), .val (.int d1), .val (.int tt), .val (.int d2), .val (.int s1), .val (.int s2), .val (.int (3 : Int32)), .val (.int (1 : Int32)), .val (.int (1 : Int32)), .val (.ref b296), .val (.ref b304), .val (.ref b316), .unset] [(.int (1 : Int32)), (.ref b296), (.ref b316)])) _
    refine X334.iaload hx (j := (1 : Int32)) (v := (.int s1)) Ar336.1 (State.isArrayOf_alike hZ.alike Ar336.2.1) Ar336.2.2 hin336 hat336 (g := (mkF m 310 #[.val (.int p0), .val (.int p1), .val (.int p2), .val (.int p3), .val (.int p4), .val (.int p5), .val (.int n), .val (.int s0), .val (.int d1), .val (.int tt), .val (.int d2), .val (.int s1), .val (.int s2), .val (.int (3 : Int32)), .val (.int (1 : Int32)), .val (.int (1 : Int32)), .val (.ref b296), .val (.ref b304), .val (.ref b316), .unset] [(.int (1 : Int32)), (.ref b296), (.ref b316)])) rfl rfl (hb hby at_310) _ ?_
    exact kt
  obtain ⟨cq338, kq338, q338a, q338b, q338c⟩ := isOf hZ rfl o334_0
  obtain ⟨_, _, ⟨T338, L338, k338, n338⟩, -, X338, ⟨Lc338, hQ338, l338, y338, z338⟩, st338⟩ := X334.virtualBack hx (y := (⟨"dev/chainlatch/bucket/Order", "append", "(I)V"⟩ : MethodName)) (z := (⟨"dev/chainlatch/bucket/Order", "append", "(I)V"⟩ : MethodName)) hown (mvT hZ (hw _ (List.mem_of_getElem? (i := 20) rfl))) (mvT hZ (hw _ (List.mem_of_getElem? (i := 21) rfl))) (notFace_of_selects (args := #[]) (mvT hZ (hw _ (List.mem_of_getElem? (i := 23) rfl)))) (mvT hZ (hw _ (List.mem_of_getElem? (i := 23) rfl))) (mvT hZ (hw _ (List.mem_of_getElem? (i := 22) rfl))) (by decide) (backOf (W := 0) (rmA2 l Z a0 hw [] b316 s1 B318 A318 n s0 s2 (own_up (own_up (own_up (own_up (own_up (fun _ => 0) s0 ((-1 : Int32) + (1 : Int32))) s1 (s0 + (1 : Int32))) s2 (s1 + (1 : Int32))) (((own_up (own_up (own_up (own_up (own_up (fun _ => 0) s0 (0 : Int32)) s1 (0 : Int32)) s0 (s1 + (1 : Int32))) s2 (0 : Int32)) s1 (s2 + (1 : Int32))) s1) - (1 : Int32)) ((((own_up (own_up (own_up (fun _ => 0) s0 ((-1 : Int32) + (1 : Int32))) s1 (s0 + (1 : Int32))) s2 (s1 + (1 : Int32))) s1) - (1 : Int32)) + (1 : Int32))) s1 (0 : Int32)) (own_up (own_up (own_up (own_up (own_up (own_up (own_up (fun _ => 0) s0 (0 : Int32)) s1 (0 : Int32)) s0 (s1 + (1 : Int32))) s2 (0 : Int32)) s1 (s2 + (1 : Int32))) (((own_up (own_up (own_up (fun _ => 0) s0 ((-1 : Int32) + (1 : Int32))) s1 (s0 + (1 : Int32))) s2 (s1 + (1 : Int32))) s1) - (1 : Int32)) ((((own_up (own_up (own_up (own_up (own_up (fun _ => 0) s0 (0 : Int32)) s1 (0 : Int32)) s0 (s1 + (1 : Int32))) s2 (0 : Int32)) s1 (s2 + (1 : Int32))) s1) - (1 : Int32)) + (1 : Int32))) s1 (0 : Int32)) T334.heap n0 Z335 o334_0 o334_1 o334_2 o334_3 o334_4 o334_5 o334_6 g_b316 g_B318 g_A318 ne_b316_B318 ne_b316_A318 ne_B318_A318 hs10 hs11 hs20 hs21) hZ (hw _ (List.mem_of_getElem? (i := 24) rfl)) (hw _ (List.mem_of_getElem? (i := 5) rfl)) (by decide) (by decide)) q338a q338c (g := (mkF m 311 #[.val (.int p0), .val (.int p1), .val (.int p2), .val (.int p3), .val (.int p4), .val (.int p5), .val (.int n), .val (.int s0), .val (.int d1), .val (.int tt), .val (.int d2), .val (.int s1), .val (.int s2), .val (.int (3 : Int32)), .val (.int (1 : Int32)), .val (.int (1 : Int32)), .val (.ref b296), .val (.ref b304), .val (.ref b316), .unset] [(.int s1), (.ref b316)])) rfl (by rw [hml]; rfl) (Steps.refl _) (argsL := [(.int s1)]) (rest := []) (lenOf pd__28I_29V rfl) rfl (by show 2 * 0 + _ ≤ _; exact Nat.le_of_eq rfl) (hb hby at_311) (fun _ _ => ⟨rfl, rfl, (by decide : 5 + 0 ≤ _), (by decide : 30 + 0 ≤ _)⟩)
  dsimp only [Pt.U, Pt.locs, Pt.cells, Pt.slots] at X338 l338 y338 z338 st338 hQ338
  obtain ⟨rfl, N338q, K338, o338_0, o338_1, o338_2, o338_3, o338_4, o338_5, o338_6⟩ := hQ338
  have Z339 : n0 ≤ T338.heap.size := Nat.le_trans Z335 K338.1
  have Z339h : h0.size ≤ T338.heap.size := Nat.le_trans Z335h K338.1
  obtain ⟨lc338, X338, N338⟩ := own_pack X338 l338 y338 z338 N334 N338q (C := 5) (S' := 30) rfl rfl
  refine own_thr (a := T338.setTop (mkF m 314 #[.val (.int p0), .val (.int p1), .val (.int p2), .val (.int p3), .val (.int p4), .val (.int p5), .val (.int n), .val (.int s0), .val (.int d1), .val (.int tt), .val (.int d2), .val (.int s1), .val (.int s2), .val (.int (3 : Int32)), .val (.int (1 : Int32)), .val (.int (1 : Int32)), .val (.ref b296), .val (.ref b304), .val (.ref b316), .unset] [])) (fun t kt => st338.trans kt) ?_
  refine own_thr (a := T338.setTop (mkF m 316 #[.val (.int p0), .val (.int p1), .val (.int p2), .val (.int p3), .val (.int p4), .val (.int p5), .val (.int n), .val (.int s0), .val (.int d1), .val (.int tt), .val (.int d2), .val (.int s1), .val (.int s2), .val (.int (3 : Int32)), .val (.int (1 : Int32)), .val (.int (1 : Int32)), .val (.ref b296), .val (.ref b304), .val (.ref b316), .unset] [(.ref b316)])) (fun t kt => ?_) ?_
  · show Steps p.tables e below (T338.setTop (mkF m 314 #[.val (.int p0), .val (.int p1), .val (.int p2), .val (.int p3), .val (.int p4), .val (.int p5), .val (.int n), .val (.int s0), .val (.int d1), .val (.int tt), .val (.int d2), .val (.int s1), .val (.int s2), .val (.int (3 : Int32)), .val (.int (1 : Int32)), .val (.int (1 : Int32)), .val (.ref b296), .val (.ref b304), .val (.ref b316), .unset] [])) _
    refine XS.aload X338.here hx rfl (hb hby at_314) rfl rfl ?_
    exact kt
  obtain ⟨cq340, kq340, q340a, q340b, q340c⟩ := isOf hZ rfl o338_0
  obtain ⟨_, _, ⟨T340, L340, k340, n340⟩, -, X340, ⟨Lc340, hQ340, l340, y340, z340⟩, st340⟩ := X338.virtualBack hx (y := (⟨"dev/chainlatch/bucket/Order", "first", "()I"⟩ : MethodName)) (z := (⟨"dev/chainlatch/bucket/Order", "first", "()I"⟩ : MethodName)) hown (mvT hZ (hw _ (List.mem_of_getElem? (i := 34) rfl))) (mvT hZ (hw _ (List.mem_of_getElem? (i := 35) rfl))) (notFace_of_selects (args := #[]) (mvT hZ (hw _ (List.mem_of_getElem? (i := 37) rfl)))) (mvT hZ (hw _ (List.mem_of_getElem? (i := 37) rfl))) (mvT hZ (hw _ (List.mem_of_getElem? (i := 36) rfl))) (by decide) (backOf (W := 0) (rmF l Z a0 hw [] b316 s0 T338.heap n0 Z339 o338_1) hZ (hw _ (List.mem_of_getElem? (i := 38) rfl)) (hw _ (List.mem_of_getElem? (i := 5) rfl)) (by decide) (by decide)) q340a q340c (g := (mkF m 316 #[.val (.int p0), .val (.int p1), .val (.int p2), .val (.int p3), .val (.int p4), .val (.int p5), .val (.int n), .val (.int s0), .val (.int d1), .val (.int tt), .val (.int d2), .val (.int s1), .val (.int s2), .val (.int (3 : Int32)), .val (.int (1 : Int32)), .val (.int (1 : Int32)), .val (.ref b296), .val (.ref b304), .val (.ref b316), .unset] [(.ref b316)])) rfl (by rw [hml]; rfl) (Steps.refl _) (argsL := []) (rest := []) (lenOf pd__28_29I rfl) rfl (by show 2 * 0 + _ ≤ _; exact Nat.le_of_eq rfl) (hb hby at_316) (fun _ _ => ⟨rfl, rfl, (by decide : 5 + 0 ≤ _), (by decide : 30 + 0 ≤ _)⟩)
  dsimp only [Pt.U, Pt.locs, Pt.cells, Pt.slots] at X340 l340 y340 z340 st340 hQ340
  obtain ⟨rfl, N340q, e340⟩ := hQ340
  obtain ⟨lc340, X340, N340⟩ := own_pack X340 l340 y340 z340 N338 N340q (C := 5) (S' := 30) rfl rfl
  refine own_thr (a := T340.setTop (mkF m 319 #[.val (.int p0), .val (.int p1), .val (.int p2), .val (.int p3), .val (.int p4), .val (.int p5), .val (.int n), .val (.int s0), .val (.int d1), .val (.int tt), .val (.int d2), .val (.int s1), .val (.int s2), .val (.int (3 : Int32)), .val (.int (1 : Int32)), .val (.int (1 : Int32)), .val (.ref b296), .val (.ref b304), .val (.ref b316), .unset] [(.int s0)])) (fun t kt => st340.trans kt) ?_
  refine own_thr (a := T340.setTop (mkF m 322 #[.val (.int p0), .val (.int p1), .val (.int p2), .val (.int p3), .val (.int p4), .val (.int p5), .val (.int n), .val (.int s0), .val (.int d1), .val (.int tt), .val (.int d2), .val (.int s1), .val (.int s2), .val (.int (3 : Int32)), .val (.int (1 : Int32)), .val (.int (1 : Int32)), .val (.ref b296), .val (.ref b304), .val (.ref b316), .unset] [(.int (0 : Int32)), (.ref b304), (.int s0)])) (fun t kt => ?_) ?_
  · show Steps p.tables e below (T340.setTop (mkF m 319 #[.val (.int p0), .val (.int p1), .val (.int p2), .val (.int p3), .val (.int p4), .val (.int p5), .val (.int n), .val (.int s0), .val (.int d1), .val (.int tt), .val (.int d2), .val (.int s1), .val (.int s2), .val (.int (3 : Int32)), .val (.int (1 : Int32)), .val (.int (1 : Int32)), .val (.ref b296), .val (.ref b304), .val (.ref b316), .unset] [(.int s0)])) _
    refine XS.aload X340.here hx rfl (hb hby at_319) rfl rfl ?_
    refine XS.iconst X340.here hx rfl (hb hby at_321) ?_
    exact kt
  have c342 := (((((((V314.ext E316).keep K318 (ninS ne_b304_b316 nin0)).keep K322 (ninS ne_b304_b316 (ninS ne_b304_B318 (ninS ne_b304_A318 nin0)))).keep K326 (ninS ne_b304_b316 (ninS ne_b304_B318 (ninS ne_b304_A318 nin0)))).keep K330 (ninS ne_b304_b316 (ninS ne_b304_B318 (ninS ne_b304_A318 nin0)))).keep K334 (ninS ne_b304_b316 (ninS ne_b304_B318 (ninS ne_b304_A318 nin0)))).keep K338 (ninS ne_b304_b316 (ninS ne_b304_B318 (ninS ne_b304_A318 nin0))))
  obtain ⟨cl341, Ar341, -, S341, M341, H341, -⟩ := id c342
  have hin341 : ¬ ((0 : Int32) < 0 ∨ cl341.slots.size ≤ ((0 : Int32)).toNatClampNeg) := inb_of S341 ⟨by decide, by decide⟩
  have hat341 : cl341.slots[((0 : Int32)).toNatClampNeg]? = some (.int s0) := Has.at H341 hin341 rfl
  refine own_thr (a := T340.setTop (mkF m 343 #[.val (.int p0), .val (.int p1), .val (.int p2), .val (.int p3), .val (.int p4), .val (.int p5), .val (.int n), .val (.int s0), .val (.int d1), .val (.int tt), .val (.int d2), .val (.int s1), .val (.int s2), .val (.int (3 : Int32)), .val (.int (1 : Int32)), .val (.int (1 : Int32)), .val (.ref b296), .val (.ref b304), .val (.ref b316), .val (.int (1 : Int32))] [(.int (0 : Int32)), (.ref b304), (.ref b316)])) (fun t kt => ?_) ?_
  · show Steps p.tables e below (T340.setTop (mkF m 322 #[.val (.int p0), .val (.int p1), .val (.int p2), .val (.int p3), .val (.int p4), .val (.int p5), .val (.int n), .val (.int s0), .val (.int d1), .val (.int tt), .val (.int d2), .val (.int s1), .val (.int s2), .val (.int (3 : Int32)), .val (.int (1 : Int32)), .val (.int (1 : Int32)), .val (.ref b296), .val (.ref b304), .val (.ref b316), .unset] [(.int (0 : Int32)), (.ref b304), (.int s0)])) _
    refine X340.iaload hx (j := (0 : Int32)) (v := (.int s0)) (by rw [e340]; exact Ar341.1) (State.isArrayOf_alike hZ.alike Ar341.2.1) Ar341.2.2 hin341 hat341 (g := (mkF m 322 #[.val (.int p0), .val (.int p1), .val (.int p2), .val (.int p3), .val (.int p4), .val (.int p5), .val (.int n), .val (.int s0), .val (.int d1), .val (.int tt), .val (.int d2), .val (.int s1), .val (.int s2), .val (.int (3 : Int32)), .val (.int (1 : Int32)), .val (.int (1 : Int32)), .val (.ref b296), .val (.ref b304), .val (.ref b316), .unset] [(.int (0 : Int32)), (.ref b304), (.int s0)])) rfl rfl (hb hby at_322) _ ?_
    refine XS.icmpNo X340.here hx rfl (hb hby at_323) rfl (teq (by simp [own_up, own_as, n01, n10, n02, n20, n12, n21])).2 ?_
    refine XS.iconst X340.here hx rfl (hb hby at_326) ?_
    refine XS.goto X340.here hx rfl (pc0 := 327) (pc' := 331) rfl (hb hby at_327) (by decide) (by decide) ?_
    refine XS.istore X340.here hx rfl (hb hby at_331) rfl (l' := #[.val (.int p0), .val (.int p1), .val (.int p2), .val (.int p3), .val (.int p4), .val (.int p5), .val (.int n), .val (.int s0), .val (.int d1), .val (.int tt), .val (.int d2), .val (.int s1), .val (.int s2), .val (.int (3 : Int32)), .val (.int (1 : Int32)), .val (.int (1 : Int32)), .val (.ref b296), .val (.ref b304), .val (.ref b316), .val (.int (1 : Int32))]) rfl ?_
    refine XS.iload X340.here hx rfl (hb hby at_333) rfl ?_
    refine XS.ifNo X340.here hx rfl (hb hby at_335) rfl ((if0 _ _).trans (feq (by decide)).1) ?_
    refine XS.aload X340.here hx rfl (hb hby at_338) rfl rfl ?_
    refine XS.aload X340.here hx rfl (hb hby at_340) rfl rfl ?_
    refine XS.iconst X340.here hx rfl (hb hby at_342) ?_
    exact kt
  obtain ⟨cl343, Ar343, -, S343, M343, H343, -⟩ := id c342
  have hin343 : ¬ ((0 : Int32) < 0 ∨ cl343.slots.size ≤ ((0 : Int32)).toNatClampNeg) := inb_of S343 ⟨by decide, by decide⟩
  have hat343 : cl343.slots[((0 : Int32)).toNatClampNeg]? = some (.int s0) := Has.at H343 hin343 rfl
  refine own_thr (a := T340.setTop (mkF m 344 #[.val (.int p0), .val (.int p1), .val (.int p2), .val (.int p3), .val (.int p4), .val (.int p5), .val (.int n), .val (.int s0), .val (.int d1), .val (.int tt), .val (.int d2), .val (.int s1), .val (.int s2), .val (.int (3 : Int32)), .val (.int (1 : Int32)), .val (.int (1 : Int32)), .val (.ref b296), .val (.ref b304), .val (.ref b316), .val (.int (1 : Int32))] [(.int s0), (.ref b316)])) (fun t kt => ?_) ?_
  · show Steps p.tables e below (T340.setTop (mkF m 343 #[.val (.int p0), .val (.int p1), .val (.int p2), .val (.int p3), .val (.int p4), .val (.int p5), .val (.int n), .val (.int s0), .val (.int d1), .val (.int tt), .val (.int d2), .val (.int s1), .val (.int s2), .val (.int (3 : Int32)), .val (.int (1 : Int32)), .val (.int (1 : Int32)), .val (.ref b296), .val (.ref b304), .val (.ref b316), .val (.int (1 : Int32))] [(.int (0 : Int32)), (.ref b304), (.ref b316)])) _
    refine X340.iaload hx (j := (0 : Int32)) (v := (.int s0)) (by rw [e340]; exact Ar343.1) (State.isArrayOf_alike hZ.alike Ar343.2.1) Ar343.2.2 hin343 hat343 (g := (mkF m 343 #[.val (.int p0), .val (.int p1), .val (.int p2), .val (.int p3), .val (.int p4), .val (.int p5), .val (.int n), .val (.int s0), .val (.int d1), .val (.int tt), .val (.int d2), .val (.int s1), .val (.int s2), .val (.int (3 : Int32)), .val (.int (1 : Int32)), .val (.int (1 : Int32)), .val (.ref b296), .val (.ref b304), .val (.ref b316), .val (.int (1 : Int32))] [(.int (0 : Int32)), (.ref b304), (.ref b316)])) rfl rfl (hb hby at_343) _ ?_
    exact kt
  obtain ⟨cq344, kq344, q344a, q344b, q344c⟩ := isOf hZ e340 o338_0
  obtain ⟨_, _, ⟨T344, L344, k344, n344⟩, -, X344, ⟨Lc344, hQ344, l344, y344, z344⟩, st344⟩ := X340.virtualBack hx (y := (⟨"dev/chainlatch/bucket/Order", "after", "(I)I"⟩ : MethodName)) (z := (⟨"dev/chainlatch/bucket/Order", "after", "(I)I"⟩ : MethodName)) hown (mvT hZ (hw _ (List.mem_of_getElem? (i := 39) rfl))) (mvT hZ (hw _ (List.mem_of_getElem? (i := 40) rfl))) (notFace_of_selects (args := #[]) (mvT hZ (hw _ (List.mem_of_getElem? (i := 42) rfl)))) (mvT hZ (hw _ (List.mem_of_getElem? (i := 42) rfl))) (mvT hZ (hw _ (List.mem_of_getElem? (i := 41) rfl))) (by decide) (backOf (W := 0) (rmN l Z a0 hw [] b316 s0 A318 n (own_up (own_up (own_up (own_up (own_up (own_up (own_up (own_up (own_up (fun _ => 0) s0 (0 : Int32)) s1 (0 : Int32)) s0 (s1 + (1 : Int32))) s2 (0 : Int32)) s1 (s2 + (1 : Int32))) (((own_up (own_up (own_up (fun _ => 0) s0 ((-1 : Int32) + (1 : Int32))) s1 (s0 + (1 : Int32))) s2 (s1 + (1 : Int32))) s1) - (1 : Int32)) ((((own_up (own_up (own_up (own_up (own_up (fun _ => 0) s0 (0 : Int32)) s1 (0 : Int32)) s0 (s1 + (1 : Int32))) s2 (0 : Int32)) s1 (s2 + (1 : Int32))) s1) - (1 : Int32)) + (1 : Int32))) s1 (0 : Int32)) s1 (0 : Int32)) s2 (s1 + (1 : Int32))) T338.heap n0 Z339 o338_4 o338_6 hs00 hs01) hZ (hw _ (List.mem_of_getElem? (i := 43) rfl)) (hw _ (List.mem_of_getElem? (i := 5) rfl)) (by decide) (by decide)) q344a q344c (g := (mkF m 344 #[.val (.int p0), .val (.int p1), .val (.int p2), .val (.int p3), .val (.int p4), .val (.int p5), .val (.int n), .val (.int s0), .val (.int d1), .val (.int tt), .val (.int d2), .val (.int s1), .val (.int s2), .val (.int (3 : Int32)), .val (.int (1 : Int32)), .val (.int (1 : Int32)), .val (.ref b296), .val (.ref b304), .val (.ref b316), .val (.int (1 : Int32))] [(.int s0), (.ref b316)])) rfl (by rw [hml]; rfl) (Steps.refl _) (argsL := [(.int s0)]) (rest := []) (lenOf pd__28I_29I rfl) rfl (by show 2 * 0 + _ ≤ _; exact Nat.le_of_eq rfl) (hb hby at_344) (fun _ _ => ⟨rfl, e340, (by decide : 5 + 0 ≤ _), (by decide : 30 + 0 ≤ _)⟩)
  dsimp only [Pt.U, Pt.locs, Pt.cells, Pt.slots] at X344 l344 y344 z344 st344 hQ344
  obtain ⟨rfl, N344q, e344⟩ := hQ344
  obtain ⟨lc344, X344, N344⟩ := own_pack X344 l344 y344 z344 N340 N344q (C := 5) (S' := 30) rfl rfl
  refine own_thr (a := T344.setTop (mkF m 347 #[.val (.int p0), .val (.int p1), .val (.int p2), .val (.int p3), .val (.int p4), .val (.int p5), .val (.int n), .val (.int s0), .val (.int d1), .val (.int tt), .val (.int d2), .val (.int s1), .val (.int s2), .val (.int (3 : Int32)), .val (.int (1 : Int32)), .val (.int (1 : Int32)), .val (.ref b296), .val (.ref b304), .val (.ref b316), .val (.int (1 : Int32))] [(.int (((own_up (own_up (own_up (own_up (own_up (own_up (own_up (own_up (own_up (fun _ => 0) s0 (0 : Int32)) s1 (0 : Int32)) s0 (s1 + (1 : Int32))) s2 (0 : Int32)) s1 (s2 + (1 : Int32))) (((own_up (own_up (own_up (fun _ => 0) s0 ((-1 : Int32) + (1 : Int32))) s1 (s0 + (1 : Int32))) s2 (s1 + (1 : Int32))) s1) - (1 : Int32)) ((((own_up (own_up (own_up (own_up (own_up (fun _ => 0) s0 (0 : Int32)) s1 (0 : Int32)) s0 (s1 + (1 : Int32))) s2 (0 : Int32)) s1 (s2 + (1 : Int32))) s1) - (1 : Int32)) + (1 : Int32))) s1 (0 : Int32)) s1 (0 : Int32)) s2 (s1 + (1 : Int32))) s0) - (1 : Int32)))])) (fun t kt => st344.trans kt) ?_
  refine own_thr (a := T344.setTop (mkF m 356 #[.val (.int p0), .val (.int p1), .val (.int p2), .val (.int p3), .val (.int p4), .val (.int p5), .val (.int n), .val (.int s0), .val (.int d1), .val (.int tt), .val (.int d2), .val (.int s1), .val (.int s2), .val (.int (3 : Int32)), .val (.int (1 : Int32)), .val (.int (1 : Int32)), .val (.ref b296), .val (.ref b304), .val (.ref b316), .val (.int (1 : Int32))] [(.int (1 : Int32)), (.ref b304), (.int (((own_up (own_up (own_up (own_up (own_up (own_up (own_up (own_up (own_up (fun _ => 0) s0 (0 : Int32)) s1 (0 : Int32)) s0 (s1 + (1 : Int32))) s2 (0 : Int32)) s1 (s2 + (1 : Int32))) (((own_up (own_up (own_up (fun _ => 0) s0 ((-1 : Int32) + (1 : Int32))) s1 (s0 + (1 : Int32))) s2 (s1 + (1 : Int32))) s1) - (1 : Int32)) ((((own_up (own_up (own_up (own_up (own_up (fun _ => 0) s0 (0 : Int32)) s1 (0 : Int32)) s0 (s1 + (1 : Int32))) s2 (0 : Int32)) s1 (s2 + (1 : Int32))) s1) - (1 : Int32)) + (1 : Int32))) s1 (0 : Int32)) s1 (0 : Int32)) s2 (s1 + (1 : Int32))) s0) - (1 : Int32)))])) (fun t kt => ?_) ?_
  · show Steps p.tables e below (T344.setTop (mkF m 347 #[.val (.int p0), .val (.int p1), .val (.int p2), .val (.int p3), .val (.int p4), .val (.int p5), .val (.int n), .val (.int s0), .val (.int d1), .val (.int tt), .val (.int d2), .val (.int s1), .val (.int s2), .val (.int (3 : Int32)), .val (.int (1 : Int32)), .val (.int (1 : Int32)), .val (.ref b296), .val (.ref b304), .val (.ref b316), .val (.int (1 : Int32))] [(.int (((own_up (own_up (own_up (own_up (own_up (own_up (own_up (own_up (own_up (fun _ => 0) s0 (0 : Int32)) s1 (0 : Int32)) s0 (s1 + (1 : Int32))) s2 (0 : Int32)) s1 (s2 + (1 : Int32))) (((own_up (own_up (own_up (fun _ => 0) s0 ((-1 : Int32) + (1 : Int32))) s1 (s0 + (1 : Int32))) s2 (s1 + (1 : Int32))) s1) - (1 : Int32)) ((((own_up (own_up (own_up (own_up (own_up (fun _ => 0) s0 (0 : Int32)) s1 (0 : Int32)) s0 (s1 + (1 : Int32))) s2 (0 : Int32)) s1 (s2 + (1 : Int32))) s1) - (1 : Int32)) + (1 : Int32))) s1 (0 : Int32)) s1 (0 : Int32)) s2 (s1 + (1 : Int32))) s0) - (1 : Int32)))])) _
    refine XS.iload X344.here hx rfl (hb hby at_347) rfl ?_
    refine XS.iconst X344.here hx rfl (hb hby at_349) ?_
    refine XS.icmpNo X344.here hx rfl (hb hby at_350) rfl (tlt (by decide)).2.2.2 ?_
    refine XS.aload X344.here hx rfl (hb hby at_353) rfl rfl ?_
    refine XS.iconst X344.here hx rfl (hb hby at_355) ?_
    exact kt
  obtain ⟨cl345, Ar345, -, S345, M345, H345, -⟩ := id c342
  have hin345 : ¬ ((1 : Int32) < 0 ∨ cl345.slots.size ≤ ((1 : Int32)).toNatClampNeg) := inb_of S345 ⟨by decide, by decide⟩
  have hat345 : cl345.slots[((1 : Int32)).toNatClampNeg]? = some (.int s2) := Has.at H345 hin345 rfl
  refine own_thr (a := T344.setTop (mkF m 387 #[.val (.int p0), .val (.int p1), .val (.int p2), .val (.int p3), .val (.int p4), .val (.int p5), .val (.int n), .val (.int s0), .val (.int d1), .val (.int tt), .val (.int d2), .val (.int s1), .val (.int s2), .val (.int (3 : Int32)), .val (.int (1 : Int32)), .val (.int (1 : Int32)), .val (.ref b296), .val (.ref b304), .val (.ref b316), .val (.int (1 : Int32))] [(.int (1 : Int32)), (.ref b304), (.ref b316)])) (fun t kt => ?_) ?_
  · show Steps p.tables e below (T344.setTop (mkF m 356 #[.val (.int p0), .val (.int p1), .val (.int p2), .val (.int p3), .val (.int p4), .val (.int p5), .val (.int n), .val (.int s0), .val (.int d1), .val (.int tt), .val (.int d2), .val (.int s1), .val (.int s2), .val (.int (3 : Int32)), .val (.int (1 : Int32)), .val (.int (1 : Int32)), .val (.ref b296), .val (.ref b304), .val (.ref b316), .val (.int (1 : Int32))] [(.int (1 : Int32)), (.ref b304), (.int (((own_up (own_up (own_up (own_up (own_up (own_up (own_up (own_up (own_up (fun _ => 0) s0 (0 : Int32)) s1 (0 : Int32)) s0 (s1 + (1 : Int32))) s2 (0 : Int32)) s1 (s2 + (1 : Int32))) (((own_up (own_up (own_up (fun _ => 0) s0 ((-1 : Int32) + (1 : Int32))) s1 (s0 + (1 : Int32))) s2 (s1 + (1 : Int32))) s1) - (1 : Int32)) ((((own_up (own_up (own_up (own_up (own_up (fun _ => 0) s0 (0 : Int32)) s1 (0 : Int32)) s0 (s1 + (1 : Int32))) s2 (0 : Int32)) s1 (s2 + (1 : Int32))) s1) - (1 : Int32)) + (1 : Int32))) s1 (0 : Int32)) s1 (0 : Int32)) s2 (s1 + (1 : Int32))) s0) - (1 : Int32)))])) _
    refine X344.iaload hx (j := (1 : Int32)) (v := (.int s2)) (by rw [e344]; exact Ar345.1) (State.isArrayOf_alike hZ.alike Ar345.2.1) Ar345.2.2 hin345 hat345 (g := (mkF m 356 #[.val (.int p0), .val (.int p1), .val (.int p2), .val (.int p3), .val (.int p4), .val (.int p5), .val (.int n), .val (.int s0), .val (.int d1), .val (.int tt), .val (.int d2), .val (.int s1), .val (.int s2), .val (.int (3 : Int32)), .val (.int (1 : Int32)), .val (.int (1 : Int32)), .val (.ref b296), .val (.ref b304), .val (.ref b316), .val (.int (1 : Int32))] [(.int (1 : Int32)), (.ref b304), (.int (((own_up (own_up (own_up (own_up (own_up (own_up (own_up (own_up (own_up (fun _ => 0) s0 (0 : Int32)) s1 (0 : Int32)) s0 (s1 + (1 : Int32))) s2 (0 : Int32)) s1 (s2 + (1 : Int32))) (((own_up (own_up (own_up (fun _ => 0) s0 ((-1 : Int32) + (1 : Int32))) s1 (s0 + (1 : Int32))) s2 (s1 + (1 : Int32))) s1) - (1 : Int32)) ((((own_up (own_up (own_up (own_up (own_up (fun _ => 0) s0 (0 : Int32)) s1 (0 : Int32)) s0 (s1 + (1 : Int32))) s2 (0 : Int32)) s1 (s2 + (1 : Int32))) s1) - (1 : Int32)) + (1 : Int32))) s1 (0 : Int32)) s1 (0 : Int32)) s2 (s1 + (1 : Int32))) s0) - (1 : Int32)))])) rfl rfl (hb hby at_356) _ ?_
    refine XS.goto X344.here hx rfl (pc0 := 357) (pc' := 361) rfl (hb hby at_357) (by decide) (by decide) ?_
    refine XS.icmpNo X344.here hx rfl (hb hby at_361) rfl (teq (by simp [own_up, own_as, n01, n10, n02, n20, n12, n21])).2 ?_
    refine XS.iconst X344.here hx rfl (hb hby at_364) ?_
    refine XS.goto X344.here hx rfl (pc0 := 365) (pc' := 369) rfl (hb hby at_365) (by decide) (by decide) ?_
    refine XS.istore X344.here hx rfl (hb hby at_369) rfl (l' := #[.val (.int p0), .val (.int p1), .val (.int p2), .val (.int p3), .val (.int p4), .val (.int p5), .val (.int n), .val (.int s0), .val (.int d1), .val (.int tt), .val (.int d2), .val (.int s1), .val (.int s2), .val (.int (3 : Int32)), .val (.int (1 : Int32)), .val (.int (1 : Int32)), .val (.ref b296), .val (.ref b304), .val (.ref b316), .val (.int (1 : Int32))]) rfl ?_
    refine XS.iload X344.here hx rfl (hb hby at_371) rfl ?_
    refine XS.iconst X344.here hx rfl (hb hby at_373) ?_
    refine XS.icmpNo X344.here hx rfl (hb hby at_374) rfl (tlt (by decide)).2.2.2 ?_
    refine XS.iload X344.here hx rfl (hb hby at_377) rfl ?_
    refine XS.ifNo X344.here hx rfl (hb hby at_379) rfl ((if0 _ _).trans (feq (by decide)).1) ?_
    refine XS.aload X344.here hx rfl (hb hby at_382) rfl rfl ?_
    refine XS.aload X344.here hx rfl (hb hby at_384) rfl rfl ?_
    refine XS.iconst X344.here hx rfl (hb hby at_386) ?_
    exact kt
  obtain ⟨cl346, Ar346, -, S346, M346, H346, -⟩ := id c342
  have hin346 : ¬ ((1 : Int32) < 0 ∨ cl346.slots.size ≤ ((1 : Int32)).toNatClampNeg) := inb_of S346 ⟨by decide, by decide⟩
  have hat346 : cl346.slots[((1 : Int32)).toNatClampNeg]? = some (.int s2) := Has.at H346 hin346 rfl
  refine own_thr (a := T344.setTop (mkF m 388 #[.val (.int p0), .val (.int p1), .val (.int p2), .val (.int p3), .val (.int p4), .val (.int p5), .val (.int n), .val (.int s0), .val (.int d1), .val (.int tt), .val (.int d2), .val (.int s1), .val (.int s2), .val (.int (3 : Int32)), .val (.int (1 : Int32)), .val (.int (1 : Int32)), .val (.ref b296), .val (.ref b304), .val (.ref b316), .val (.int (1 : Int32))] [(.int s2), (.ref b316)])) (fun t kt => ?_) ?_
  · show Steps p.tables e below (T344.setTop (mkF m 387 #[.val (.int p0), .val (.int p1), .val (.int p2), .val (.int p3), .val (.int p4), .val (.int p5), .val (.int n), .val (.int s0), .val (.int d1), .val (.int tt), .val (.int d2), .val (.int s1), .val (.int s2), .val (.int (3 : Int32)), .val (.int (1 : Int32)), .val (.int (1 : Int32)), .val (.ref b296), .val (.ref b304), .val (.ref b316), .val (.int (1 : Int32))] [(.int (1 : Int32)), (.ref b304), (.ref b316)])) _
    refine X344.iaload hx (j := (1 : Int32)) (v := (.int s2)) (by rw [e344]; exact Ar346.1) (State.isArrayOf_alike hZ.alike Ar346.2.1) Ar346.2.2 hin346 hat346 (g := (mkF m 387 #[.val (.int p0), .val (.int p1), .val (.int p2), .val (.int p3), .val (.int p4), .val (.int p5), .val (.int n), .val (.int s0), .val (.int d1), .val (.int tt), .val (.int d2), .val (.int s1), .val (.int s2), .val (.int (3 : Int32)), .val (.int (1 : Int32)), .val (.int (1 : Int32)), .val (.ref b296), .val (.ref b304), .val (.ref b316), .val (.int (1 : Int32))] [(.int (1 : Int32)), (.ref b304), (.ref b316)])) rfl rfl (hb hby at_387) _ ?_
    exact kt
  obtain ⟨cq347, kq347, q347a, q347b, q347c⟩ := isOf hZ e344 o338_0
  obtain ⟨_, _, ⟨T347, L347, k347, n347⟩, -, X347, ⟨Lc347, hQ347, l347, y347, z347⟩, st347⟩ := X344.virtualBack hx (y := (⟨"dev/chainlatch/bucket/Order", "after", "(I)I"⟩ : MethodName)) (z := (⟨"dev/chainlatch/bucket/Order", "after", "(I)I"⟩ : MethodName)) hown (mvT hZ (hw _ (List.mem_of_getElem? (i := 39) rfl))) (mvT hZ (hw _ (List.mem_of_getElem? (i := 40) rfl))) (notFace_of_selects (args := #[]) (mvT hZ (hw _ (List.mem_of_getElem? (i := 42) rfl)))) (mvT hZ (hw _ (List.mem_of_getElem? (i := 42) rfl))) (mvT hZ (hw _ (List.mem_of_getElem? (i := 41) rfl))) (by decide) (backOf (W := 0) (rmN l Z a0 hw [] b316 s2 A318 n (own_up (own_up (own_up (own_up (own_up (own_up (own_up (own_up (own_up (fun _ => 0) s0 (0 : Int32)) s1 (0 : Int32)) s0 (s1 + (1 : Int32))) s2 (0 : Int32)) s1 (s2 + (1 : Int32))) (((own_up (own_up (own_up (fun _ => 0) s0 ((-1 : Int32) + (1 : Int32))) s1 (s0 + (1 : Int32))) s2 (s1 + (1 : Int32))) s1) - (1 : Int32)) ((((own_up (own_up (own_up (own_up (own_up (fun _ => 0) s0 (0 : Int32)) s1 (0 : Int32)) s0 (s1 + (1 : Int32))) s2 (0 : Int32)) s1 (s2 + (1 : Int32))) s1) - (1 : Int32)) + (1 : Int32))) s1 (0 : Int32)) s1 (0 : Int32)) s2 (s1 + (1 : Int32))) T338.heap n0 Z339 o338_4 o338_6 hs20 hs21) hZ (hw _ (List.mem_of_getElem? (i := 43) rfl)) (hw _ (List.mem_of_getElem? (i := 5) rfl)) (by decide) (by decide)) q347a q347c (g := (mkF m 388 #[.val (.int p0), .val (.int p1), .val (.int p2), .val (.int p3), .val (.int p4), .val (.int p5), .val (.int n), .val (.int s0), .val (.int d1), .val (.int tt), .val (.int d2), .val (.int s1), .val (.int s2), .val (.int (3 : Int32)), .val (.int (1 : Int32)), .val (.int (1 : Int32)), .val (.ref b296), .val (.ref b304), .val (.ref b316), .val (.int (1 : Int32))] [(.int s2), (.ref b316)])) rfl (by rw [hml]; rfl) (Steps.refl _) (argsL := [(.int s2)]) (rest := []) (lenOf pd__28I_29I rfl) rfl (by show 2 * 0 + _ ≤ _; exact Nat.le_of_eq rfl) (hb hby at_388) (fun _ _ => ⟨rfl, e344, (by decide : 5 + 0 ≤ _), (by decide : 30 + 0 ≤ _)⟩)
  dsimp only [Pt.U, Pt.locs, Pt.cells, Pt.slots] at X347 l347 y347 z347 st347 hQ347
  obtain ⟨rfl, N347q, e347⟩ := hQ347
  obtain ⟨lc347, X347, N347⟩ := own_pack X347 l347 y347 z347 N344 N347q (C := 5) (S' := 30) rfl rfl
  refine own_thr (a := T347.setTop (mkF m 391 #[.val (.int p0), .val (.int p1), .val (.int p2), .val (.int p3), .val (.int p4), .val (.int p5), .val (.int n), .val (.int s0), .val (.int d1), .val (.int tt), .val (.int d2), .val (.int s1), .val (.int s2), .val (.int (3 : Int32)), .val (.int (1 : Int32)), .val (.int (1 : Int32)), .val (.ref b296), .val (.ref b304), .val (.ref b316), .val (.int (1 : Int32))] [(.int (((own_up (own_up (own_up (own_up (own_up (own_up (own_up (own_up (own_up (fun _ => 0) s0 (0 : Int32)) s1 (0 : Int32)) s0 (s1 + (1 : Int32))) s2 (0 : Int32)) s1 (s2 + (1 : Int32))) (((own_up (own_up (own_up (fun _ => 0) s0 ((-1 : Int32) + (1 : Int32))) s1 (s0 + (1 : Int32))) s2 (s1 + (1 : Int32))) s1) - (1 : Int32)) ((((own_up (own_up (own_up (own_up (own_up (fun _ => 0) s0 (0 : Int32)) s1 (0 : Int32)) s0 (s1 + (1 : Int32))) s2 (0 : Int32)) s1 (s2 + (1 : Int32))) s1) - (1 : Int32)) + (1 : Int32))) s1 (0 : Int32)) s1 (0 : Int32)) s2 (s1 + (1 : Int32))) s2) - (1 : Int32)))])) (fun t kt => st347.trans kt) ?_
  refine own_thr (a := T347.setTop (mkF m 400 #[.val (.int p0), .val (.int p1), .val (.int p2), .val (.int p3), .val (.int p4), .val (.int p5), .val (.int n), .val (.int s0), .val (.int d1), .val (.int tt), .val (.int d2), .val (.int s1), .val (.int s2), .val (.int (3 : Int32)), .val (.int (1 : Int32)), .val (.int (1 : Int32)), .val (.ref b296), .val (.ref b304), .val (.ref b316), .val (.int (1 : Int32))] [(.int (2 : Int32)), (.ref b304), (.int (((own_up (own_up (own_up (own_up (own_up (own_up (own_up (own_up (own_up (fun _ => 0) s0 (0 : Int32)) s1 (0 : Int32)) s0 (s1 + (1 : Int32))) s2 (0 : Int32)) s1 (s2 + (1 : Int32))) (((own_up (own_up (own_up (fun _ => 0) s0 ((-1 : Int32) + (1 : Int32))) s1 (s0 + (1 : Int32))) s2 (s1 + (1 : Int32))) s1) - (1 : Int32)) ((((own_up (own_up (own_up (own_up (own_up (fun _ => 0) s0 (0 : Int32)) s1 (0 : Int32)) s0 (s1 + (1 : Int32))) s2 (0 : Int32)) s1 (s2 + (1 : Int32))) s1) - (1 : Int32)) + (1 : Int32))) s1 (0 : Int32)) s1 (0 : Int32)) s2 (s1 + (1 : Int32))) s2) - (1 : Int32)))])) (fun t kt => ?_) ?_
  · show Steps p.tables e below (T347.setTop (mkF m 391 #[.val (.int p0), .val (.int p1), .val (.int p2), .val (.int p3), .val (.int p4), .val (.int p5), .val (.int n), .val (.int s0), .val (.int d1), .val (.int tt), .val (.int d2), .val (.int s1), .val (.int s2), .val (.int (3 : Int32)), .val (.int (1 : Int32)), .val (.int (1 : Int32)), .val (.ref b296), .val (.ref b304), .val (.ref b316), .val (.int (1 : Int32))] [(.int (((own_up (own_up (own_up (own_up (own_up (own_up (own_up (own_up (own_up (fun _ => 0) s0 (0 : Int32)) s1 (0 : Int32)) s0 (s1 + (1 : Int32))) s2 (0 : Int32)) s1 (s2 + (1 : Int32))) (((own_up (own_up (own_up (fun _ => 0) s0 ((-1 : Int32) + (1 : Int32))) s1 (s0 + (1 : Int32))) s2 (s1 + (1 : Int32))) s1) - (1 : Int32)) ((((own_up (own_up (own_up (own_up (own_up (fun _ => 0) s0 (0 : Int32)) s1 (0 : Int32)) s0 (s1 + (1 : Int32))) s2 (0 : Int32)) s1 (s2 + (1 : Int32))) s1) - (1 : Int32)) + (1 : Int32))) s1 (0 : Int32)) s1 (0 : Int32)) s2 (s1 + (1 : Int32))) s2) - (1 : Int32)))])) _
    refine XS.iload X347.here hx rfl (hb hby at_391) rfl ?_
    refine XS.iconst X347.here hx rfl (hb hby at_393) ?_
    refine XS.icmpNo X347.here hx rfl (hb hby at_394) rfl (tlt (by decide)).2.2.2 ?_
    refine XS.aload X347.here hx rfl (hb hby at_397) rfl rfl ?_
    refine XS.iconst X347.here hx rfl (hb hby at_399) ?_
    exact kt
  obtain ⟨cl348, Ar348, -, S348, M348, H348, -⟩ := id c342
  have hin348 : ¬ ((2 : Int32) < 0 ∨ cl348.slots.size ≤ ((2 : Int32)).toNatClampNeg) := inb_of S348 ⟨by decide, by decide⟩
  have hat348 : cl348.slots[((2 : Int32)).toNatClampNeg]? = some (.int s1) := Has.at H348 hin348 rfl
  refine own_thr (a := T347.setTop (mkF m 431 #[.val (.int p0), .val (.int p1), .val (.int p2), .val (.int p3), .val (.int p4), .val (.int p5), .val (.int n), .val (.int s0), .val (.int d1), .val (.int tt), .val (.int d2), .val (.int s1), .val (.int s2), .val (.int (3 : Int32)), .val (.int (1 : Int32)), .val (.int (1 : Int32)), .val (.ref b296), .val (.ref b304), .val (.ref b316), .val (.int (1 : Int32))] [(.int (2 : Int32)), (.ref b304), (.ref b316)])) (fun t kt => ?_) ?_
  · show Steps p.tables e below (T347.setTop (mkF m 400 #[.val (.int p0), .val (.int p1), .val (.int p2), .val (.int p3), .val (.int p4), .val (.int p5), .val (.int n), .val (.int s0), .val (.int d1), .val (.int tt), .val (.int d2), .val (.int s1), .val (.int s2), .val (.int (3 : Int32)), .val (.int (1 : Int32)), .val (.int (1 : Int32)), .val (.ref b296), .val (.ref b304), .val (.ref b316), .val (.int (1 : Int32))] [(.int (2 : Int32)), (.ref b304), (.int (((own_up (own_up (own_up (own_up (own_up (own_up (own_up (own_up (own_up (fun _ => 0) s0 (0 : Int32)) s1 (0 : Int32)) s0 (s1 + (1 : Int32))) s2 (0 : Int32)) s1 (s2 + (1 : Int32))) (((own_up (own_up (own_up (fun _ => 0) s0 ((-1 : Int32) + (1 : Int32))) s1 (s0 + (1 : Int32))) s2 (s1 + (1 : Int32))) s1) - (1 : Int32)) ((((own_up (own_up (own_up (own_up (own_up (fun _ => 0) s0 (0 : Int32)) s1 (0 : Int32)) s0 (s1 + (1 : Int32))) s2 (0 : Int32)) s1 (s2 + (1 : Int32))) s1) - (1 : Int32)) + (1 : Int32))) s1 (0 : Int32)) s1 (0 : Int32)) s2 (s1 + (1 : Int32))) s2) - (1 : Int32)))])) _
    refine X347.iaload hx (j := (2 : Int32)) (v := (.int s1)) (by rw [e347]; exact Ar348.1) (State.isArrayOf_alike hZ.alike Ar348.2.1) Ar348.2.2 hin348 hat348 (g := (mkF m 400 #[.val (.int p0), .val (.int p1), .val (.int p2), .val (.int p3), .val (.int p4), .val (.int p5), .val (.int n), .val (.int s0), .val (.int d1), .val (.int tt), .val (.int d2), .val (.int s1), .val (.int s2), .val (.int (3 : Int32)), .val (.int (1 : Int32)), .val (.int (1 : Int32)), .val (.ref b296), .val (.ref b304), .val (.ref b316), .val (.int (1 : Int32))] [(.int (2 : Int32)), (.ref b304), (.int (((own_up (own_up (own_up (own_up (own_up (own_up (own_up (own_up (own_up (fun _ => 0) s0 (0 : Int32)) s1 (0 : Int32)) s0 (s1 + (1 : Int32))) s2 (0 : Int32)) s1 (s2 + (1 : Int32))) (((own_up (own_up (own_up (fun _ => 0) s0 ((-1 : Int32) + (1 : Int32))) s1 (s0 + (1 : Int32))) s2 (s1 + (1 : Int32))) s1) - (1 : Int32)) ((((own_up (own_up (own_up (own_up (own_up (fun _ => 0) s0 (0 : Int32)) s1 (0 : Int32)) s0 (s1 + (1 : Int32))) s2 (0 : Int32)) s1 (s2 + (1 : Int32))) s1) - (1 : Int32)) + (1 : Int32))) s1 (0 : Int32)) s1 (0 : Int32)) s2 (s1 + (1 : Int32))) s2) - (1 : Int32)))])) rfl rfl (hb hby at_400) _ ?_
    refine XS.goto X347.here hx rfl (pc0 := 401) (pc' := 405) rfl (hb hby at_401) (by decide) (by decide) ?_
    refine XS.icmpNo X347.here hx rfl (hb hby at_405) rfl (teq (by simp [own_up, own_as, n01, n10, n02, n20, n12, n21])).2 ?_
    refine XS.iconst X347.here hx rfl (hb hby at_408) ?_
    refine XS.goto X347.here hx rfl (pc0 := 409) (pc' := 413) rfl (hb hby at_409) (by decide) (by decide) ?_
    refine XS.istore X347.here hx rfl (hb hby at_413) rfl (l' := #[.val (.int p0), .val (.int p1), .val (.int p2), .val (.int p3), .val (.int p4), .val (.int p5), .val (.int n), .val (.int s0), .val (.int d1), .val (.int tt), .val (.int d2), .val (.int s1), .val (.int s2), .val (.int (3 : Int32)), .val (.int (1 : Int32)), .val (.int (1 : Int32)), .val (.ref b296), .val (.ref b304), .val (.ref b316), .val (.int (1 : Int32))]) rfl ?_
    refine XS.iload X347.here hx rfl (hb hby at_415) rfl ?_
    refine XS.iconst X347.here hx rfl (hb hby at_417) ?_
    refine XS.icmpNo X347.here hx rfl (hb hby at_418) rfl (tlt (by decide)).2.2.2 ?_
    refine XS.iload X347.here hx rfl (hb hby at_421) rfl ?_
    refine XS.ifNo X347.here hx rfl (hb hby at_423) rfl ((if0 _ _).trans (feq (by decide)).1) ?_
    refine XS.aload X347.here hx rfl (hb hby at_426) rfl rfl ?_
    refine XS.aload X347.here hx rfl (hb hby at_428) rfl rfl ?_
    refine XS.iconst X347.here hx rfl (hb hby at_430) ?_
    exact kt
  obtain ⟨cl349, Ar349, -, S349, M349, H349, -⟩ := id c342
  have hin349 : ¬ ((2 : Int32) < 0 ∨ cl349.slots.size ≤ ((2 : Int32)).toNatClampNeg) := inb_of S349 ⟨by decide, by decide⟩
  have hat349 : cl349.slots[((2 : Int32)).toNatClampNeg]? = some (.int s1) := Has.at H349 hin349 rfl
  refine own_thr (a := T347.setTop (mkF m 432 #[.val (.int p0), .val (.int p1), .val (.int p2), .val (.int p3), .val (.int p4), .val (.int p5), .val (.int n), .val (.int s0), .val (.int d1), .val (.int tt), .val (.int d2), .val (.int s1), .val (.int s2), .val (.int (3 : Int32)), .val (.int (1 : Int32)), .val (.int (1 : Int32)), .val (.ref b296), .val (.ref b304), .val (.ref b316), .val (.int (1 : Int32))] [(.int s1), (.ref b316)])) (fun t kt => ?_) ?_
  · show Steps p.tables e below (T347.setTop (mkF m 431 #[.val (.int p0), .val (.int p1), .val (.int p2), .val (.int p3), .val (.int p4), .val (.int p5), .val (.int n), .val (.int s0), .val (.int d1), .val (.int tt), .val (.int d2), .val (.int s1), .val (.int s2), .val (.int (3 : Int32)), .val (.int (1 : Int32)), .val (.int (1 : Int32)), .val (.ref b296), .val (.ref b304), .val (.ref b316), .val (.int (1 : Int32))] [(.int (2 : Int32)), (.ref b304), (.ref b316)])) _
    refine X347.iaload hx (j := (2 : Int32)) (v := (.int s1)) (by rw [e347]; exact Ar349.1) (State.isArrayOf_alike hZ.alike Ar349.2.1) Ar349.2.2 hin349 hat349 (g := (mkF m 431 #[.val (.int p0), .val (.int p1), .val (.int p2), .val (.int p3), .val (.int p4), .val (.int p5), .val (.int n), .val (.int s0), .val (.int d1), .val (.int tt), .val (.int d2), .val (.int s1), .val (.int s2), .val (.int (3 : Int32)), .val (.int (1 : Int32)), .val (.int (1 : Int32)), .val (.ref b296), .val (.ref b304), .val (.ref b316), .val (.int (1 : Int32))] [(.int (2 : Int32)), (.ref b304), (.ref b316)])) rfl rfl (hb hby at_431) _ ?_
    exact kt
  obtain ⟨cq350, kq350, q350a, q350b, q350c⟩ := isOf hZ e347 o338_0
  obtain ⟨_, _, ⟨T350, L350, k350, n350⟩, -, X350, ⟨Lc350, hQ350, l350, y350, z350⟩, st350⟩ := X347.virtualBack hx (y := (⟨"dev/chainlatch/bucket/Order", "after", "(I)I"⟩ : MethodName)) (z := (⟨"dev/chainlatch/bucket/Order", "after", "(I)I"⟩ : MethodName)) hown (mvT hZ (hw _ (List.mem_of_getElem? (i := 39) rfl))) (mvT hZ (hw _ (List.mem_of_getElem? (i := 40) rfl))) (notFace_of_selects (args := #[]) (mvT hZ (hw _ (List.mem_of_getElem? (i := 42) rfl)))) (mvT hZ (hw _ (List.mem_of_getElem? (i := 42) rfl))) (mvT hZ (hw _ (List.mem_of_getElem? (i := 41) rfl))) (by decide) (backOf (W := 0) (rmN l Z a0 hw [] b316 s1 A318 n (own_up (own_up (own_up (own_up (own_up (own_up (own_up (own_up (own_up (fun _ => 0) s0 (0 : Int32)) s1 (0 : Int32)) s0 (s1 + (1 : Int32))) s2 (0 : Int32)) s1 (s2 + (1 : Int32))) (((own_up (own_up (own_up (fun _ => 0) s0 ((-1 : Int32) + (1 : Int32))) s1 (s0 + (1 : Int32))) s2 (s1 + (1 : Int32))) s1) - (1 : Int32)) ((((own_up (own_up (own_up (own_up (own_up (fun _ => 0) s0 (0 : Int32)) s1 (0 : Int32)) s0 (s1 + (1 : Int32))) s2 (0 : Int32)) s1 (s2 + (1 : Int32))) s1) - (1 : Int32)) + (1 : Int32))) s1 (0 : Int32)) s1 (0 : Int32)) s2 (s1 + (1 : Int32))) T338.heap n0 Z339 o338_4 o338_6 hs10 hs11) hZ (hw _ (List.mem_of_getElem? (i := 43) rfl)) (hw _ (List.mem_of_getElem? (i := 5) rfl)) (by decide) (by decide)) q350a q350c (g := (mkF m 432 #[.val (.int p0), .val (.int p1), .val (.int p2), .val (.int p3), .val (.int p4), .val (.int p5), .val (.int n), .val (.int s0), .val (.int d1), .val (.int tt), .val (.int d2), .val (.int s1), .val (.int s2), .val (.int (3 : Int32)), .val (.int (1 : Int32)), .val (.int (1 : Int32)), .val (.ref b296), .val (.ref b304), .val (.ref b316), .val (.int (1 : Int32))] [(.int s1), (.ref b316)])) rfl (by rw [hml]; rfl) (Steps.refl _) (argsL := [(.int s1)]) (rest := []) (lenOf pd__28I_29I rfl) rfl (by show 2 * 0 + _ ≤ _; exact Nat.le_of_eq rfl) (hb hby at_432) (fun _ _ => ⟨rfl, e347, (by decide : 5 + 0 ≤ _), (by decide : 30 + 0 ≤ _)⟩)
  dsimp only [Pt.U, Pt.locs, Pt.cells, Pt.slots] at X350 l350 y350 z350 st350 hQ350
  obtain ⟨rfl, N350q, e350⟩ := hQ350
  obtain ⟨lc350, X350, N350⟩ := own_pack X350 l350 y350 z350 N347 N350q (C := 5) (S' := 30) rfl rfl
  refine own_thr (a := T350.setTop (mkF m 435 #[.val (.int p0), .val (.int p1), .val (.int p2), .val (.int p3), .val (.int p4), .val (.int p5), .val (.int n), .val (.int s0), .val (.int d1), .val (.int tt), .val (.int d2), .val (.int s1), .val (.int s2), .val (.int (3 : Int32)), .val (.int (1 : Int32)), .val (.int (1 : Int32)), .val (.ref b296), .val (.ref b304), .val (.ref b316), .val (.int (1 : Int32))] [(.int (((own_up (own_up (own_up (own_up (own_up (own_up (own_up (own_up (own_up (fun _ => 0) s0 (0 : Int32)) s1 (0 : Int32)) s0 (s1 + (1 : Int32))) s2 (0 : Int32)) s1 (s2 + (1 : Int32))) (((own_up (own_up (own_up (fun _ => 0) s0 ((-1 : Int32) + (1 : Int32))) s1 (s0 + (1 : Int32))) s2 (s1 + (1 : Int32))) s1) - (1 : Int32)) ((((own_up (own_up (own_up (own_up (own_up (fun _ => 0) s0 (0 : Int32)) s1 (0 : Int32)) s0 (s1 + (1 : Int32))) s2 (0 : Int32)) s1 (s2 + (1 : Int32))) s1) - (1 : Int32)) + (1 : Int32))) s1 (0 : Int32)) s1 (0 : Int32)) s2 (s1 + (1 : Int32))) s1) - (1 : Int32)))])) (fun t kt => st350.trans kt) ?_
  refine own_thr (a := T350.setTop (mkF m 448 #[.val (.int p0), .val (.int p1), .val (.int p2), .val (.int p3), .val (.int p4), .val (.int p5), .val (.int n), .val (.int s0), .val (.int d1), .val (.int tt), .val (.int d2), .val (.int s1), .val (.int s2), .val (.int (3 : Int32)), .val (.int (1 : Int32)), .val (.int (1 : Int32)), .val (.ref b296), .val (.ref b304), .val (.ref b316), .val (.int (1 : Int32))] [(.int (1 : Int32))])) (fun t kt => ?_) ?_
  · show Steps p.tables e below (T350.setTop (mkF m 435 #[.val (.int p0), .val (.int p1), .val (.int p2), .val (.int p3), .val (.int p4), .val (.int p5), .val (.int n), .val (.int s0), .val (.int d1), .val (.int tt), .val (.int d2), .val (.int s1), .val (.int s2), .val (.int (3 : Int32)), .val (.int (1 : Int32)), .val (.int (1 : Int32)), .val (.ref b296), .val (.ref b304), .val (.ref b316), .val (.int (1 : Int32))] [(.int (((own_up (own_up (own_up (own_up (own_up (own_up (own_up (own_up (own_up (fun _ => 0) s0 (0 : Int32)) s1 (0 : Int32)) s0 (s1 + (1 : Int32))) s2 (0 : Int32)) s1 (s2 + (1 : Int32))) (((own_up (own_up (own_up (fun _ => 0) s0 ((-1 : Int32) + (1 : Int32))) s1 (s0 + (1 : Int32))) s2 (s1 + (1 : Int32))) s1) - (1 : Int32)) ((((own_up (own_up (own_up (own_up (own_up (fun _ => 0) s0 (0 : Int32)) s1 (0 : Int32)) s0 (s1 + (1 : Int32))) s2 (0 : Int32)) s1 (s2 + (1 : Int32))) s1) - (1 : Int32)) + (1 : Int32))) s1 (0 : Int32)) s1 (0 : Int32)) s2 (s1 + (1 : Int32))) s1) - (1 : Int32)))])) _
    refine XS.iconst X350.here hx rfl (hb hby at_435) ?_
    refine XS.icmpNo X350.here hx rfl (hb hby at_436) rfl (teq (by simp [own_up, own_as, n01, n10, n02, n20, n12, n21])).2 ?_
    refine XS.iconst X350.here hx rfl (hb hby at_439) ?_
    refine XS.goto X350.here hx rfl (pc0 := 440) (pc' := 444) rfl (hb hby at_440) (by decide) (by decide) ?_
    refine XS.istore X350.here hx rfl (hb hby at_444) rfl (l' := #[.val (.int p0), .val (.int p1), .val (.int p2), .val (.int p3), .val (.int p4), .val (.int p5), .val (.int n), .val (.int s0), .val (.int d1), .val (.int tt), .val (.int d2), .val (.int s1), .val (.int s2), .val (.int (3 : Int32)), .val (.int (1 : Int32)), .val (.int (1 : Int32)), .val (.ref b296), .val (.ref b304), .val (.ref b316), .val (.int (1 : Int32))]) rfl ?_
    refine XS.iload X350.here hx rfl (hb hby at_446) rfl ?_
    exact kt
  exact own_end X350 hlk (v := some (.int (1 : Int32))) (fun h => by rw [hret] at h; cases h) (fun fs hr => retN X350 hx (t := .boolean) hret (by simp) (hb hby at_448) hr) ⟨rfl, N350⟩ (by decide : 5 ≤ _) (by decide : 30 ≤ _)
set_option maxRecDepth 65536 in
set_option maxHeartbeats 40000000 in
theorem tl312 {p : Program} {l : Launch} {e : Env} {s : State} {m : MethodId} {below : List Frame} {meth : Method} {c : Code} {Z : State} {a0 : Array Value} (p0 : Int32) (p1 : Int32) (p2 : Int32) (p3 : Int32) (p4 : Int32) (p5 : Int32) {h0 : Heap} {n0 : Nat} (Z0 : n0 ≤ h0.size) (hw : ∀ d ∈ tables_1, d.before a0 Z = true) (hx : p.tables.exec = Jvm.exec) (hZ : Z.Warmed39 s.vm) (hby : c.code = code) (hml : c.maxLocals = 20) (hown : s.vm.findClass "dev/chainlatch/bucket/OrderAppendPinLaw" = some m.cls) (hlk : meth.locks = false) (hret : meth.sig.returnType = ret)
    {T0 : State} {lc0 : List Loc} (X0 : Stand p l e room_1 s m #[(.int p0), (.int p1), (.int p2), (.int p3), (.int p4), (.int p5)] below meth c T0 lc0 0 0) (N0 : Fr n0 lc0) (e0 : T0.heap = h0) (n s0 d1 tt d2 s1 s2 r : Int32) (hH : own_H n s0 s1 s2) : own_G p.tables e below s (Q0 Z p0 p1 p2 p3 p4 p5 h0 n0) room_1.cells room_1.slots (T0.setTop (mkF m 116 #[.val (.int p0), .val (.int p1), .val (.int p2), .val (.int p3), .val (.int p4), .val (.int p5), .val (.int n), .val (.int s0), .val (.int d1), .val (.int tt), .val (.int d2), .val (.int s1), .val (.int s2), .val (.int (3 : Int32)), .val (.int (1 : Int32)), .val (.int (2 : Int32)), .unset, .unset, .unset, .unset] [])) := by
  obtain ⟨⟨hn0, hn1⟩, ⟨hs00, hs01⟩, ⟨hs10, hs11⟩, ⟨hs20, hs21⟩, n01, n02, n12⟩ := hH
  have n10 : ¬ s1 = s0 := fun q => n01 q.symm
  have n20 : ¬ s2 = s0 := fun q => n02 q.symm
  have n21 : ¬ s2 = s1 := fun q => n12 q.symm
  refine own_thr (a := T0.setTop (mkF m 117 #[.val (.int p0), .val (.int p1), .val (.int p2), .val (.int p3), .val (.int p4), .val (.int p5), .val (.int n), .val (.int s0), .val (.int d1), .val (.int tt), .val (.int d2), .val (.int s1), .val (.int s2), .val (.int (3 : Int32)), .val (.int (1 : Int32)), .val (.int (2 : Int32)), .unset, .unset, .unset, .unset] [(.int (3 : Int32))])) (fun t kt => ?_) ?_
  · show Steps p.tables e below (T0.setTop (mkF m 116 #[.val (.int p0), .val (.int p1), .val (.int p2), .val (.int p3), .val (.int p4), .val (.int p5), .val (.int n), .val (.int s0), .val (.int d1), .val (.int tt), .val (.int d2), .val (.int s1), .val (.int s2), .val (.int (3 : Int32)), .val (.int (1 : Int32)), .val (.int (2 : Int32)), .unset, .unset, .unset, .unset] [])) _
    refine XS.iconst X0.here hx rfl (hb hby at_116) ?_
    exact kt
  obtain ⟨T351, h351, k351, X351, e351, E351, A351, st351⟩ := newP X0 hx hZ (hw _ (List.mem_of_getElem? (i := 2) rfl)) e0 (g := (mkF m 117 #[.val (.int p0), .val (.int p1), .val (.int p2), .val (.int p3), .val (.int p4), .val (.int p5), .val (.int n), .val (.int s0), .val (.int d1), .val (.int tt), .val (.int d2), .val (.int s1), .val (.int s2), .val (.int (3 : Int32)), .val (.int (1 : Int32)), .val (.int (2 : Int32)), .unset, .unset, .unset, .unset] [(.int (3 : Int32))])) rfl (hb hby at_117) rfl (by decide) (cap := 3) (by decide) (by decide) (by decide : 0 + 1 ≤ _) (by decide : 0 + 3 ≤ _)
  obtain ⟨b351, g351⟩ : ∃ z, z = h0.size := ⟨_, rfl⟩
  rw [← g351] at A351 st351
  have g_b351 : n0 ≤ b351 := Nat.le_trans Z0 (Nat.le_of_eq g351.symm)
  have sz_b351 : h0.size ≤ b351 := Nat.le_trans (Nat.le_refl h0.size) (Nat.le_of_eq g351.symm)
  have V_b351 : Arv Z h351 b351 k351 .int (3 : Int32) [(.int (0 : Int32)), (.int (0 : Int32)), (.int (0 : Int32))] (.int (0 : Int32)) := (Arv.new A351 (by decide)).pad (pad_rep [] (.int (0 : Int32)) 3)
  have Z352 : n0 ≤ h351.size := Nat.le_trans Z0 E351.1
  have Z352h : h0.size ≤ h351.size := Nat.le_trans (Nat.le_refl h0.size) E351.1
  refine own_thr (a := T351.setTop (mkF m 119 #[.val (.int p0), .val (.int p1), .val (.int p2), .val (.int p3), .val (.int p4), .val (.int p5), .val (.int n), .val (.int s0), .val (.int d1), .val (.int tt), .val (.int d2), .val (.int s1), .val (.int s2), .val (.int (3 : Int32)), .val (.int (1 : Int32)), .val (.int (2 : Int32)), .unset, .unset, .unset, .unset] [(.ref b351)])) (fun t kt => st351 t kt) ?_
  refine own_thr (a := T351.setTop (mkF m 123 #[.val (.int p0), .val (.int p1), .val (.int p2), .val (.int p3), .val (.int p4), .val (.int p5), .val (.int n), .val (.int s0), .val (.int d1), .val (.int tt), .val (.int d2), .val (.int s1), .val (.int s2), .val (.int (3 : Int32)), .val (.int (1 : Int32)), .val (.int (2 : Int32)), .unset, .unset, .unset, .unset] [(.int s0), (.int (0 : Int32)), (.ref b351), (.ref b351)])) (fun t kt => ?_) ?_
  · show Steps p.tables e below (T351.setTop (mkF m 119 #[.val (.int p0), .val (.int p1), .val (.int p2), .val (.int p3), .val (.int p4), .val (.int p5), .val (.int n), .val (.int s0), .val (.int d1), .val (.int tt), .val (.int d2), .val (.int s1), .val (.int s2), .val (.int (3 : Int32)), .val (.int (1 : Int32)), .val (.int (2 : Int32)), .unset, .unset, .unset, .unset] [(.ref b351)])) _
    refine XS.dup X351.here hx rfl (hb hby at_119) rfl rfl ?_
    refine XS.iconst X351.here hx rfl (hb hby at_120) ?_
    refine XS.iload X351.here hx rfl (hb hby at_121) rfl ?_
    exact kt
  obtain ⟨cl353, Ar353, q353, S353, M353, H353, G353⟩ := id V_b351
  have hin353 : ¬ ((0 : Int32) < 0 ∨ cl353.slots.size ≤ ((0 : Int32)).toNatClampNeg) := inb_of S353 ⟨by decide, by decide⟩
  obtain ⟨T353, h353, X353, e353, W353, st353⟩ := stI X351 hx hZ e351 Ar353 (j := (0 : Int32)) hin353 (g := (mkF m 123 #[.val (.int p0), .val (.int p1), .val (.int p2), .val (.int p3), .val (.int p4), .val (.int p5), .val (.int n), .val (.int s0), .val (.int d1), .val (.int tt), .val (.int d2), .val (.int s1), .val (.int s2), .val (.int (3 : Int32)), .val (.int (1 : Int32)), .val (.int (2 : Int32)), .unset, .unset, .unset, .unset] [(.int s0), (.int (0 : Int32)), (.ref b351), (.ref b351)])) rfl rfl (hb hby at_123)
  have Z354 : n0 ≤ h353.size := Nat.le_trans Z352 (Nat.le_of_eq W353.size.symm)
  have Z354h : h0.size ≤ h353.size := Nat.le_trans Z352h (Nat.le_of_eq W353.size.symm)
  have V353 : Arv Z h353 b351 k351 .int (3 : Int32) [(.int s0), (.int (0 : Int32)), (.int (0 : Int32))] (.int (0 : Int32)) := Arv.set Ar353 q353 S353 M353 H353 G353 rfl W353 0 rfl (Nat.le_of_ble_eq_true rfl)
  obtain ⟨lc353, X353, N353⟩ := own_pack1 X353 N0 g_b351
  refine own_thr (a := T353.setTop (mkF m 124 #[.val (.int p0), .val (.int p1), .val (.int p2), .val (.int p3), .val (.int p4), .val (.int p5), .val (.int n), .val (.int s0), .val (.int d1), .val (.int tt), .val (.int d2), .val (.int s1), .val (.int s2), .val (.int (3 : Int32)), .val (.int (1 : Int32)), .val (.int (2 : Int32)), .unset, .unset, .unset, .unset] [(.ref b351)])) (fun t kt => st353 t kt) ?_
  refine own_thr (a := T353.setTop (mkF m 128 #[.val (.int p0), .val (.int p1), .val (.int p2), .val (.int p3), .val (.int p4), .val (.int p5), .val (.int n), .val (.int s0), .val (.int d1), .val (.int tt), .val (.int d2), .val (.int s1), .val (.int s2), .val (.int (3 : Int32)), .val (.int (1 : Int32)), .val (.int (2 : Int32)), .unset, .unset, .unset, .unset] [(.int s1), (.int (1 : Int32)), (.ref b351), (.ref b351)])) (fun t kt => ?_) ?_
  · show Steps p.tables e below (T353.setTop (mkF m 124 #[.val (.int p0), .val (.int p1), .val (.int p2), .val (.int p3), .val (.int p4), .val (.int p5), .val (.int n), .val (.int s0), .val (.int d1), .val (.int tt), .val (.int d2), .val (.int s1), .val (.int s2), .val (.int (3 : Int32)), .val (.int (1 : Int32)), .val (.int (2 : Int32)), .unset, .unset, .unset, .unset] [(.ref b351)])) _
    refine XS.dup X353.here hx rfl (hb hby at_124) rfl rfl ?_
    refine XS.iconst X353.here hx rfl (hb hby at_125) ?_
    refine XS.iload X353.here hx rfl (hb hby at_126) rfl ?_
    exact kt
  obtain ⟨cl355, Ar355, q355, S355, M355, H355, G355⟩ := id V353
  have hin355 : ¬ ((1 : Int32) < 0 ∨ cl355.slots.size ≤ ((1 : Int32)).toNatClampNeg) := inb_of S355 ⟨by decide, by decide⟩
  obtain ⟨T355, h355, X355, e355, W355, st355⟩ := stI X353 hx hZ e353 Ar355 (j := (1 : Int32)) hin355 (g := (mkF m 128 #[.val (.int p0), .val (.int p1), .val (.int p2), .val (.int p3), .val (.int p4), .val (.int p5), .val (.int n), .val (.int s0), .val (.int d1), .val (.int tt), .val (.int d2), .val (.int s1), .val (.int s2), .val (.int (3 : Int32)), .val (.int (1 : Int32)), .val (.int (2 : Int32)), .unset, .unset, .unset, .unset] [(.int s1), (.int (1 : Int32)), (.ref b351), (.ref b351)])) rfl rfl (hb hby at_128)
  have Z356 : n0 ≤ h355.size := Nat.le_trans Z354 (Nat.le_of_eq W355.size.symm)
  have Z356h : h0.size ≤ h355.size := Nat.le_trans Z354h (Nat.le_of_eq W355.size.symm)
  have V355 : Arv Z h355 b351 k351 .int (3 : Int32) [(.int s0), (.int s1), (.int (0 : Int32))] (.int (0 : Int32)) := Arv.set Ar355 q355 S355 M355 H355 G355 rfl W355 1 rfl (Nat.le_of_ble_eq_true rfl)
  obtain ⟨lc355, X355, N355⟩ := own_pack1 X355 N353 g_b351
  refine own_thr (a := T355.setTop (mkF m 129 #[.val (.int p0), .val (.int p1), .val (.int p2), .val (.int p3), .val (.int p4), .val (.int p5), .val (.int n), .val (.int s0), .val (.int d1), .val (.int tt), .val (.int d2), .val (.int s1), .val (.int s2), .val (.int (3 : Int32)), .val (.int (1 : Int32)), .val (.int (2 : Int32)), .unset, .unset, .unset, .unset] [(.ref b351)])) (fun t kt => st355 t kt) ?_
  refine own_thr (a := T355.setTop (mkF m 133 #[.val (.int p0), .val (.int p1), .val (.int p2), .val (.int p3), .val (.int p4), .val (.int p5), .val (.int n), .val (.int s0), .val (.int d1), .val (.int tt), .val (.int d2), .val (.int s1), .val (.int s2), .val (.int (3 : Int32)), .val (.int (1 : Int32)), .val (.int (2 : Int32)), .unset, .unset, .unset, .unset] [(.int s2), (.int (2 : Int32)), (.ref b351), (.ref b351)])) (fun t kt => ?_) ?_
  · show Steps p.tables e below (T355.setTop (mkF m 129 #[.val (.int p0), .val (.int p1), .val (.int p2), .val (.int p3), .val (.int p4), .val (.int p5), .val (.int n), .val (.int s0), .val (.int d1), .val (.int tt), .val (.int d2), .val (.int s1), .val (.int s2), .val (.int (3 : Int32)), .val (.int (1 : Int32)), .val (.int (2 : Int32)), .unset, .unset, .unset, .unset] [(.ref b351)])) _
    refine XS.dup X355.here hx rfl (hb hby at_129) rfl rfl ?_
    refine XS.iconst X355.here hx rfl (hb hby at_130) ?_
    refine XS.iload X355.here hx rfl (hb hby at_131) rfl ?_
    exact kt
  obtain ⟨cl357, Ar357, q357, S357, M357, H357, G357⟩ := id V355
  have hin357 : ¬ ((2 : Int32) < 0 ∨ cl357.slots.size ≤ ((2 : Int32)).toNatClampNeg) := inb_of S357 ⟨by decide, by decide⟩
  obtain ⟨T357, h357, X357, e357, W357, st357⟩ := stI X355 hx hZ e355 Ar357 (j := (2 : Int32)) hin357 (g := (mkF m 133 #[.val (.int p0), .val (.int p1), .val (.int p2), .val (.int p3), .val (.int p4), .val (.int p5), .val (.int n), .val (.int s0), .val (.int d1), .val (.int tt), .val (.int d2), .val (.int s1), .val (.int s2), .val (.int (3 : Int32)), .val (.int (1 : Int32)), .val (.int (2 : Int32)), .unset, .unset, .unset, .unset] [(.int s2), (.int (2 : Int32)), (.ref b351), (.ref b351)])) rfl rfl (hb hby at_133)
  have Z358 : n0 ≤ h357.size := Nat.le_trans Z356 (Nat.le_of_eq W357.size.symm)
  have Z358h : h0.size ≤ h357.size := Nat.le_trans Z356h (Nat.le_of_eq W357.size.symm)
  have V357 : Arv Z h357 b351 k351 .int (3 : Int32) [(.int s0), (.int s1), (.int s2)] (.int (0 : Int32)) := Arv.set Ar357 q357 S357 M357 H357 G357 rfl W357 2 rfl (Nat.le_of_ble_eq_true rfl)
  obtain ⟨lc357, X357, N357⟩ := own_pack1 X357 N355 g_b351
  refine own_thr (a := T357.setTop (mkF m 134 #[.val (.int p0), .val (.int p1), .val (.int p2), .val (.int p3), .val (.int p4), .val (.int p5), .val (.int n), .val (.int s0), .val (.int d1), .val (.int tt), .val (.int d2), .val (.int s1), .val (.int s2), .val (.int (3 : Int32)), .val (.int (1 : Int32)), .val (.int (2 : Int32)), .unset, .unset, .unset, .unset] [(.ref b351)])) (fun t kt => st357 t kt) ?_
  refine own_thr (a := T357.setTop (mkF m 137 #[.val (.int p0), .val (.int p1), .val (.int p2), .val (.int p3), .val (.int p4), .val (.int p5), .val (.int n), .val (.int s0), .val (.int d1), .val (.int tt), .val (.int d2), .val (.int s1), .val (.int s2), .val (.int (3 : Int32)), .val (.int (1 : Int32)), .val (.int (2 : Int32)), .val (.ref b351), .unset, .unset, .unset] [(.int (3 : Int32))])) (fun t kt => ?_) ?_
  · show Steps p.tables e below (T357.setTop (mkF m 134 #[.val (.int p0), .val (.int p1), .val (.int p2), .val (.int p3), .val (.int p4), .val (.int p5), .val (.int n), .val (.int s0), .val (.int d1), .val (.int tt), .val (.int d2), .val (.int s1), .val (.int s2), .val (.int (3 : Int32)), .val (.int (1 : Int32)), .val (.int (2 : Int32)), .unset, .unset, .unset, .unset] [(.ref b351)])) _
    refine XS.astore X357.here hx rfl (hb hby at_134) rfl rfl (l' := #[.val (.int p0), .val (.int p1), .val (.int p2), .val (.int p3), .val (.int p4), .val (.int p5), .val (.int n), .val (.int s0), .val (.int d1), .val (.int tt), .val (.int d2), .val (.int s1), .val (.int s2), .val (.int (3 : Int32)), .val (.int (1 : Int32)), .val (.int (2 : Int32)), .val (.ref b351), .unset, .unset, .unset]) rfl ?_
    refine XS.iconst X357.here hx rfl (hb hby at_136) ?_
    exact kt
  obtain ⟨T359, h359, k359, X359, e359, E359, A359, st359⟩ := newP X357 hx hZ (hw _ (List.mem_of_getElem? (i := 2) rfl)) e357 (g := (mkF m 137 #[.val (.int p0), .val (.int p1), .val (.int p2), .val (.int p3), .val (.int p4), .val (.int p5), .val (.int n), .val (.int s0), .val (.int d1), .val (.int tt), .val (.int d2), .val (.int s1), .val (.int s2), .val (.int (3 : Int32)), .val (.int (1 : Int32)), .val (.int (2 : Int32)), .val (.ref b351), .unset, .unset, .unset] [(.int (3 : Int32))])) rfl (hb hby at_137) rfl (by decide) (cap := 3) (by decide) (by decide) (by decide : 1 + 1 ≤ _) (by decide : 3 + 3 ≤ _)
  obtain ⟨b359, g359⟩ : ∃ z, z = h357.size := ⟨_, rfl⟩
  rw [← g359] at A359 st359
  have g_b359 : n0 ≤ b359 := Nat.le_trans Z358 (Nat.le_of_eq g359.symm)
  have sz_b359 : h0.size ≤ b359 := Nat.le_trans Z358h (Nat.le_of_eq g359.symm)
  have lt_b351_b359 : b351 < b359 := Nat.lt_of_lt_of_le V357.lt (Nat.le_of_eq g359.symm)
  have ne_b351_b359 : b351 ≠ b359 := Nat.ne_of_lt lt_b351_b359
  have V_b359 : Arv Z h359 b359 k359 .int (3 : Int32) [(.int (0 : Int32)), (.int (0 : Int32)), (.int (0 : Int32))] (.int (0 : Int32)) := (Arv.new A359 (by decide)).pad (pad_rep [] (.int (0 : Int32)) 3)
  have Z360 : n0 ≤ h359.size := Nat.le_trans Z358 E359.1
  have Z360h : h0.size ≤ h359.size := Nat.le_trans Z358h E359.1
  refine own_thr (a := T359.setTop (mkF m 139 #[.val (.int p0), .val (.int p1), .val (.int p2), .val (.int p3), .val (.int p4), .val (.int p5), .val (.int n), .val (.int s0), .val (.int d1), .val (.int tt), .val (.int d2), .val (.int s1), .val (.int s2), .val (.int (3 : Int32)), .val (.int (1 : Int32)), .val (.int (2 : Int32)), .val (.ref b351), .unset, .unset, .unset] [(.ref b359)])) (fun t kt => st359 t kt) ?_
  refine own_thr (a := T359.setTop (mkF m 164 #[.val (.int p0), .val (.int p1), .val (.int p2), .val (.int p3), .val (.int p4), .val (.int p5), .val (.int n), .val (.int s0), .val (.int d1), .val (.int tt), .val (.int d2), .val (.int s1), .val (.int s2), .val (.int (3 : Int32)), .val (.int (1 : Int32)), .val (.int (2 : Int32)), .val (.ref b351), .val (.ref b359), .unset, .unset] [(.int (0 : Int32)), (.ref b351), (.int (0 : Int32)), (.ref b359)])) (fun t kt => ?_) ?_
  · show Steps p.tables e below (T359.setTop (mkF m 139 #[.val (.int p0), .val (.int p1), .val (.int p2), .val (.int p3), .val (.int p4), .val (.int p5), .val (.int n), .val (.int s0), .val (.int d1), .val (.int tt), .val (.int d2), .val (.int s1), .val (.int s2), .val (.int (3 : Int32)), .val (.int (1 : Int32)), .val (.int (2 : Int32)), .val (.ref b351), .unset, .unset, .unset] [(.ref b359)])) _
    refine XS.astore X359.here hx rfl (hb hby at_139) rfl rfl (l' := #[.val (.int p0), .val (.int p1), .val (.int p2), .val (.int p3), .val (.int p4), .val (.int p5), .val (.int n), .val (.int s0), .val (.int d1), .val (.int tt), .val (.int d2), .val (.int s1), .val (.int s2), .val (.int (3 : Int32)), .val (.int (1 : Int32)), .val (.int (2 : Int32)), .val (.ref b351), .val (.ref b359), .unset, .unset]) rfl ?_
    refine XS.iload X359.here hx rfl (hb hby at_141) rfl ?_
    refine XS.ifNo X359.here hx rfl (hb hby at_143) rfl ((if0 _ _).trans (feq (by decide)).1) ?_
    refine XS.iload X359.here hx rfl (hb hby at_146) rfl ?_
    refine XS.iconst X359.here hx rfl (hb hby at_148) ?_
    refine XS.icmpNo X359.here hx rfl (hb hby at_149) rfl (tlt (by decide)).2.2.2 ?_
    refine XS.aload X359.here hx rfl (hb hby at_152) rfl rfl ?_
    refine XS.iconst X359.here hx rfl (hb hby at_154) ?_
    refine XS.iconst X359.here hx rfl (hb hby at_155) ?_
    refine XS.iload X359.here hx rfl (hb hby at_156) rfl ?_
    refine XS.icmpNo X359.here hx rfl (hb hby at_158) rfl (tlt (by decide)).2.1 ?_
    refine XS.aload X359.here hx rfl (hb hby at_161) rfl rfl ?_
    refine XS.iconst X359.here hx rfl (hb hby at_163) ?_
    exact kt
  obtain ⟨cl361, Ar361, -, S361, M361, H361, -⟩ := id (V357.ext E359)
  have hin361 : ¬ ((0 : Int32) < 0 ∨ cl361.slots.size ≤ ((0 : Int32)).toNatClampNeg) := inb_of S361 ⟨by decide, by decide⟩
  have hat361 : cl361.slots[((0 : Int32)).toNatClampNeg]? = some (.int s0) := Has.at H361 hin361 rfl
  refine own_thr (a := T359.setTop (mkF m 172 #[.val (.int p0), .val (.int p1), .val (.int p2), .val (.int p3), .val (.int p4), .val (.int p5), .val (.int n), .val (.int s0), .val (.int d1), .val (.int tt), .val (.int d2), .val (.int s1), .val (.int s2), .val (.int (3 : Int32)), .val (.int (1 : Int32)), .val (.int (2 : Int32)), .val (.ref b351), .val (.ref b359), .unset, .unset] [(.int s0), (.int (0 : Int32)), (.ref b359)])) (fun t kt => ?_) ?_
  · show Steps p.tables e below (T359.setTop (mkF m 164 #[.val (.int p0), .val (.int p1), .val (.int p2), .val (.int p3), .val (.int p4), .val (.int p5), .val (.int n), .val (.int s0), .val (.int d1), .val (.int tt), .val (.int d2), .val (.int s1), .val (.int s2), .val (.int (3 : Int32)), .val (.int (1 : Int32)), .val (.int (2 : Int32)), .val (.ref b351), .val (.ref b359), .unset, .unset] [(.int (0 : Int32)), (.ref b351), (.int (0 : Int32)), (.ref b359)])) _
    refine X359.iaload hx (j := (0 : Int32)) (v := (.int s0)) (by rw [e359]; exact Ar361.1) (State.isArrayOf_alike hZ.alike Ar361.2.1) Ar361.2.2 hin361 hat361 (g := (mkF m 164 #[.val (.int p0), .val (.int p1), .val (.int p2), .val (.int p3), .val (.int p4), .val (.int p5), .val (.int n), .val (.int s0), .val (.int d1), .val (.int tt), .val (.int d2), .val (.int s1), .val (.int s2), .val (.int (3 : Int32)), .val (.int (1 : Int32)), .val (.int (2 : Int32)), .val (.ref b351), .val (.ref b359), .unset, .unset] [(.int (0 : Int32)), (.ref b351), (.int (0 : Int32)), (.ref b359)])) rfl rfl (hb hby at_164) _ ?_
    refine XS.goto X359.here hx rfl (pc0 := 165) (pc' := 172) rfl (hb hby at_165) (by decide) (by decide) ?_
    exact kt
  obtain ⟨cl362, Ar362, q362, S362, M362, H362, G362⟩ := id V_b359
  have hin362 : ¬ ((0 : Int32) < 0 ∨ cl362.slots.size ≤ ((0 : Int32)).toNatClampNeg) := inb_of S362 ⟨by decide, by decide⟩
  obtain ⟨T362, h362, X362, e362, W362, st362⟩ := stI X359 hx hZ e359 Ar362 (j := (0 : Int32)) hin362 (g := (mkF m 172 #[.val (.int p0), .val (.int p1), .val (.int p2), .val (.int p3), .val (.int p4), .val (.int p5), .val (.int n), .val (.int s0), .val (.int d1), .val (.int tt), .val (.int d2), .val (.int s1), .val (.int s2), .val (.int (3 : Int32)), .val (.int (1 : Int32)), .val (.int (2 : Int32)), .val (.ref b351), .val (.ref b359), .unset, .unset] [(.int s0), (.int (0 : Int32)), (.ref b359)])) rfl rfl (hb hby at_172)
  have Z363 : n0 ≤ h362.size := Nat.le_trans Z360 (Nat.le_of_eq W362.size.symm)
  have Z363h : h0.size ≤ h362.size := Nat.le_trans Z360h (Nat.le_of_eq W362.size.symm)
  have V362 : Arv Z h362 b359 k359 .int (3 : Int32) [(.int s0), (.int (0 : Int32)), (.int (0 : Int32))] (.int (0 : Int32)) := Arv.set Ar362 q362 S362 M362 H362 G362 rfl W362 0 rfl (Nat.le_of_ble_eq_true rfl)
  obtain ⟨lc362, X362, N362⟩ := own_pack1 X362 N357 g_b359
  refine own_thr (a := T362.setTop (mkF m 173 #[.val (.int p0), .val (.int p1), .val (.int p2), .val (.int p3), .val (.int p4), .val (.int p5), .val (.int n), .val (.int s0), .val (.int d1), .val (.int tt), .val (.int d2), .val (.int s1), .val (.int s2), .val (.int (3 : Int32)), .val (.int (1 : Int32)), .val (.int (2 : Int32)), .val (.ref b351), .val (.ref b359), .unset, .unset] [])) (fun t kt => st362 t kt) ?_
  refine own_thr (a := T362.setTop (mkF m 191 #[.val (.int p0), .val (.int p1), .val (.int p2), .val (.int p3), .val (.int p4), .val (.int p5), .val (.int n), .val (.int s0), .val (.int d1), .val (.int tt), .val (.int d2), .val (.int s1), .val (.int s2), .val (.int (3 : Int32)), .val (.int (1 : Int32)), .val (.int (2 : Int32)), .val (.ref b351), .val (.ref b359), .unset, .unset] [(.int (1 : Int32)), (.ref b351), (.int (1 : Int32)), (.ref b359)])) (fun t kt => ?_) ?_
  · show Steps p.tables e below (T362.setTop (mkF m 173 #[.val (.int p0), .val (.int p1), .val (.int p2), .val (.int p3), .val (.int p4), .val (.int p5), .val (.int n), .val (.int s0), .val (.int d1), .val (.int tt), .val (.int d2), .val (.int s1), .val (.int s2), .val (.int (3 : Int32)), .val (.int (1 : Int32)), .val (.int (2 : Int32)), .val (.ref b351), .val (.ref b359), .unset, .unset] [])) _
    refine XS.iload X362.here hx rfl (hb hby at_173) rfl ?_
    refine XS.iconst X362.here hx rfl (hb hby at_175) ?_
    refine XS.icmpNo X362.here hx rfl (hb hby at_176) rfl (tlt (by decide)).2.2.2 ?_
    refine XS.aload X362.here hx rfl (hb hby at_179) rfl rfl ?_
    refine XS.iconst X362.here hx rfl (hb hby at_181) ?_
    refine XS.iconst X362.here hx rfl (hb hby at_182) ?_
    refine XS.iload X362.here hx rfl (hb hby at_183) rfl ?_
    refine XS.icmpNo X362.here hx rfl (hb hby at_185) rfl (tlt (by decide)).2.1 ?_
    refine XS.aload X362.here hx rfl (hb hby at_188) rfl rfl ?_
    refine XS.iconst X362.here hx rfl (hb hby at_190) ?_
    exact kt
  obtain ⟨cl364, Ar364, -, S364, M364, H364, -⟩ := id ((V357.ext E359).other W362 ne_b351_b359)
  have hin364 : ¬ ((1 : Int32) < 0 ∨ cl364.slots.size ≤ ((1 : Int32)).toNatClampNeg) := inb_of S364 ⟨by decide, by decide⟩
  have hat364 : cl364.slots[((1 : Int32)).toNatClampNeg]? = some (.int s1) := Has.at H364 hin364 rfl
  refine own_thr (a := T362.setTop (mkF m 199 #[.val (.int p0), .val (.int p1), .val (.int p2), .val (.int p3), .val (.int p4), .val (.int p5), .val (.int n), .val (.int s0), .val (.int d1), .val (.int tt), .val (.int d2), .val (.int s1), .val (.int s2), .val (.int (3 : Int32)), .val (.int (1 : Int32)), .val (.int (2 : Int32)), .val (.ref b351), .val (.ref b359), .unset, .unset] [(.int s1), (.int (1 : Int32)), (.ref b359)])) (fun t kt => ?_) ?_
  · show Steps p.tables e below (T362.setTop (mkF m 191 #[.val (.int p0), .val (.int p1), .val (.int p2), .val (.int p3), .val (.int p4), .val (.int p5), .val (.int n), .val (.int s0), .val (.int d1), .val (.int tt), .val (.int d2), .val (.int s1), .val (.int s2), .val (.int (3 : Int32)), .val (.int (1 : Int32)), .val (.int (2 : Int32)), .val (.ref b351), .val (.ref b359), .unset, .unset] [(.int (1 : Int32)), (.ref b351), (.int (1 : Int32)), (.ref b359)])) _
    refine X362.iaload hx (j := (1 : Int32)) (v := (.int s1)) (by rw [e362]; exact Ar364.1) (State.isArrayOf_alike hZ.alike Ar364.2.1) Ar364.2.2 hin364 hat364 (g := (mkF m 191 #[.val (.int p0), .val (.int p1), .val (.int p2), .val (.int p3), .val (.int p4), .val (.int p5), .val (.int n), .val (.int s0), .val (.int d1), .val (.int tt), .val (.int d2), .val (.int s1), .val (.int s2), .val (.int (3 : Int32)), .val (.int (1 : Int32)), .val (.int (2 : Int32)), .val (.ref b351), .val (.ref b359), .unset, .unset] [(.int (1 : Int32)), (.ref b351), (.int (1 : Int32)), (.ref b359)])) rfl rfl (hb hby at_191) _ ?_
    refine XS.goto X362.here hx rfl (pc0 := 192) (pc' := 199) rfl (hb hby at_192) (by decide) (by decide) ?_
    exact kt
  obtain ⟨cl365, Ar365, q365, S365, M365, H365, G365⟩ := id V362
  have hin365 : ¬ ((1 : Int32) < 0 ∨ cl365.slots.size ≤ ((1 : Int32)).toNatClampNeg) := inb_of S365 ⟨by decide, by decide⟩
  obtain ⟨T365, h365, X365, e365, W365, st365⟩ := stI X362 hx hZ e362 Ar365 (j := (1 : Int32)) hin365 (g := (mkF m 199 #[.val (.int p0), .val (.int p1), .val (.int p2), .val (.int p3), .val (.int p4), .val (.int p5), .val (.int n), .val (.int s0), .val (.int d1), .val (.int tt), .val (.int d2), .val (.int s1), .val (.int s2), .val (.int (3 : Int32)), .val (.int (1 : Int32)), .val (.int (2 : Int32)), .val (.ref b351), .val (.ref b359), .unset, .unset] [(.int s1), (.int (1 : Int32)), (.ref b359)])) rfl rfl (hb hby at_199)
  have Z366 : n0 ≤ h365.size := Nat.le_trans Z363 (Nat.le_of_eq W365.size.symm)
  have Z366h : h0.size ≤ h365.size := Nat.le_trans Z363h (Nat.le_of_eq W365.size.symm)
  have V365 : Arv Z h365 b359 k359 .int (3 : Int32) [(.int s0), (.int s1), (.int (0 : Int32))] (.int (0 : Int32)) := Arv.set Ar365 q365 S365 M365 H365 G365 rfl W365 1 rfl (Nat.le_of_ble_eq_true rfl)
  obtain ⟨lc365, X365, N365⟩ := own_pack1 X365 N362 g_b359
  refine own_thr (a := T365.setTop (mkF m 200 #[.val (.int p0), .val (.int p1), .val (.int p2), .val (.int p3), .val (.int p4), .val (.int p5), .val (.int n), .val (.int s0), .val (.int d1), .val (.int tt), .val (.int d2), .val (.int s1), .val (.int s2), .val (.int (3 : Int32)), .val (.int (1 : Int32)), .val (.int (2 : Int32)), .val (.ref b351), .val (.ref b359), .unset, .unset] [])) (fun t kt => st365 t kt) ?_
  refine own_thr (a := T365.setTop (mkF m 210 #[.val (.int p0), .val (.int p1), .val (.int p2), .val (.int p3), .val (.int p4), .val (.int p5), .val (.int n), .val (.int s0), .val (.int d1), .val (.int tt), .val (.int d2), .val (.int s1), .val (.int s2), .val (.int (3 : Int32)), .val (.int (1 : Int32)), .val (.int (2 : Int32)), .val (.ref b351), .val (.ref b359), .unset, .unset] [(.int (2 : Int32)), (.ref b351), (.int (2 : Int32)), (.ref b359)])) (fun t kt => ?_) ?_
  · show Steps p.tables e below (T365.setTop (mkF m 200 #[.val (.int p0), .val (.int p1), .val (.int p2), .val (.int p3), .val (.int p4), .val (.int p5), .val (.int n), .val (.int s0), .val (.int d1), .val (.int tt), .val (.int d2), .val (.int s1), .val (.int s2), .val (.int (3 : Int32)), .val (.int (1 : Int32)), .val (.int (2 : Int32)), .val (.ref b351), .val (.ref b359), .unset, .unset] [])) _
    refine XS.aload X365.here hx rfl (hb hby at_200) rfl rfl ?_
    refine XS.iload X365.here hx rfl (hb hby at_202) rfl ?_
    refine XS.iconst X365.here hx rfl (hb hby at_204) ?_
    refine XS.isub X365.here hx rfl (hb hby at_205) rfl ?_
    refine XS.aload X365.here hx rfl (hb hby at_206) rfl rfl ?_
    refine XS.iload X365.here hx rfl (hb hby at_208) rfl ?_
    exact kt
  have c368 := (((V357.ext E359).other W362 ne_b351_b359).other W365 ne_b351_b359)
  obtain ⟨cl367, Ar367, -, S367, M367, H367, -⟩ := id c368
  have hin367 : ¬ ((2 : Int32) < 0 ∨ cl367.slots.size ≤ ((2 : Int32)).toNatClampNeg) := inb_of S367 ⟨by decide, by decide⟩
  have hat367 : cl367.slots[((2 : Int32)).toNatClampNeg]? = some (.int s2) := Has.at H367 hin367 rfl
  refine own_thr (a := T365.setTop (mkF m 211 #[.val (.int p0), .val (.int p1), .val (.int p2), .val (.int p3), .val (.int p4), .val (.int p5), .val (.int n), .val (.int s0), .val (.int d1), .val (.int tt), .val (.int d2), .val (.int s1), .val (.int s2), .val (.int (3 : Int32)), .val (.int (1 : Int32)), .val (.int (2 : Int32)), .val (.ref b351), .val (.ref b359), .unset, .unset] [(.int s2), (.int (2 : Int32)), (.ref b359)])) (fun t kt => ?_) ?_
  · show Steps p.tables e below (T365.setTop (mkF m 210 #[.val (.int p0), .val (.int p1), .val (.int p2), .val (.int p3), .val (.int p4), .val (.int p5), .val (.int n), .val (.int s0), .val (.int d1), .val (.int tt), .val (.int d2), .val (.int s1), .val (.int s2), .val (.int (3 : Int32)), .val (.int (1 : Int32)), .val (.int (2 : Int32)), .val (.ref b351), .val (.ref b359), .unset, .unset] [(.int (2 : Int32)), (.ref b351), (.int (2 : Int32)), (.ref b359)])) _
    refine X365.iaload hx (j := (2 : Int32)) (v := (.int s2)) (by rw [e365]; exact Ar367.1) (State.isArrayOf_alike hZ.alike Ar367.2.1) Ar367.2.2 hin367 hat367 (g := (mkF m 210 #[.val (.int p0), .val (.int p1), .val (.int p2), .val (.int p3), .val (.int p4), .val (.int p5), .val (.int n), .val (.int s0), .val (.int d1), .val (.int tt), .val (.int d2), .val (.int s1), .val (.int s2), .val (.int (3 : Int32)), .val (.int (1 : Int32)), .val (.int (2 : Int32)), .val (.ref b351), .val (.ref b359), .unset, .unset] [(.int (2 : Int32)), (.ref b351), (.int (2 : Int32)), (.ref b359)])) rfl rfl (hb hby at_210) _ ?_
    exact kt
  obtain ⟨cl369, Ar369, q369, S369, M369, H369, G369⟩ := id V365
  have hin369 : ¬ ((2 : Int32) < 0 ∨ cl369.slots.size ≤ ((2 : Int32)).toNatClampNeg) := inb_of S369 ⟨by decide, by decide⟩
  obtain ⟨T369, h369, X369, e369, W369, st369⟩ := stI X365 hx hZ e365 Ar369 (j := (2 : Int32)) hin369 (g := (mkF m 211 #[.val (.int p0), .val (.int p1), .val (.int p2), .val (.int p3), .val (.int p4), .val (.int p5), .val (.int n), .val (.int s0), .val (.int d1), .val (.int tt), .val (.int d2), .val (.int s1), .val (.int s2), .val (.int (3 : Int32)), .val (.int (1 : Int32)), .val (.int (2 : Int32)), .val (.ref b351), .val (.ref b359), .unset, .unset] [(.int s2), (.int (2 : Int32)), (.ref b359)])) rfl rfl (hb hby at_211)
  have Z370 : n0 ≤ h369.size := Nat.le_trans Z366 (Nat.le_of_eq W369.size.symm)
  have Z370h : h0.size ≤ h369.size := Nat.le_trans Z366h (Nat.le_of_eq W369.size.symm)
  have V369 : Arv Z h369 b359 k359 .int (3 : Int32) [(.int s0), (.int s1), (.int s2)] (.int (0 : Int32)) := Arv.set Ar369 q369 S369 M369 H369 G369 rfl W369 2 rfl (Nat.le_of_ble_eq_true rfl)
  obtain ⟨lc369, X369, N369⟩ := own_pack1 X369 N365 g_b359
  refine own_thr (a := T369.setTop (mkF m 212 #[.val (.int p0), .val (.int p1), .val (.int p2), .val (.int p3), .val (.int p4), .val (.int p5), .val (.int n), .val (.int s0), .val (.int d1), .val (.int tt), .val (.int d2), .val (.int s1), .val (.int s2), .val (.int (3 : Int32)), .val (.int (1 : Int32)), .val (.int (2 : Int32)), .val (.ref b351), .val (.ref b359), .unset, .unset] [])) (fun t kt => st369 t kt) ?_
  refine own_thr (a := T369.setTop (mkF m 239 #[.val (.int p0), .val (.int p1), .val (.int p2), .val (.int p3), .val (.int p4), .val (.int p5), .val (.int n), .val (.int s0), .val (.int d1), .val (.int tt), .val (.int d2), .val (.int s1), .val (.int s2), .val (.int (3 : Int32)), .val (.int (1 : Int32)), .val (.int (2 : Int32)), .val (.ref b351), .val (.ref b359), .unset, .unset] [])) (fun t kt => ?_) ?_
  · show Steps p.tables e below (T369.setTop (mkF m 212 #[.val (.int p0), .val (.int p1), .val (.int p2), .val (.int p3), .val (.int p4), .val (.int p5), .val (.int n), .val (.int s0), .val (.int d1), .val (.int tt), .val (.int d2), .val (.int s1), .val (.int s2), .val (.int (3 : Int32)), .val (.int (1 : Int32)), .val (.int (2 : Int32)), .val (.ref b351), .val (.ref b359), .unset, .unset] [])) _
    refine XS.goto X369.here hx rfl (pc0 := 212) (pc' := 239) rfl (hb hby at_212) (by decide) (by decide) ?_
    exact kt
  obtain ⟨T371, h371, X371, e371, E371, A371, D371, U371, st371⟩ := newO X369 hx hZ hown (hw _ (List.mem_of_getElem? (i := 3) rfl)) (hw _ (List.mem_of_getElem? (i := 4) rfl)) (hw _ (List.mem_of_getElem? (i := 5) rfl)) e369 (g := (mkF m 239 #[.val (.int p0), .val (.int p1), .val (.int p2), .val (.int p3), .val (.int p4), .val (.int p5), .val (.int n), .val (.int s0), .val (.int d1), .val (.int tt), .val (.int d2), .val (.int s1), .val (.int s2), .val (.int (3 : Int32)), .val (.int (1 : Int32)), .val (.int (2 : Int32)), .val (.ref b351), .val (.ref b359), .unset, .unset] [])) rfl (hb hby at_239) (by decide : 2 + 1 ≤ _) (by decide : 6 + 4 ≤ _)
  obtain ⟨b371, g371⟩ : ∃ z, z = h369.size := ⟨_, rfl⟩
  rw [← g371] at A371 D371 st371 U371
  have g_b371 : n0 ≤ b371 := Nat.le_trans Z370 (Nat.le_of_eq g371.symm)
  have sz_b371 : h0.size ≤ b371 := Nat.le_trans Z370h (Nat.le_of_eq g371.symm)
  have lt_b351_b371 : b351 < b371 := Nat.lt_of_lt_of_le (c368.other W369 ne_b351_b359).lt (Nat.le_of_eq g371.symm)
  have ne_b351_b371 : b351 ≠ b371 := Nat.ne_of_lt lt_b351_b371
  have lt_b359_b371 : b359 < b371 := Nat.lt_of_lt_of_le V369.lt (Nat.le_of_eq g371.symm)
  have ne_b359_b371 : b359 ≠ b371 := Nat.ne_of_lt lt_b359_b371
  have Z372 : n0 ≤ h371.size := Nat.le_trans Z370 E371.1
  have Z372h : h0.size ≤ h371.size := Nat.le_trans Z370h E371.1
  have F_first_b371 : Fld Z h371 b371 "dev/chainlatch/bucket/Order" "first" "I" (.int (0 : Int32)) := D371 (Or.inl (hw _ (List.mem_of_getElem? (i := 13) rfl))) (ty := .int) (by decide)
  have F_last_b371 : Fld Z h371 b371 "dev/chainlatch/bucket/Order" "last" "I" (.int (0 : Int32)) := D371 (Or.inl (hw _ (List.mem_of_getElem? (i := 15) rfl))) (ty := .int) (by decide)
  have F_before_b371 : Fld Z h371 b371 "dev/chainlatch/bucket/Order" "before" "[I" .null := D371 (Or.inl (hw _ (List.mem_of_getElem? (i := 17) rfl))) (ty := (.array .int)) (by decide)
  have F_after_b371 : Fld Z h371 b371 "dev/chainlatch/bucket/Order" "after" "[I" .null := D371 (Or.inl (hw _ (List.mem_of_getElem? (i := 19) rfl))) (ty := (.array .int)) (by decide)
  refine own_thr (a := T371.setTop (mkF m 242 #[.val (.int p0), .val (.int p1), .val (.int p2), .val (.int p3), .val (.int p4), .val (.int p5), .val (.int n), .val (.int s0), .val (.int d1), .val (.int tt), .val (.int d2), .val (.int s1), .val (.int s2), .val (.int (3 : Int32)), .val (.int (1 : Int32)), .val (.int (2 : Int32)), .val (.ref b351), .val (.ref b359), .unset, .unset] [(.ref b371)])) (fun t kt => st371 t kt) ?_
  refine own_thr (a := T371.setTop (mkF m 245 #[.val (.int p0), .val (.int p1), .val (.int p2), .val (.int p3), .val (.int p4), .val (.int p5), .val (.int n), .val (.int s0), .val (.int d1), .val (.int tt), .val (.int d2), .val (.int s1), .val (.int s2), .val (.int (3 : Int32)), .val (.int (1 : Int32)), .val (.int (2 : Int32)), .val (.ref b351), .val (.ref b359), .unset, .unset] [(.int n), (.ref b371), (.ref b371)])) (fun t kt => ?_) ?_
  · show Steps p.tables e below (T371.setTop (mkF m 242 #[.val (.int p0), .val (.int p1), .val (.int p2), .val (.int p3), .val (.int p4), .val (.int p5), .val (.int n), .val (.int s0), .val (.int d1), .val (.int tt), .val (.int d2), .val (.int s1), .val (.int s2), .val (.int (3 : Int32)), .val (.int (1 : Int32)), .val (.int (2 : Int32)), .val (.ref b351), .val (.ref b359), .unset, .unset] [(.ref b371)])) _
    refine XS.dup X371.here hx rfl (hb hby at_242) rfl rfl ?_
    refine XS.iload X371.here hx rfl (hb hby at_243) rfl ?_
    exact kt
  obtain ⟨_, _, ⟨T373, L373, k373, n373⟩, -, X373, ⟨Lc373, hQ373, l373, y373, z373⟩, st373⟩ := X371.specialBack hx (y := (⟨"dev/chainlatch/bucket/Order", "<init>", "(I)V"⟩ : MethodName)) rfl hown (mvT hZ (hw _ (List.mem_of_getElem? (i := 6) rfl))) (mvT hZ (hw _ (List.mem_of_getElem? (i := 7) rfl))) (mvT hZ (hw _ (List.mem_of_getElem? (i := 8) rfl))) (by decide) (backOf (W := 1) (rmI l Z a0 hw [] b371 n h371 n0 Z372 A371 F_first_b371 F_last_b371 F_before_b371 F_after_b371 g_b371 hn0 hn1) hZ (hw _ (List.mem_of_getElem? (i := 8) rfl)) (hw _ (List.mem_of_getElem? (i := 5) rfl)) (by decide) (by decide)) (g := (mkF m 245 #[.val (.int p0), .val (.int p1), .val (.int p2), .val (.int p3), .val (.int p4), .val (.int p5), .val (.int n), .val (.int s0), .val (.int d1), .val (.int tt), .val (.int d2), .val (.int s1), .val (.int s2), .val (.int (3 : Int32)), .val (.int (1 : Int32)), .val (.int (2 : Int32)), .val (.ref b351), .val (.ref b359), .unset, .unset] [(.int n), (.ref b371), (.ref b371)])) rfl (by rw [hml]; rfl) (Steps.refl _) (a := b371) (argsL := [(.int n)]) (rest := [(.ref b371)]) (lenOf pd__28I_29V rfl) rfl (by show 2 * 0 + _ ≤ _; exact Nat.le_of_eq rfl) (hb hby at_245) (fun _ _ => ⟨rfl, e371, (by decide : 3 + 2 ≤ _), (by decide : 10 + 20 ≤ _)⟩)
  dsimp only [Pt.U, Pt.locs, Pt.cells, Pt.slots] at X373 l373 y373 z373 st373 hQ373
  obtain ⟨B373, A373, rfl, N373q, K373, o373_e, o373_f, o373_l, o373_b, o373_a, o373_B, o373_A, hB373, hBA373⟩ := hQ373
  have ne_b351_B373 : b351 ≠ B373 := Nat.ne_of_lt (Nat.lt_of_lt_of_le ((c368.other W369 ne_b351_b359).ext E371).lt hB373)
  have ne_b351_A373 : b351 ≠ A373 := Nat.ne_of_lt (Nat.lt_trans (Nat.lt_of_lt_of_le ((c368.other W369 ne_b351_b359).ext E371).lt hB373) hBA373)
  have ne_b359_B373 : b359 ≠ B373 := Nat.ne_of_lt (Nat.lt_of_lt_of_le (V369.ext E371).lt hB373)
  have ne_b359_A373 : b359 ≠ A373 := Nat.ne_of_lt (Nat.lt_trans (Nat.lt_of_lt_of_le (V369.ext E371).lt hB373) hBA373)
  have ne_b371_B373 : b371 ≠ B373 := Nat.ne_of_lt (Nat.lt_of_lt_of_le A371.lt hB373)
  have ne_b371_A373 : b371 ≠ A373 := Nat.ne_of_lt (Nat.lt_trans (Nat.lt_of_lt_of_le A371.lt hB373) hBA373)
  have ne_B373_A373 : B373 ≠ A373 := Nat.ne_of_lt hBA373
  have g_B373 : n0 ≤ B373 := Nat.le_trans Z372 hB373
  have g_A373 : n0 ≤ A373 := Nat.le_trans g_B373 (Nat.le_of_lt hBA373)
  have Z374 : n0 ≤ T373.heap.size := Nat.le_trans Z372 K373.1
  have Z374h : h0.size ≤ T373.heap.size := Nat.le_trans Z372h K373.1
  obtain ⟨lc373, X373, N373⟩ := own_pack X373 l373 y373 z373 N369 N373q (C := 5) (S' := 30) rfl rfl
  refine own_thr (a := T373.setTop (mkF m 248 #[.val (.int p0), .val (.int p1), .val (.int p2), .val (.int p3), .val (.int p4), .val (.int p5), .val (.int n), .val (.int s0), .val (.int d1), .val (.int tt), .val (.int d2), .val (.int s1), .val (.int s2), .val (.int (3 : Int32)), .val (.int (1 : Int32)), .val (.int (2 : Int32)), .val (.ref b351), .val (.ref b359), .unset, .unset] [(.ref b371)])) (fun t kt => st373.trans kt) ?_
  refine own_thr (a := T373.setTop (mkF m 255 #[.val (.int p0), .val (.int p1), .val (.int p2), .val (.int p3), .val (.int p4), .val (.int p5), .val (.int n), .val (.int s0), .val (.int d1), .val (.int tt), .val (.int d2), .val (.int s1), .val (.int s2), .val (.int (3 : Int32)), .val (.int (1 : Int32)), .val (.int (2 : Int32)), .val (.ref b351), .val (.ref b359), .val (.ref b371), .unset] [(.int (0 : Int32)), (.ref b351), (.ref b371)])) (fun t kt => ?_) ?_
  · show Steps p.tables e below (T373.setTop (mkF m 248 #[.val (.int p0), .val (.int p1), .val (.int p2), .val (.int p3), .val (.int p4), .val (.int p5), .val (.int n), .val (.int s0), .val (.int d1), .val (.int tt), .val (.int d2), .val (.int s1), .val (.int s2), .val (.int (3 : Int32)), .val (.int (1 : Int32)), .val (.int (2 : Int32)), .val (.ref b351), .val (.ref b359), .unset, .unset] [(.ref b371)])) _
    refine XS.astore X373.here hx rfl (hb hby at_248) rfl rfl (l' := #[.val (.int p0), .val (.int p1), .val (.int p2), .val (.int p3), .val (.int p4), .val (.int p5), .val (.int n), .val (.int s0), .val (.int d1), .val (.int tt), .val (.int d2), .val (.int s1), .val (.int s2), .val (.int (3 : Int32)), .val (.int (1 : Int32)), .val (.int (2 : Int32)), .val (.ref b351), .val (.ref b359), .val (.ref b371), .unset]) rfl ?_
    refine XS.aload X373.here hx rfl (hb hby at_250) rfl rfl ?_
    refine XS.aload X373.here hx rfl (hb hby at_252) rfl rfl ?_
    refine XS.iconst X373.here hx rfl (hb hby at_254) ?_
    exact kt
  have c376 := (((c368.other W369 ne_b351_b359).ext E371).keep K373 (ninS ne_b351_b371 nin0))
  obtain ⟨cl375, Ar375, -, S375, M375, H375, -⟩ := id c376
  have hin375 : ¬ ((0 : Int32) < 0 ∨ cl375.slots.size ≤ ((0 : Int32)).toNatClampNeg) := inb_of S375 ⟨by decide, by decide⟩
  have hat375 : cl375.slots[((0 : Int32)).toNatClampNeg]? = some (.int s0) := Has.at H375 hin375 rfl
  refine own_thr (a := T373.setTop (mkF m 256 #[.val (.int p0), .val (.int p1), .val (.int p2), .val (.int p3), .val (.int p4), .val (.int p5), .val (.int n), .val (.int s0), .val (.int d1), .val (.int tt), .val (.int d2), .val (.int s1), .val (.int s2), .val (.int (3 : Int32)), .val (.int (1 : Int32)), .val (.int (2 : Int32)), .val (.ref b351), .val (.ref b359), .val (.ref b371), .unset] [(.int s0), (.ref b371)])) (fun t kt => ?_) ?_
  · show Steps p.tables e below (T373.setTop (mkF m 255 #[.val (.int p0), .val (.int p1), .val (.int p2), .val (.int p3), .val (.int p4), .val (.int p5), .val (.int n), .val (.int s0), .val (.int d1), .val (.int tt), .val (.int d2), .val (.int s1), .val (.int s2), .val (.int (3 : Int32)), .val (.int (1 : Int32)), .val (.int (2 : Int32)), .val (.ref b351), .val (.ref b359), .val (.ref b371), .unset] [(.int (0 : Int32)), (.ref b351), (.ref b371)])) _
    refine X373.iaload hx (j := (0 : Int32)) (v := (.int s0)) Ar375.1 (State.isArrayOf_alike hZ.alike Ar375.2.1) Ar375.2.2 hin375 hat375 (g := (mkF m 255 #[.val (.int p0), .val (.int p1), .val (.int p2), .val (.int p3), .val (.int p4), .val (.int p5), .val (.int n), .val (.int s0), .val (.int d1), .val (.int tt), .val (.int d2), .val (.int s1), .val (.int s2), .val (.int (3 : Int32)), .val (.int (1 : Int32)), .val (.int (2 : Int32)), .val (.ref b351), .val (.ref b359), .val (.ref b371), .unset] [(.int (0 : Int32)), (.ref b351), (.ref b371)])) rfl rfl (hb hby at_255) _ ?_
    exact kt
  obtain ⟨cq377, kq377, q377a, q377b, q377c⟩ := isOf hZ rfl o373_e
  obtain ⟨_, _, ⟨T377, L377, k377, n377⟩, -, X377, ⟨Lc377, hQ377, l377, y377, z377⟩, st377⟩ := X373.virtualBack hx (y := (⟨"dev/chainlatch/bucket/Order", "append", "(I)V"⟩ : MethodName)) (z := (⟨"dev/chainlatch/bucket/Order", "append", "(I)V"⟩ : MethodName)) hown (mvT hZ (hw _ (List.mem_of_getElem? (i := 20) rfl))) (mvT hZ (hw _ (List.mem_of_getElem? (i := 21) rfl))) (notFace_of_selects (args := #[]) (mvT hZ (hw _ (List.mem_of_getElem? (i := 23) rfl)))) (mvT hZ (hw _ (List.mem_of_getElem? (i := 23) rfl))) (mvT hZ (hw _ (List.mem_of_getElem? (i := 22) rfl))) (by decide) (backOf (W := 0) (rmA1 l Z a0 hw [] b371 s0 B373 A373 n (-1 : Int32) (-1 : Int32) (fun _ => 0) (fun _ => 0) T373.heap n0 Z374 o373_e o373_f o373_l o373_b o373_a o373_B o373_A g_b371 g_B373 g_A373 ne_b371_B373 ne_b371_A373 ne_B373_A373 hs00 hs01 rfl) hZ (hw _ (List.mem_of_getElem? (i := 24) rfl)) (hw _ (List.mem_of_getElem? (i := 5) rfl)) (by decide) (by decide)) q377a q377c (g := (mkF m 256 #[.val (.int p0), .val (.int p1), .val (.int p2), .val (.int p3), .val (.int p4), .val (.int p5), .val (.int n), .val (.int s0), .val (.int d1), .val (.int tt), .val (.int d2), .val (.int s1), .val (.int s2), .val (.int (3 : Int32)), .val (.int (1 : Int32)), .val (.int (2 : Int32)), .val (.ref b351), .val (.ref b359), .val (.ref b371), .unset] [(.int s0), (.ref b371)])) rfl (by rw [hml]; rfl) (Steps.refl _) (argsL := [(.int s0)]) (rest := []) (lenOf pd__28I_29V rfl) rfl (by show 2 * 0 + _ ≤ _; exact Nat.le_of_eq rfl) (hb hby at_256) (fun _ _ => ⟨rfl, rfl, (by decide : 5 + 0 ≤ _), (by decide : 30 + 0 ≤ _)⟩)
  dsimp only [Pt.U, Pt.locs, Pt.cells, Pt.slots] at X377 l377 y377 z377 st377 hQ377
  obtain ⟨rfl, N377q, K377, o377_0, o377_1, o377_2, o377_3, o377_4, o377_5, o377_6⟩ := hQ377
  have Z378 : n0 ≤ T377.heap.size := Nat.le_trans Z374 K377.1
  have Z378h : h0.size ≤ T377.heap.size := Nat.le_trans Z374h K377.1
  obtain ⟨lc377, X377, N377⟩ := own_pack X377 l377 y377 z377 N373 N377q (C := 5) (S' := 30) rfl rfl
  refine own_thr (a := T377.setTop (mkF m 259 #[.val (.int p0), .val (.int p1), .val (.int p2), .val (.int p3), .val (.int p4), .val (.int p5), .val (.int n), .val (.int s0), .val (.int d1), .val (.int tt), .val (.int d2), .val (.int s1), .val (.int s2), .val (.int (3 : Int32)), .val (.int (1 : Int32)), .val (.int (2 : Int32)), .val (.ref b351), .val (.ref b359), .val (.ref b371), .unset] [])) (fun t kt => st377.trans kt) ?_
  refine own_thr (a := T377.setTop (mkF m 270 #[.val (.int p0), .val (.int p1), .val (.int p2), .val (.int p3), .val (.int p4), .val (.int p5), .val (.int n), .val (.int s0), .val (.int d1), .val (.int tt), .val (.int d2), .val (.int s1), .val (.int s2), .val (.int (3 : Int32)), .val (.int (1 : Int32)), .val (.int (2 : Int32)), .val (.ref b351), .val (.ref b359), .val (.ref b371), .unset] [(.int (1 : Int32)), (.ref b351), (.ref b371)])) (fun t kt => ?_) ?_
  · show Steps p.tables e below (T377.setTop (mkF m 259 #[.val (.int p0), .val (.int p1), .val (.int p2), .val (.int p3), .val (.int p4), .val (.int p5), .val (.int n), .val (.int s0), .val (.int d1), .val (.int tt), .val (.int d2), .val (.int s1), .val (.int s2), .val (.int (3 : Int32)), .val (.int (1 : Int32)), .val (.int (2 : Int32)), .val (.ref b351), .val (.ref b359), .val (.ref b371), .unset] [])) _
    refine XS.iload X377.here hx rfl (hb hby at_259) rfl ?_
    refine XS.iconst X377.here hx rfl (hb hby at_261) ?_
    refine XS.icmpNo X377.here hx rfl (hb hby at_262) rfl (tlt (by decide)).2.2.2 ?_
    refine XS.aload X377.here hx rfl (hb hby at_265) rfl rfl ?_
    refine XS.aload X377.here hx rfl (hb hby at_267) rfl rfl ?_
    refine XS.iconst X377.here hx rfl (hb hby at_269) ?_
    exact kt
  have c380 := (c376.keep K377 (ninS ne_b351_b371 (ninS ne_b351_B373 (ninS ne_b351_A373 nin0))))
  obtain ⟨cl379, Ar379, -, S379, M379, H379, -⟩ := id c380
  have hin379 : ¬ ((1 : Int32) < 0 ∨ cl379.slots.size ≤ ((1 : Int32)).toNatClampNeg) := inb_of S379 ⟨by decide, by decide⟩
  have hat379 : cl379.slots[((1 : Int32)).toNatClampNeg]? = some (.int s1) := Has.at H379 hin379 rfl
  refine own_thr (a := T377.setTop (mkF m 271 #[.val (.int p0), .val (.int p1), .val (.int p2), .val (.int p3), .val (.int p4), .val (.int p5), .val (.int n), .val (.int s0), .val (.int d1), .val (.int tt), .val (.int d2), .val (.int s1), .val (.int s2), .val (.int (3 : Int32)), .val (.int (1 : Int32)), .val (.int (2 : Int32)), .val (.ref b351), .val (.ref b359), .val (.ref b371), .unset] [(.int s1), (.ref b371)])) (fun t kt => ?_) ?_
  · show Steps p.tables e below (T377.setTop (mkF m 270 #[.val (.int p0), .val (.int p1), .val (.int p2), .val (.int p3), .val (.int p4), .val (.int p5), .val (.int n), .val (.int s0), .val (.int d1), .val (.int tt), .val (.int d2), .val (.int s1), .val (.int s2), .val (.int (3 : Int32)), .val (.int (1 : Int32)), .val (.int (2 : Int32)), .val (.ref b351), .val (.ref b359), .val (.ref b371), .unset] [(.int (1 : Int32)), (.ref b351), (.ref b371)])) _
    refine X377.iaload hx (j := (1 : Int32)) (v := (.int s1)) Ar379.1 (State.isArrayOf_alike hZ.alike Ar379.2.1) Ar379.2.2 hin379 hat379 (g := (mkF m 270 #[.val (.int p0), .val (.int p1), .val (.int p2), .val (.int p3), .val (.int p4), .val (.int p5), .val (.int n), .val (.int s0), .val (.int d1), .val (.int tt), .val (.int d2), .val (.int s1), .val (.int s2), .val (.int (3 : Int32)), .val (.int (1 : Int32)), .val (.int (2 : Int32)), .val (.ref b351), .val (.ref b359), .val (.ref b371), .unset] [(.int (1 : Int32)), (.ref b351), (.ref b371)])) rfl rfl (hb hby at_270) _ ?_
    exact kt
  obtain ⟨cq381, kq381, q381a, q381b, q381c⟩ := isOf hZ rfl o377_0
  obtain ⟨_, _, ⟨T381, L381, k381, n381⟩, -, X381, ⟨Lc381, hQ381, l381, y381, z381⟩, st381⟩ := X377.virtualBack hx (y := (⟨"dev/chainlatch/bucket/Order", "append", "(I)V"⟩ : MethodName)) (z := (⟨"dev/chainlatch/bucket/Order", "append", "(I)V"⟩ : MethodName)) hown (mvT hZ (hw _ (List.mem_of_getElem? (i := 20) rfl))) (mvT hZ (hw _ (List.mem_of_getElem? (i := 21) rfl))) (notFace_of_selects (args := #[]) (mvT hZ (hw _ (List.mem_of_getElem? (i := 23) rfl)))) (mvT hZ (hw _ (List.mem_of_getElem? (i := 23) rfl))) (mvT hZ (hw _ (List.mem_of_getElem? (i := 22) rfl))) (by decide) (backOf (W := 0) (rmA2 l Z a0 hw [] b371 s1 B373 A373 n s0 s0 (own_up (fun _ => 0) s0 ((-1 : Int32) + (1 : Int32))) (own_up (fun _ => 0) s0 (0 : Int32)) T377.heap n0 Z378 o377_0 o377_1 o377_2 o377_3 o377_4 o377_5 o377_6 g_b371 g_B373 g_A373 ne_b371_B373 ne_b371_A373 ne_B373_A373 hs10 hs11 hs00 hs01) hZ (hw _ (List.mem_of_getElem? (i := 24) rfl)) (hw _ (List.mem_of_getElem? (i := 5) rfl)) (by decide) (by decide)) q381a q381c (g := (mkF m 271 #[.val (.int p0), .val (.int p1), .val (.int p2), .val (.int p3), .val (.int p4), .val (.int p5), .val (.int n), .val (.int s0), .val (.int d1), .val (.int tt), .val (.int d2), .val (.int s1), .val (.int s2), .val (.int (3 : Int32)), .val (.int (1 : Int32)), .val (.int (2 : Int32)), .val (.ref b351), .val (.ref b359), .val (.ref b371), .unset] [(.int s1), (.ref b371)])) rfl (by rw [hml]; rfl) (Steps.refl _) (argsL := [(.int s1)]) (rest := []) (lenOf pd__28I_29V rfl) rfl (by show 2 * 0 + _ ≤ _; exact Nat.le_of_eq rfl) (hb hby at_271) (fun _ _ => ⟨rfl, rfl, (by decide : 5 + 0 ≤ _), (by decide : 30 + 0 ≤ _)⟩)
  dsimp only [Pt.U, Pt.locs, Pt.cells, Pt.slots] at X381 l381 y381 z381 st381 hQ381
  obtain ⟨rfl, N381q, K381, o381_0, o381_1, o381_2, o381_3, o381_4, o381_5, o381_6⟩ := hQ381
  have Z382 : n0 ≤ T381.heap.size := Nat.le_trans Z378 K381.1
  have Z382h : h0.size ≤ T381.heap.size := Nat.le_trans Z378h K381.1
  obtain ⟨lc381, X381, N381⟩ := own_pack X381 l381 y381 z381 N377 N381q (C := 5) (S' := 30) rfl rfl
  refine own_thr (a := T381.setTop (mkF m 274 #[.val (.int p0), .val (.int p1), .val (.int p2), .val (.int p3), .val (.int p4), .val (.int p5), .val (.int n), .val (.int s0), .val (.int d1), .val (.int tt), .val (.int d2), .val (.int s1), .val (.int s2), .val (.int (3 : Int32)), .val (.int (1 : Int32)), .val (.int (2 : Int32)), .val (.ref b351), .val (.ref b359), .val (.ref b371), .unset] [])) (fun t kt => st381.trans kt) ?_
  refine own_thr (a := T381.setTop (mkF m 285 #[.val (.int p0), .val (.int p1), .val (.int p2), .val (.int p3), .val (.int p4), .val (.int p5), .val (.int n), .val (.int s0), .val (.int d1), .val (.int tt), .val (.int d2), .val (.int s1), .val (.int s2), .val (.int (3 : Int32)), .val (.int (1 : Int32)), .val (.int (2 : Int32)), .val (.ref b351), .val (.ref b359), .val (.ref b371), .unset] [(.int (2 : Int32)), (.ref b351), (.ref b371)])) (fun t kt => ?_) ?_
  · show Steps p.tables e below (T381.setTop (mkF m 274 #[.val (.int p0), .val (.int p1), .val (.int p2), .val (.int p3), .val (.int p4), .val (.int p5), .val (.int n), .val (.int s0), .val (.int d1), .val (.int tt), .val (.int d2), .val (.int s1), .val (.int s2), .val (.int (3 : Int32)), .val (.int (1 : Int32)), .val (.int (2 : Int32)), .val (.ref b351), .val (.ref b359), .val (.ref b371), .unset] [])) _
    refine XS.iload X381.here hx rfl (hb hby at_274) rfl ?_
    refine XS.iconst X381.here hx rfl (hb hby at_276) ?_
    refine XS.icmpNo X381.here hx rfl (hb hby at_277) rfl (tlt (by decide)).2.2.2 ?_
    refine XS.aload X381.here hx rfl (hb hby at_280) rfl rfl ?_
    refine XS.aload X381.here hx rfl (hb hby at_282) rfl rfl ?_
    refine XS.iconst X381.here hx rfl (hb hby at_284) ?_
    exact kt
  have c384 := (c380.keep K381 (ninS ne_b351_b371 (ninS ne_b351_B373 (ninS ne_b351_A373 nin0))))
  obtain ⟨cl383, Ar383, -, S383, M383, H383, -⟩ := id c384
  have hin383 : ¬ ((2 : Int32) < 0 ∨ cl383.slots.size ≤ ((2 : Int32)).toNatClampNeg) := inb_of S383 ⟨by decide, by decide⟩
  have hat383 : cl383.slots[((2 : Int32)).toNatClampNeg]? = some (.int s2) := Has.at H383 hin383 rfl
  refine own_thr (a := T381.setTop (mkF m 286 #[.val (.int p0), .val (.int p1), .val (.int p2), .val (.int p3), .val (.int p4), .val (.int p5), .val (.int n), .val (.int s0), .val (.int d1), .val (.int tt), .val (.int d2), .val (.int s1), .val (.int s2), .val (.int (3 : Int32)), .val (.int (1 : Int32)), .val (.int (2 : Int32)), .val (.ref b351), .val (.ref b359), .val (.ref b371), .unset] [(.int s2), (.ref b371)])) (fun t kt => ?_) ?_
  · show Steps p.tables e below (T381.setTop (mkF m 285 #[.val (.int p0), .val (.int p1), .val (.int p2), .val (.int p3), .val (.int p4), .val (.int p5), .val (.int n), .val (.int s0), .val (.int d1), .val (.int tt), .val (.int d2), .val (.int s1), .val (.int s2), .val (.int (3 : Int32)), .val (.int (1 : Int32)), .val (.int (2 : Int32)), .val (.ref b351), .val (.ref b359), .val (.ref b371), .unset] [(.int (2 : Int32)), (.ref b351), (.ref b371)])) _
    refine X381.iaload hx (j := (2 : Int32)) (v := (.int s2)) Ar383.1 (State.isArrayOf_alike hZ.alike Ar383.2.1) Ar383.2.2 hin383 hat383 (g := (mkF m 285 #[.val (.int p0), .val (.int p1), .val (.int p2), .val (.int p3), .val (.int p4), .val (.int p5), .val (.int n), .val (.int s0), .val (.int d1), .val (.int tt), .val (.int d2), .val (.int s1), .val (.int s2), .val (.int (3 : Int32)), .val (.int (1 : Int32)), .val (.int (2 : Int32)), .val (.ref b351), .val (.ref b359), .val (.ref b371), .unset] [(.int (2 : Int32)), (.ref b351), (.ref b371)])) rfl rfl (hb hby at_285) _ ?_
    exact kt
  obtain ⟨cq385, kq385, q385a, q385b, q385c⟩ := isOf hZ rfl o381_0
  obtain ⟨_, _, ⟨T385, L385, k385, n385⟩, -, X385, ⟨Lc385, hQ385, l385, y385, z385⟩, st385⟩ := X381.virtualBack hx (y := (⟨"dev/chainlatch/bucket/Order", "append", "(I)V"⟩ : MethodName)) (z := (⟨"dev/chainlatch/bucket/Order", "append", "(I)V"⟩ : MethodName)) hown (mvT hZ (hw _ (List.mem_of_getElem? (i := 20) rfl))) (mvT hZ (hw _ (List.mem_of_getElem? (i := 21) rfl))) (notFace_of_selects (args := #[]) (mvT hZ (hw _ (List.mem_of_getElem? (i := 23) rfl)))) (mvT hZ (hw _ (List.mem_of_getElem? (i := 23) rfl))) (mvT hZ (hw _ (List.mem_of_getElem? (i := 22) rfl))) (by decide) (backOf (W := 0) (rmA2 l Z a0 hw [] b371 s2 B373 A373 n s0 s1 (own_up (own_up (fun _ => 0) s0 ((-1 : Int32) + (1 : Int32))) s1 (s0 + (1 : Int32))) (own_up (own_up (own_up (fun _ => 0) s0 (0 : Int32)) s1 (0 : Int32)) s0 (s1 + (1 : Int32))) T381.heap n0 Z382 o381_0 o381_1 o381_2 o381_3 o381_4 o381_5 o381_6 g_b371 g_B373 g_A373 ne_b371_B373 ne_b371_A373 ne_B373_A373 hs20 hs21 hs10 hs11) hZ (hw _ (List.mem_of_getElem? (i := 24) rfl)) (hw _ (List.mem_of_getElem? (i := 5) rfl)) (by decide) (by decide)) q385a q385c (g := (mkF m 286 #[.val (.int p0), .val (.int p1), .val (.int p2), .val (.int p3), .val (.int p4), .val (.int p5), .val (.int n), .val (.int s0), .val (.int d1), .val (.int tt), .val (.int d2), .val (.int s1), .val (.int s2), .val (.int (3 : Int32)), .val (.int (1 : Int32)), .val (.int (2 : Int32)), .val (.ref b351), .val (.ref b359), .val (.ref b371), .unset] [(.int s2), (.ref b371)])) rfl (by rw [hml]; rfl) (Steps.refl _) (argsL := [(.int s2)]) (rest := []) (lenOf pd__28I_29V rfl) rfl (by show 2 * 0 + _ ≤ _; exact Nat.le_of_eq rfl) (hb hby at_286) (fun _ _ => ⟨rfl, rfl, (by decide : 5 + 0 ≤ _), (by decide : 30 + 0 ≤ _)⟩)
  dsimp only [Pt.U, Pt.locs, Pt.cells, Pt.slots] at X385 l385 y385 z385 st385 hQ385
  obtain ⟨rfl, N385q, K385, o385_0, o385_1, o385_2, o385_3, o385_4, o385_5, o385_6⟩ := hQ385
  have Z386 : n0 ≤ T385.heap.size := Nat.le_trans Z382 K385.1
  have Z386h : h0.size ≤ T385.heap.size := Nat.le_trans Z382h K385.1
  obtain ⟨lc385, X385, N385⟩ := own_pack X385 l385 y385 z385 N381 N385q (C := 5) (S' := 30) rfl rfl
  refine own_thr (a := T385.setTop (mkF m 289 #[.val (.int p0), .val (.int p1), .val (.int p2), .val (.int p3), .val (.int p4), .val (.int p5), .val (.int n), .val (.int s0), .val (.int d1), .val (.int tt), .val (.int d2), .val (.int s1), .val (.int s2), .val (.int (3 : Int32)), .val (.int (1 : Int32)), .val (.int (2 : Int32)), .val (.ref b351), .val (.ref b359), .val (.ref b371), .unset] [])) (fun t kt => st385.trans kt) ?_
  refine own_thr (a := T385.setTop (mkF m 300 #[.val (.int p0), .val (.int p1), .val (.int p2), .val (.int p3), .val (.int p4), .val (.int p5), .val (.int n), .val (.int s0), .val (.int d1), .val (.int tt), .val (.int d2), .val (.int s1), .val (.int s2), .val (.int (3 : Int32)), .val (.int (1 : Int32)), .val (.int (2 : Int32)), .val (.ref b351), .val (.ref b359), .val (.ref b371), .unset] [(.int (2 : Int32)), (.ref b351), (.ref b371)])) (fun t kt => ?_) ?_
  · show Steps p.tables e below (T385.setTop (mkF m 289 #[.val (.int p0), .val (.int p1), .val (.int p2), .val (.int p3), .val (.int p4), .val (.int p5), .val (.int n), .val (.int s0), .val (.int d1), .val (.int tt), .val (.int d2), .val (.int s1), .val (.int s2), .val (.int (3 : Int32)), .val (.int (1 : Int32)), .val (.int (2 : Int32)), .val (.ref b351), .val (.ref b359), .val (.ref b371), .unset] [])) _
    refine XS.iload X385.here hx rfl (hb hby at_289) rfl ?_
    refine XS.ifNo X385.here hx rfl (hb hby at_291) rfl ((if0 _ _).trans (feq (by decide)).1) ?_
    refine XS.aload X385.here hx rfl (hb hby at_294) rfl rfl ?_
    refine XS.aload X385.here hx rfl (hb hby at_296) rfl rfl ?_
    refine XS.iload X385.here hx rfl (hb hby at_298) rfl ?_
    exact kt
  have c388 := (c384.keep K385 (ninS ne_b351_b371 (ninS ne_b351_B373 (ninS ne_b351_A373 nin0))))
  obtain ⟨cl387, Ar387, -, S387, M387, H387, -⟩ := id c388
  have hin387 : ¬ ((2 : Int32) < 0 ∨ cl387.slots.size ≤ ((2 : Int32)).toNatClampNeg) := inb_of S387 ⟨by decide, by decide⟩
  have hat387 : cl387.slots[((2 : Int32)).toNatClampNeg]? = some (.int s2) := Has.at H387 hin387 rfl
  refine own_thr (a := T385.setTop (mkF m 301 #[.val (.int p0), .val (.int p1), .val (.int p2), .val (.int p3), .val (.int p4), .val (.int p5), .val (.int n), .val (.int s0), .val (.int d1), .val (.int tt), .val (.int d2), .val (.int s1), .val (.int s2), .val (.int (3 : Int32)), .val (.int (1 : Int32)), .val (.int (2 : Int32)), .val (.ref b351), .val (.ref b359), .val (.ref b371), .unset] [(.int s2), (.ref b371)])) (fun t kt => ?_) ?_
  · show Steps p.tables e below (T385.setTop (mkF m 300 #[.val (.int p0), .val (.int p1), .val (.int p2), .val (.int p3), .val (.int p4), .val (.int p5), .val (.int n), .val (.int s0), .val (.int d1), .val (.int tt), .val (.int d2), .val (.int s1), .val (.int s2), .val (.int (3 : Int32)), .val (.int (1 : Int32)), .val (.int (2 : Int32)), .val (.ref b351), .val (.ref b359), .val (.ref b371), .unset] [(.int (2 : Int32)), (.ref b351), (.ref b371)])) _
    refine X385.iaload hx (j := (2 : Int32)) (v := (.int s2)) Ar387.1 (State.isArrayOf_alike hZ.alike Ar387.2.1) Ar387.2.2 hin387 hat387 (g := (mkF m 300 #[.val (.int p0), .val (.int p1), .val (.int p2), .val (.int p3), .val (.int p4), .val (.int p5), .val (.int n), .val (.int s0), .val (.int d1), .val (.int tt), .val (.int d2), .val (.int s1), .val (.int s2), .val (.int (3 : Int32)), .val (.int (1 : Int32)), .val (.int (2 : Int32)), .val (.ref b351), .val (.ref b359), .val (.ref b371), .unset] [(.int (2 : Int32)), (.ref b351), (.ref b371)])) rfl rfl (hb hby at_300) _ ?_
    exact kt
  obtain ⟨cq389, kq389, q389a, q389b, q389c⟩ := isOf hZ rfl o385_0
  obtain ⟨_, _, ⟨T389, L389, k389, n389⟩, -, X389, ⟨Lc389, hQ389, l389, y389, z389⟩, st389⟩ := X385.virtualBack hx (y := (⟨"dev/chainlatch/bucket/Order", "remove", "(I)V"⟩ : MethodName)) (z := (⟨"dev/chainlatch/bucket/Order", "remove", "(I)V"⟩ : MethodName)) hown (mvT hZ (hw _ (List.mem_of_getElem? (i := 25) rfl))) (mvT hZ (hw _ (List.mem_of_getElem? (i := 26) rfl))) (notFace_of_selects (args := #[]) (mvT hZ (hw _ (List.mem_of_getElem? (i := 28) rfl)))) (mvT hZ (hw _ (List.mem_of_getElem? (i := 28) rfl))) (mvT hZ (hw _ (List.mem_of_getElem? (i := 27) rfl))) (by decide) (backOf (W := 0) (rmR10 l Z a0 hw [] b371 s2 B373 A373 n s0 s2 (own_up (own_up (own_up (fun _ => 0) s0 ((-1 : Int32) + (1 : Int32))) s1 (s0 + (1 : Int32))) s2 (s1 + (1 : Int32))) (own_up (own_up (own_up (own_up (own_up (fun _ => 0) s0 (0 : Int32)) s1 (0 : Int32)) s0 (s1 + (1 : Int32))) s2 (0 : Int32)) s1 (s2 + (1 : Int32))) T385.heap n0 Z386 o385_0 o385_1 o385_2 o385_3 o385_4 o385_5 o385_6 g_b371 g_B373 g_A373 ne_b371_B373 ne_b371_A373 ne_B373_A373 hs20 hs21 (by rw [show (((own_up (own_up (own_up (fun _ => 0) s0 ((-1 : Int32) + (1 : Int32))) s1 (s0 + (1 : Int32))) s2 (s1 + (1 : Int32))) s2) - (1 : Int32)) = s1 by simp [own_up, own_as, n01, n10, n02, n20, n12, n21]]; exact hs10) (by rw [show (((own_up (own_up (own_up (fun _ => 0) s0 ((-1 : Int32) + (1 : Int32))) s1 (s0 + (1 : Int32))) s2 (s1 + (1 : Int32))) s2) - (1 : Int32)) = s1 by simp [own_up, own_as, n01, n10, n02, n20, n12, n21]]; exact hs11) (by simp [own_up, own_as, n01, n10, n02, n20, n12, n21] : (((own_up (own_up (own_up (own_up (own_up (fun _ => 0) s0 (0 : Int32)) s1 (0 : Int32)) s0 (s1 + (1 : Int32))) s2 (0 : Int32)) s1 (s2 + (1 : Int32))) s2) - (1 : Int32)) = (-1 : Int32))) hZ (hw _ (List.mem_of_getElem? (i := 29) rfl)) (hw _ (List.mem_of_getElem? (i := 5) rfl)) (by decide) (by decide)) q389a q389c (g := (mkF m 301 #[.val (.int p0), .val (.int p1), .val (.int p2), .val (.int p3), .val (.int p4), .val (.int p5), .val (.int n), .val (.int s0), .val (.int d1), .val (.int tt), .val (.int d2), .val (.int s1), .val (.int s2), .val (.int (3 : Int32)), .val (.int (1 : Int32)), .val (.int (2 : Int32)), .val (.ref b351), .val (.ref b359), .val (.ref b371), .unset] [(.int s2), (.ref b371)])) rfl (by rw [hml]; rfl) (Steps.refl _) (argsL := [(.int s2)]) (rest := []) (lenOf pd__28I_29V rfl) rfl (by show 2 * 0 + _ ≤ _; exact Nat.le_of_eq rfl) (hb hby at_301) (fun _ _ => ⟨rfl, rfl, (by decide : 5 + 0 ≤ _), (by decide : 30 + 0 ≤ _)⟩)
  dsimp only [Pt.U, Pt.locs, Pt.cells, Pt.slots] at X389 l389 y389 z389 st389 hQ389
  obtain ⟨rfl, N389q, K389, o389_0, o389_1, o389_2, o389_3, o389_4, o389_5, o389_6⟩ := hQ389
  have Z390 : n0 ≤ T389.heap.size := Nat.le_trans Z386 K389.1
  have Z390h : h0.size ≤ T389.heap.size := Nat.le_trans Z386h K389.1
  obtain ⟨lc389, X389, N389⟩ := own_pack X389 l389 y389 z389 N385 N389q (C := 5) (S' := 30) rfl rfl
  refine own_thr (a := T389.setTop (mkF m 304 #[.val (.int p0), .val (.int p1), .val (.int p2), .val (.int p3), .val (.int p4), .val (.int p5), .val (.int n), .val (.int s0), .val (.int d1), .val (.int tt), .val (.int d2), .val (.int s1), .val (.int s2), .val (.int (3 : Int32)), .val (.int (1 : Int32)), .val (.int (2 : Int32)), .val (.ref b351), .val (.ref b359), .val (.ref b371), .unset] [])) (fun t kt => st389.trans kt) ?_
  have el_last : (((own_up (own_up (own_up (fun _ => 0) s0 ((-1 : Int32) + (1 : Int32))) s1 (s0 + (1 : Int32))) s2 (s1 + (1 : Int32))) s2) - (1 : Int32)) = s1 := by simp [own_up, own_as, n01, n10, n02, n20, n12, n21]
  rw [el_last] at o389_2
  refine own_thr (a := T389.setTop (mkF m 310 #[.val (.int p0), .val (.int p1), .val (.int p2), .val (.int p3), .val (.int p4), .val (.int p5), .val (.int n), .val (.int s0), .val (.int d1), .val (.int tt), .val (.int d2), .val (.int s1), .val (.int s2), .val (.int (3 : Int32)), .val (.int (1 : Int32)), .val (.int (2 : Int32)), .val (.ref b351), .val (.ref b359), .val (.ref b371), .unset] [(.int (2 : Int32)), (.ref b351), (.ref b371)])) (fun t kt => ?_) ?_
  · show Steps p.tables e below (T389.setTop (mkF m 304 #[.val (.int p0), .val (.int p1), .val (.int p2), .val (.int p3), .val (.int p4), .val (.int p5), .val (.int n), .val (.int s0), .val (.int d1), .val (.int tt), .val (.int d2), .val (.int s1), .val (.int s2), .val (.int (3 : Int32)), .val (.int (1 : Int32)), .val (.int (2 : Int32)), .val (.ref b351), .val (.ref b359), .val (.ref b371), .unset] [])) _
    refine XS.aload X389.here hx rfl (hb hby at_304) rfl rfl ?_
    refine XS.aload X389.here hx rfl (hb hby at_306) rfl rfl ?_
    refine XS.iload X389.here hx rfl (hb hby at_308) rfl ?_
    exact kt
  have c392 := (c388.keep K389 (ninS ne_b351_b371 (ninS ne_b351_B373 (ninS ne_b351_A373 nin0))))
  obtain ⟨cl391, Ar391, -, S391, M391, H391, -⟩ := id c392
  have hin391 : ¬ ((2 : Int32) < 0 ∨ cl391.slots.size ≤ ((2 : Int32)).toNatClampNeg) := inb_of S391 ⟨by decide, by decide⟩
  have hat391 : cl391.slots[((2 : Int32)).toNatClampNeg]? = some (.int s2) := Has.at H391 hin391 rfl
  refine own_thr (a := T389.setTop (mkF m 311 #[.val (.int p0), .val (.int p1), .val (.int p2), .val (.int p3), .val (.int p4), .val (.int p5), .val (.int n), .val (.int s0), .val (.int d1), .val (.int tt), .val (.int d2), .val (.int s1), .val (.int s2), .val (.int (3 : Int32)), .val (.int (1 : Int32)), .val (.int (2 : Int32)), .val (.ref b351), .val (.ref b359), .val (.ref b371), .unset] [(.int s2), (.ref b371)])) (fun t kt => ?_) ?_
  · show Steps p.tables e below (T389.setTop (mkF m 310 #[.val (.int p0), .val (.int p1), .val (.int p2), .val (.int p3), .val (.int p4), .val (.int p5), .val (.int n), .val (.int s0), .val (.int d1), .val (.int tt), .val (.int d2), .val (.int s1), .val (.int s2), .val (.int (3 : Int32)), .val (.int (1 : Int32)), .val (.int (2 : Int32)), .val (.ref b351), .val (.ref b359), .val (.ref b371), .unset] [(.int (2 : Int32)), (.ref b351), (.ref b371)])) _
    refine X389.iaload hx (j := (2 : Int32)) (v := (.int s2)) Ar391.1 (State.isArrayOf_alike hZ.alike Ar391.2.1) Ar391.2.2 hin391 hat391 (g := (mkF m 310 #[.val (.int p0), .val (.int p1), .val (.int p2), .val (.int p3), .val (.int p4), .val (.int p5), .val (.int n), .val (.int s0), .val (.int d1), .val (.int tt), .val (.int d2), .val (.int s1), .val (.int s2), .val (.int (3 : Int32)), .val (.int (1 : Int32)), .val (.int (2 : Int32)), .val (.ref b351), .val (.ref b359), .val (.ref b371), .unset] [(.int (2 : Int32)), (.ref b351), (.ref b371)])) rfl rfl (hb hby at_310) _ ?_
    exact kt
  obtain ⟨cq393, kq393, q393a, q393b, q393c⟩ := isOf hZ rfl o389_0
  obtain ⟨_, _, ⟨T393, L393, k393, n393⟩, -, X393, ⟨Lc393, hQ393, l393, y393, z393⟩, st393⟩ := X389.virtualBack hx (y := (⟨"dev/chainlatch/bucket/Order", "append", "(I)V"⟩ : MethodName)) (z := (⟨"dev/chainlatch/bucket/Order", "append", "(I)V"⟩ : MethodName)) hown (mvT hZ (hw _ (List.mem_of_getElem? (i := 20) rfl))) (mvT hZ (hw _ (List.mem_of_getElem? (i := 21) rfl))) (notFace_of_selects (args := #[]) (mvT hZ (hw _ (List.mem_of_getElem? (i := 23) rfl)))) (mvT hZ (hw _ (List.mem_of_getElem? (i := 23) rfl))) (mvT hZ (hw _ (List.mem_of_getElem? (i := 22) rfl))) (by decide) (backOf (W := 0) (rmA2 l Z a0 hw [] b371 s2 B373 A373 n s0 s1 (own_up (own_up (own_up (own_up (fun _ => 0) s0 ((-1 : Int32) + (1 : Int32))) s1 (s0 + (1 : Int32))) s2 (s1 + (1 : Int32))) s2 (0 : Int32)) (own_up (own_up (own_up (own_up (own_up (own_up (own_up (fun _ => 0) s0 (0 : Int32)) s1 (0 : Int32)) s0 (s1 + (1 : Int32))) s2 (0 : Int32)) s1 (s2 + (1 : Int32))) (((own_up (own_up (own_up (fun _ => 0) s0 ((-1 : Int32) + (1 : Int32))) s1 (s0 + (1 : Int32))) s2 (s1 + (1 : Int32))) s2) - (1 : Int32)) ((((own_up (own_up (own_up (own_up (own_up (fun _ => 0) s0 (0 : Int32)) s1 (0 : Int32)) s0 (s1 + (1 : Int32))) s2 (0 : Int32)) s1 (s2 + (1 : Int32))) s2) - (1 : Int32)) + (1 : Int32))) s2 (0 : Int32)) T389.heap n0 Z390 o389_0 o389_1 o389_2 o389_3 o389_4 o389_5 o389_6 g_b371 g_B373 g_A373 ne_b371_B373 ne_b371_A373 ne_B373_A373 hs20 hs21 hs10 hs11) hZ (hw _ (List.mem_of_getElem? (i := 24) rfl)) (hw _ (List.mem_of_getElem? (i := 5) rfl)) (by decide) (by decide)) q393a q393c (g := (mkF m 311 #[.val (.int p0), .val (.int p1), .val (.int p2), .val (.int p3), .val (.int p4), .val (.int p5), .val (.int n), .val (.int s0), .val (.int d1), .val (.int tt), .val (.int d2), .val (.int s1), .val (.int s2), .val (.int (3 : Int32)), .val (.int (1 : Int32)), .val (.int (2 : Int32)), .val (.ref b351), .val (.ref b359), .val (.ref b371), .unset] [(.int s2), (.ref b371)])) rfl (by rw [hml]; rfl) (Steps.refl _) (argsL := [(.int s2)]) (rest := []) (lenOf pd__28I_29V rfl) rfl (by show 2 * 0 + _ ≤ _; exact Nat.le_of_eq rfl) (hb hby at_311) (fun _ _ => ⟨rfl, rfl, (by decide : 5 + 0 ≤ _), (by decide : 30 + 0 ≤ _)⟩)
  dsimp only [Pt.U, Pt.locs, Pt.cells, Pt.slots] at X393 l393 y393 z393 st393 hQ393
  obtain ⟨rfl, N393q, K393, o393_0, o393_1, o393_2, o393_3, o393_4, o393_5, o393_6⟩ := hQ393
  have Z394 : n0 ≤ T393.heap.size := Nat.le_trans Z390 K393.1
  have Z394h : h0.size ≤ T393.heap.size := Nat.le_trans Z390h K393.1
  obtain ⟨lc393, X393, N393⟩ := own_pack X393 l393 y393 z393 N389 N393q (C := 5) (S' := 30) rfl rfl
  refine own_thr (a := T393.setTop (mkF m 314 #[.val (.int p0), .val (.int p1), .val (.int p2), .val (.int p3), .val (.int p4), .val (.int p5), .val (.int n), .val (.int s0), .val (.int d1), .val (.int tt), .val (.int d2), .val (.int s1), .val (.int s2), .val (.int (3 : Int32)), .val (.int (1 : Int32)), .val (.int (2 : Int32)), .val (.ref b351), .val (.ref b359), .val (.ref b371), .unset] [])) (fun t kt => st393.trans kt) ?_
  refine own_thr (a := T393.setTop (mkF m 316 #[.val (.int p0), .val (.int p1), .val (.int p2), .val (.int p3), .val (.int p4), .val (.int p5), .val (.int n), .val (.int s0), .val (.int d1), .val (.int tt), .val (.int d2), .val (.int s1), .val (.int s2), .val (.int (3 : Int32)), .val (.int (1 : Int32)), .val (.int (2 : Int32)), .val (.ref b351), .val (.ref b359), .val (.ref b371), .unset] [(.ref b371)])) (fun t kt => ?_) ?_
  · show Steps p.tables e below (T393.setTop (mkF m 314 #[.val (.int p0), .val (.int p1), .val (.int p2), .val (.int p3), .val (.int p4), .val (.int p5), .val (.int n), .val (.int s0), .val (.int d1), .val (.int tt), .val (.int d2), .val (.int s1), .val (.int s2), .val (.int (3 : Int32)), .val (.int (1 : Int32)), .val (.int (2 : Int32)), .val (.ref b351), .val (.ref b359), .val (.ref b371), .unset] [])) _
    refine XS.aload X393.here hx rfl (hb hby at_314) rfl rfl ?_
    exact kt
  obtain ⟨cq395, kq395, q395a, q395b, q395c⟩ := isOf hZ rfl o393_0
  obtain ⟨_, _, ⟨T395, L395, k395, n395⟩, -, X395, ⟨Lc395, hQ395, l395, y395, z395⟩, st395⟩ := X393.virtualBack hx (y := (⟨"dev/chainlatch/bucket/Order", "first", "()I"⟩ : MethodName)) (z := (⟨"dev/chainlatch/bucket/Order", "first", "()I"⟩ : MethodName)) hown (mvT hZ (hw _ (List.mem_of_getElem? (i := 34) rfl))) (mvT hZ (hw _ (List.mem_of_getElem? (i := 35) rfl))) (notFace_of_selects (args := #[]) (mvT hZ (hw _ (List.mem_of_getElem? (i := 37) rfl)))) (mvT hZ (hw _ (List.mem_of_getElem? (i := 37) rfl))) (mvT hZ (hw _ (List.mem_of_getElem? (i := 36) rfl))) (by decide) (backOf (W := 0) (rmF l Z a0 hw [] b371 s0 T393.heap n0 Z394 o393_1) hZ (hw _ (List.mem_of_getElem? (i := 38) rfl)) (hw _ (List.mem_of_getElem? (i := 5) rfl)) (by decide) (by decide)) q395a q395c (g := (mkF m 316 #[.val (.int p0), .val (.int p1), .val (.int p2), .val (.int p3), .val (.int p4), .val (.int p5), .val (.int n), .val (.int s0), .val (.int d1), .val (.int tt), .val (.int d2), .val (.int s1), .val (.int s2), .val (.int (3 : Int32)), .val (.int (1 : Int32)), .val (.int (2 : Int32)), .val (.ref b351), .val (.ref b359), .val (.ref b371), .unset] [(.ref b371)])) rfl (by rw [hml]; rfl) (Steps.refl _) (argsL := []) (rest := []) (lenOf pd__28_29I rfl) rfl (by show 2 * 0 + _ ≤ _; exact Nat.le_of_eq rfl) (hb hby at_316) (fun _ _ => ⟨rfl, rfl, (by decide : 5 + 0 ≤ _), (by decide : 30 + 0 ≤ _)⟩)
  dsimp only [Pt.U, Pt.locs, Pt.cells, Pt.slots] at X395 l395 y395 z395 st395 hQ395
  obtain ⟨rfl, N395q, e395⟩ := hQ395
  obtain ⟨lc395, X395, N395⟩ := own_pack X395 l395 y395 z395 N393 N395q (C := 5) (S' := 30) rfl rfl
  refine own_thr (a := T395.setTop (mkF m 319 #[.val (.int p0), .val (.int p1), .val (.int p2), .val (.int p3), .val (.int p4), .val (.int p5), .val (.int n), .val (.int s0), .val (.int d1), .val (.int tt), .val (.int d2), .val (.int s1), .val (.int s2), .val (.int (3 : Int32)), .val (.int (1 : Int32)), .val (.int (2 : Int32)), .val (.ref b351), .val (.ref b359), .val (.ref b371), .unset] [(.int s0)])) (fun t kt => st395.trans kt) ?_
  refine own_thr (a := T395.setTop (mkF m 322 #[.val (.int p0), .val (.int p1), .val (.int p2), .val (.int p3), .val (.int p4), .val (.int p5), .val (.int n), .val (.int s0), .val (.int d1), .val (.int tt), .val (.int d2), .val (.int s1), .val (.int s2), .val (.int (3 : Int32)), .val (.int (1 : Int32)), .val (.int (2 : Int32)), .val (.ref b351), .val (.ref b359), .val (.ref b371), .unset] [(.int (0 : Int32)), (.ref b359), (.int s0)])) (fun t kt => ?_) ?_
  · show Steps p.tables e below (T395.setTop (mkF m 319 #[.val (.int p0), .val (.int p1), .val (.int p2), .val (.int p3), .val (.int p4), .val (.int p5), .val (.int n), .val (.int s0), .val (.int d1), .val (.int tt), .val (.int d2), .val (.int s1), .val (.int s2), .val (.int (3 : Int32)), .val (.int (1 : Int32)), .val (.int (2 : Int32)), .val (.ref b351), .val (.ref b359), .val (.ref b371), .unset] [(.int s0)])) _
    refine XS.aload X395.here hx rfl (hb hby at_319) rfl rfl ?_
    refine XS.iconst X395.here hx rfl (hb hby at_321) ?_
    exact kt
  have c397 := (((((((V369.ext E371).keep K373 (ninS ne_b359_b371 nin0)).keep K377 (ninS ne_b359_b371 (ninS ne_b359_B373 (ninS ne_b359_A373 nin0)))).keep K381 (ninS ne_b359_b371 (ninS ne_b359_B373 (ninS ne_b359_A373 nin0)))).keep K385 (ninS ne_b359_b371 (ninS ne_b359_B373 (ninS ne_b359_A373 nin0)))).keep K389 (ninS ne_b359_b371 (ninS ne_b359_B373 (ninS ne_b359_A373 nin0)))).keep K393 (ninS ne_b359_b371 (ninS ne_b359_B373 (ninS ne_b359_A373 nin0))))
  obtain ⟨cl396, Ar396, -, S396, M396, H396, -⟩ := id c397
  have hin396 : ¬ ((0 : Int32) < 0 ∨ cl396.slots.size ≤ ((0 : Int32)).toNatClampNeg) := inb_of S396 ⟨by decide, by decide⟩
  have hat396 : cl396.slots[((0 : Int32)).toNatClampNeg]? = some (.int s0) := Has.at H396 hin396 rfl
  refine own_thr (a := T395.setTop (mkF m 343 #[.val (.int p0), .val (.int p1), .val (.int p2), .val (.int p3), .val (.int p4), .val (.int p5), .val (.int n), .val (.int s0), .val (.int d1), .val (.int tt), .val (.int d2), .val (.int s1), .val (.int s2), .val (.int (3 : Int32)), .val (.int (1 : Int32)), .val (.int (2 : Int32)), .val (.ref b351), .val (.ref b359), .val (.ref b371), .val (.int (1 : Int32))] [(.int (0 : Int32)), (.ref b359), (.ref b371)])) (fun t kt => ?_) ?_
  · show Steps p.tables e below (T395.setTop (mkF m 322 #[.val (.int p0), .val (.int p1), .val (.int p2), .val (.int p3), .val (.int p4), .val (.int p5), .val (.int n), .val (.int s0), .val (.int d1), .val (.int tt), .val (.int d2), .val (.int s1), .val (.int s2), .val (.int (3 : Int32)), .val (.int (1 : Int32)), .val (.int (2 : Int32)), .val (.ref b351), .val (.ref b359), .val (.ref b371), .unset] [(.int (0 : Int32)), (.ref b359), (.int s0)])) _
    refine X395.iaload hx (j := (0 : Int32)) (v := (.int s0)) (by rw [e395]; exact Ar396.1) (State.isArrayOf_alike hZ.alike Ar396.2.1) Ar396.2.2 hin396 hat396 (g := (mkF m 322 #[.val (.int p0), .val (.int p1), .val (.int p2), .val (.int p3), .val (.int p4), .val (.int p5), .val (.int n), .val (.int s0), .val (.int d1), .val (.int tt), .val (.int d2), .val (.int s1), .val (.int s2), .val (.int (3 : Int32)), .val (.int (1 : Int32)), .val (.int (2 : Int32)), .val (.ref b351), .val (.ref b359), .val (.ref b371), .unset] [(.int (0 : Int32)), (.ref b359), (.int s0)])) rfl rfl (hb hby at_322) _ ?_
    refine XS.icmpNo X395.here hx rfl (hb hby at_323) rfl (teq (by simp [own_up, own_as, n01, n10, n02, n20, n12, n21])).2 ?_
    refine XS.iconst X395.here hx rfl (hb hby at_326) ?_
    refine XS.goto X395.here hx rfl (pc0 := 327) (pc' := 331) rfl (hb hby at_327) (by decide) (by decide) ?_
    refine XS.istore X395.here hx rfl (hb hby at_331) rfl (l' := #[.val (.int p0), .val (.int p1), .val (.int p2), .val (.int p3), .val (.int p4), .val (.int p5), .val (.int n), .val (.int s0), .val (.int d1), .val (.int tt), .val (.int d2), .val (.int s1), .val (.int s2), .val (.int (3 : Int32)), .val (.int (1 : Int32)), .val (.int (2 : Int32)), .val (.ref b351), .val (.ref b359), .val (.ref b371), .val (.int (1 : Int32))]) rfl ?_
    refine XS.iload X395.here hx rfl (hb hby at_333) rfl ?_
    refine XS.ifNo X395.here hx rfl (hb hby at_335) rfl ((if0 _ _).trans (feq (by decide)).1) ?_
    refine XS.aload X395.here hx rfl (hb hby at_338) rfl rfl ?_
    refine XS.aload X395.here hx rfl (hb hby at_340) rfl rfl ?_
    refine XS.iconst X395.here hx rfl (hb hby at_342) ?_
    exact kt
  obtain ⟨cl398, Ar398, -, S398, M398, H398, -⟩ := id c397
  have hin398 : ¬ ((0 : Int32) < 0 ∨ cl398.slots.size ≤ ((0 : Int32)).toNatClampNeg) := inb_of S398 ⟨by decide, by decide⟩
  have hat398 : cl398.slots[((0 : Int32)).toNatClampNeg]? = some (.int s0) := Has.at H398 hin398 rfl
  refine own_thr (a := T395.setTop (mkF m 344 #[.val (.int p0), .val (.int p1), .val (.int p2), .val (.int p3), .val (.int p4), .val (.int p5), .val (.int n), .val (.int s0), .val (.int d1), .val (.int tt), .val (.int d2), .val (.int s1), .val (.int s2), .val (.int (3 : Int32)), .val (.int (1 : Int32)), .val (.int (2 : Int32)), .val (.ref b351), .val (.ref b359), .val (.ref b371), .val (.int (1 : Int32))] [(.int s0), (.ref b371)])) (fun t kt => ?_) ?_
  · show Steps p.tables e below (T395.setTop (mkF m 343 #[.val (.int p0), .val (.int p1), .val (.int p2), .val (.int p3), .val (.int p4), .val (.int p5), .val (.int n), .val (.int s0), .val (.int d1), .val (.int tt), .val (.int d2), .val (.int s1), .val (.int s2), .val (.int (3 : Int32)), .val (.int (1 : Int32)), .val (.int (2 : Int32)), .val (.ref b351), .val (.ref b359), .val (.ref b371), .val (.int (1 : Int32))] [(.int (0 : Int32)), (.ref b359), (.ref b371)])) _
    refine X395.iaload hx (j := (0 : Int32)) (v := (.int s0)) (by rw [e395]; exact Ar398.1) (State.isArrayOf_alike hZ.alike Ar398.2.1) Ar398.2.2 hin398 hat398 (g := (mkF m 343 #[.val (.int p0), .val (.int p1), .val (.int p2), .val (.int p3), .val (.int p4), .val (.int p5), .val (.int n), .val (.int s0), .val (.int d1), .val (.int tt), .val (.int d2), .val (.int s1), .val (.int s2), .val (.int (3 : Int32)), .val (.int (1 : Int32)), .val (.int (2 : Int32)), .val (.ref b351), .val (.ref b359), .val (.ref b371), .val (.int (1 : Int32))] [(.int (0 : Int32)), (.ref b359), (.ref b371)])) rfl rfl (hb hby at_343) _ ?_
    exact kt
  obtain ⟨cq399, kq399, q399a, q399b, q399c⟩ := isOf hZ e395 o393_0
  obtain ⟨_, _, ⟨T399, L399, k399, n399⟩, -, X399, ⟨Lc399, hQ399, l399, y399, z399⟩, st399⟩ := X395.virtualBack hx (y := (⟨"dev/chainlatch/bucket/Order", "after", "(I)I"⟩ : MethodName)) (z := (⟨"dev/chainlatch/bucket/Order", "after", "(I)I"⟩ : MethodName)) hown (mvT hZ (hw _ (List.mem_of_getElem? (i := 39) rfl))) (mvT hZ (hw _ (List.mem_of_getElem? (i := 40) rfl))) (notFace_of_selects (args := #[]) (mvT hZ (hw _ (List.mem_of_getElem? (i := 42) rfl)))) (mvT hZ (hw _ (List.mem_of_getElem? (i := 42) rfl))) (mvT hZ (hw _ (List.mem_of_getElem? (i := 41) rfl))) (by decide) (backOf (W := 0) (rmN l Z a0 hw [] b371 s0 A373 n (own_up (own_up (own_up (own_up (own_up (own_up (own_up (own_up (own_up (fun _ => 0) s0 (0 : Int32)) s1 (0 : Int32)) s0 (s1 + (1 : Int32))) s2 (0 : Int32)) s1 (s2 + (1 : Int32))) (((own_up (own_up (own_up (fun _ => 0) s0 ((-1 : Int32) + (1 : Int32))) s1 (s0 + (1 : Int32))) s2 (s1 + (1 : Int32))) s2) - (1 : Int32)) ((((own_up (own_up (own_up (own_up (own_up (fun _ => 0) s0 (0 : Int32)) s1 (0 : Int32)) s0 (s1 + (1 : Int32))) s2 (0 : Int32)) s1 (s2 + (1 : Int32))) s2) - (1 : Int32)) + (1 : Int32))) s2 (0 : Int32)) s2 (0 : Int32)) s1 (s2 + (1 : Int32))) T393.heap n0 Z394 o393_4 o393_6 hs00 hs01) hZ (hw _ (List.mem_of_getElem? (i := 43) rfl)) (hw _ (List.mem_of_getElem? (i := 5) rfl)) (by decide) (by decide)) q399a q399c (g := (mkF m 344 #[.val (.int p0), .val (.int p1), .val (.int p2), .val (.int p3), .val (.int p4), .val (.int p5), .val (.int n), .val (.int s0), .val (.int d1), .val (.int tt), .val (.int d2), .val (.int s1), .val (.int s2), .val (.int (3 : Int32)), .val (.int (1 : Int32)), .val (.int (2 : Int32)), .val (.ref b351), .val (.ref b359), .val (.ref b371), .val (.int (1 : Int32))] [(.int s0), (.ref b371)])) rfl (by rw [hml]; rfl) (Steps.refl _) (argsL := [(.int s0)]) (rest := []) (lenOf pd__28I_29I rfl) rfl (by show 2 * 0 + _ ≤ _; exact Nat.le_of_eq rfl) (hb hby at_344) (fun _ _ => ⟨rfl, e395, (by decide : 5 + 0 ≤ _), (by decide : 30 + 0 ≤ _)⟩)
  dsimp only [Pt.U, Pt.locs, Pt.cells, Pt.slots] at X399 l399 y399 z399 st399 hQ399
  obtain ⟨rfl, N399q, e399⟩ := hQ399
  obtain ⟨lc399, X399, N399⟩ := own_pack X399 l399 y399 z399 N395 N399q (C := 5) (S' := 30) rfl rfl
  refine own_thr (a := T399.setTop (mkF m 347 #[.val (.int p0), .val (.int p1), .val (.int p2), .val (.int p3), .val (.int p4), .val (.int p5), .val (.int n), .val (.int s0), .val (.int d1), .val (.int tt), .val (.int d2), .val (.int s1), .val (.int s2), .val (.int (3 : Int32)), .val (.int (1 : Int32)), .val (.int (2 : Int32)), .val (.ref b351), .val (.ref b359), .val (.ref b371), .val (.int (1 : Int32))] [(.int (((own_up (own_up (own_up (own_up (own_up (own_up (own_up (own_up (own_up (fun _ => 0) s0 (0 : Int32)) s1 (0 : Int32)) s0 (s1 + (1 : Int32))) s2 (0 : Int32)) s1 (s2 + (1 : Int32))) (((own_up (own_up (own_up (fun _ => 0) s0 ((-1 : Int32) + (1 : Int32))) s1 (s0 + (1 : Int32))) s2 (s1 + (1 : Int32))) s2) - (1 : Int32)) ((((own_up (own_up (own_up (own_up (own_up (fun _ => 0) s0 (0 : Int32)) s1 (0 : Int32)) s0 (s1 + (1 : Int32))) s2 (0 : Int32)) s1 (s2 + (1 : Int32))) s2) - (1 : Int32)) + (1 : Int32))) s2 (0 : Int32)) s2 (0 : Int32)) s1 (s2 + (1 : Int32))) s0) - (1 : Int32)))])) (fun t kt => st399.trans kt) ?_
  refine own_thr (a := T399.setTop (mkF m 356 #[.val (.int p0), .val (.int p1), .val (.int p2), .val (.int p3), .val (.int p4), .val (.int p5), .val (.int n), .val (.int s0), .val (.int d1), .val (.int tt), .val (.int d2), .val (.int s1), .val (.int s2), .val (.int (3 : Int32)), .val (.int (1 : Int32)), .val (.int (2 : Int32)), .val (.ref b351), .val (.ref b359), .val (.ref b371), .val (.int (1 : Int32))] [(.int (1 : Int32)), (.ref b359), (.int (((own_up (own_up (own_up (own_up (own_up (own_up (own_up (own_up (own_up (fun _ => 0) s0 (0 : Int32)) s1 (0 : Int32)) s0 (s1 + (1 : Int32))) s2 (0 : Int32)) s1 (s2 + (1 : Int32))) (((own_up (own_up (own_up (fun _ => 0) s0 ((-1 : Int32) + (1 : Int32))) s1 (s0 + (1 : Int32))) s2 (s1 + (1 : Int32))) s2) - (1 : Int32)) ((((own_up (own_up (own_up (own_up (own_up (fun _ => 0) s0 (0 : Int32)) s1 (0 : Int32)) s0 (s1 + (1 : Int32))) s2 (0 : Int32)) s1 (s2 + (1 : Int32))) s2) - (1 : Int32)) + (1 : Int32))) s2 (0 : Int32)) s2 (0 : Int32)) s1 (s2 + (1 : Int32))) s0) - (1 : Int32)))])) (fun t kt => ?_) ?_
  · show Steps p.tables e below (T399.setTop (mkF m 347 #[.val (.int p0), .val (.int p1), .val (.int p2), .val (.int p3), .val (.int p4), .val (.int p5), .val (.int n), .val (.int s0), .val (.int d1), .val (.int tt), .val (.int d2), .val (.int s1), .val (.int s2), .val (.int (3 : Int32)), .val (.int (1 : Int32)), .val (.int (2 : Int32)), .val (.ref b351), .val (.ref b359), .val (.ref b371), .val (.int (1 : Int32))] [(.int (((own_up (own_up (own_up (own_up (own_up (own_up (own_up (own_up (own_up (fun _ => 0) s0 (0 : Int32)) s1 (0 : Int32)) s0 (s1 + (1 : Int32))) s2 (0 : Int32)) s1 (s2 + (1 : Int32))) (((own_up (own_up (own_up (fun _ => 0) s0 ((-1 : Int32) + (1 : Int32))) s1 (s0 + (1 : Int32))) s2 (s1 + (1 : Int32))) s2) - (1 : Int32)) ((((own_up (own_up (own_up (own_up (own_up (fun _ => 0) s0 (0 : Int32)) s1 (0 : Int32)) s0 (s1 + (1 : Int32))) s2 (0 : Int32)) s1 (s2 + (1 : Int32))) s2) - (1 : Int32)) + (1 : Int32))) s2 (0 : Int32)) s2 (0 : Int32)) s1 (s2 + (1 : Int32))) s0) - (1 : Int32)))])) _
    refine XS.iload X399.here hx rfl (hb hby at_347) rfl ?_
    refine XS.iconst X399.here hx rfl (hb hby at_349) ?_
    refine XS.icmpNo X399.here hx rfl (hb hby at_350) rfl (tlt (by decide)).2.2.2 ?_
    refine XS.aload X399.here hx rfl (hb hby at_353) rfl rfl ?_
    refine XS.iconst X399.here hx rfl (hb hby at_355) ?_
    exact kt
  obtain ⟨cl400, Ar400, -, S400, M400, H400, -⟩ := id c397
  have hin400 : ¬ ((1 : Int32) < 0 ∨ cl400.slots.size ≤ ((1 : Int32)).toNatClampNeg) := inb_of S400 ⟨by decide, by decide⟩
  have hat400 : cl400.slots[((1 : Int32)).toNatClampNeg]? = some (.int s1) := Has.at H400 hin400 rfl
  refine own_thr (a := T399.setTop (mkF m 387 #[.val (.int p0), .val (.int p1), .val (.int p2), .val (.int p3), .val (.int p4), .val (.int p5), .val (.int n), .val (.int s0), .val (.int d1), .val (.int tt), .val (.int d2), .val (.int s1), .val (.int s2), .val (.int (3 : Int32)), .val (.int (1 : Int32)), .val (.int (2 : Int32)), .val (.ref b351), .val (.ref b359), .val (.ref b371), .val (.int (1 : Int32))] [(.int (1 : Int32)), (.ref b359), (.ref b371)])) (fun t kt => ?_) ?_
  · show Steps p.tables e below (T399.setTop (mkF m 356 #[.val (.int p0), .val (.int p1), .val (.int p2), .val (.int p3), .val (.int p4), .val (.int p5), .val (.int n), .val (.int s0), .val (.int d1), .val (.int tt), .val (.int d2), .val (.int s1), .val (.int s2), .val (.int (3 : Int32)), .val (.int (1 : Int32)), .val (.int (2 : Int32)), .val (.ref b351), .val (.ref b359), .val (.ref b371), .val (.int (1 : Int32))] [(.int (1 : Int32)), (.ref b359), (.int (((own_up (own_up (own_up (own_up (own_up (own_up (own_up (own_up (own_up (fun _ => 0) s0 (0 : Int32)) s1 (0 : Int32)) s0 (s1 + (1 : Int32))) s2 (0 : Int32)) s1 (s2 + (1 : Int32))) (((own_up (own_up (own_up (fun _ => 0) s0 ((-1 : Int32) + (1 : Int32))) s1 (s0 + (1 : Int32))) s2 (s1 + (1 : Int32))) s2) - (1 : Int32)) ((((own_up (own_up (own_up (own_up (own_up (fun _ => 0) s0 (0 : Int32)) s1 (0 : Int32)) s0 (s1 + (1 : Int32))) s2 (0 : Int32)) s1 (s2 + (1 : Int32))) s2) - (1 : Int32)) + (1 : Int32))) s2 (0 : Int32)) s2 (0 : Int32)) s1 (s2 + (1 : Int32))) s0) - (1 : Int32)))])) _
    refine X399.iaload hx (j := (1 : Int32)) (v := (.int s1)) (by rw [e399]; exact Ar400.1) (State.isArrayOf_alike hZ.alike Ar400.2.1) Ar400.2.2 hin400 hat400 (g := (mkF m 356 #[.val (.int p0), .val (.int p1), .val (.int p2), .val (.int p3), .val (.int p4), .val (.int p5), .val (.int n), .val (.int s0), .val (.int d1), .val (.int tt), .val (.int d2), .val (.int s1), .val (.int s2), .val (.int (3 : Int32)), .val (.int (1 : Int32)), .val (.int (2 : Int32)), .val (.ref b351), .val (.ref b359), .val (.ref b371), .val (.int (1 : Int32))] [(.int (1 : Int32)), (.ref b359), (.int (((own_up (own_up (own_up (own_up (own_up (own_up (own_up (own_up (own_up (fun _ => 0) s0 (0 : Int32)) s1 (0 : Int32)) s0 (s1 + (1 : Int32))) s2 (0 : Int32)) s1 (s2 + (1 : Int32))) (((own_up (own_up (own_up (fun _ => 0) s0 ((-1 : Int32) + (1 : Int32))) s1 (s0 + (1 : Int32))) s2 (s1 + (1 : Int32))) s2) - (1 : Int32)) ((((own_up (own_up (own_up (own_up (own_up (fun _ => 0) s0 (0 : Int32)) s1 (0 : Int32)) s0 (s1 + (1 : Int32))) s2 (0 : Int32)) s1 (s2 + (1 : Int32))) s2) - (1 : Int32)) + (1 : Int32))) s2 (0 : Int32)) s2 (0 : Int32)) s1 (s2 + (1 : Int32))) s0) - (1 : Int32)))])) rfl rfl (hb hby at_356) _ ?_
    refine XS.goto X399.here hx rfl (pc0 := 357) (pc' := 361) rfl (hb hby at_357) (by decide) (by decide) ?_
    refine XS.icmpNo X399.here hx rfl (hb hby at_361) rfl (teq (by simp [own_up, own_as, n01, n10, n02, n20, n12, n21])).2 ?_
    refine XS.iconst X399.here hx rfl (hb hby at_364) ?_
    refine XS.goto X399.here hx rfl (pc0 := 365) (pc' := 369) rfl (hb hby at_365) (by decide) (by decide) ?_
    refine XS.istore X399.here hx rfl (hb hby at_369) rfl (l' := #[.val (.int p0), .val (.int p1), .val (.int p2), .val (.int p3), .val (.int p4), .val (.int p5), .val (.int n), .val (.int s0), .val (.int d1), .val (.int tt), .val (.int d2), .val (.int s1), .val (.int s2), .val (.int (3 : Int32)), .val (.int (1 : Int32)), .val (.int (2 : Int32)), .val (.ref b351), .val (.ref b359), .val (.ref b371), .val (.int (1 : Int32))]) rfl ?_
    refine XS.iload X399.here hx rfl (hb hby at_371) rfl ?_
    refine XS.iconst X399.here hx rfl (hb hby at_373) ?_
    refine XS.icmpNo X399.here hx rfl (hb hby at_374) rfl (tlt (by decide)).2.2.2 ?_
    refine XS.iload X399.here hx rfl (hb hby at_377) rfl ?_
    refine XS.ifNo X399.here hx rfl (hb hby at_379) rfl ((if0 _ _).trans (feq (by decide)).1) ?_
    refine XS.aload X399.here hx rfl (hb hby at_382) rfl rfl ?_
    refine XS.aload X399.here hx rfl (hb hby at_384) rfl rfl ?_
    refine XS.iconst X399.here hx rfl (hb hby at_386) ?_
    exact kt
  obtain ⟨cl401, Ar401, -, S401, M401, H401, -⟩ := id c397
  have hin401 : ¬ ((1 : Int32) < 0 ∨ cl401.slots.size ≤ ((1 : Int32)).toNatClampNeg) := inb_of S401 ⟨by decide, by decide⟩
  have hat401 : cl401.slots[((1 : Int32)).toNatClampNeg]? = some (.int s1) := Has.at H401 hin401 rfl
  refine own_thr (a := T399.setTop (mkF m 388 #[.val (.int p0), .val (.int p1), .val (.int p2), .val (.int p3), .val (.int p4), .val (.int p5), .val (.int n), .val (.int s0), .val (.int d1), .val (.int tt), .val (.int d2), .val (.int s1), .val (.int s2), .val (.int (3 : Int32)), .val (.int (1 : Int32)), .val (.int (2 : Int32)), .val (.ref b351), .val (.ref b359), .val (.ref b371), .val (.int (1 : Int32))] [(.int s1), (.ref b371)])) (fun t kt => ?_) ?_
  · show Steps p.tables e below (T399.setTop (mkF m 387 #[.val (.int p0), .val (.int p1), .val (.int p2), .val (.int p3), .val (.int p4), .val (.int p5), .val (.int n), .val (.int s0), .val (.int d1), .val (.int tt), .val (.int d2), .val (.int s1), .val (.int s2), .val (.int (3 : Int32)), .val (.int (1 : Int32)), .val (.int (2 : Int32)), .val (.ref b351), .val (.ref b359), .val (.ref b371), .val (.int (1 : Int32))] [(.int (1 : Int32)), (.ref b359), (.ref b371)])) _
    refine X399.iaload hx (j := (1 : Int32)) (v := (.int s1)) (by rw [e399]; exact Ar401.1) (State.isArrayOf_alike hZ.alike Ar401.2.1) Ar401.2.2 hin401 hat401 (g := (mkF m 387 #[.val (.int p0), .val (.int p1), .val (.int p2), .val (.int p3), .val (.int p4), .val (.int p5), .val (.int n), .val (.int s0), .val (.int d1), .val (.int tt), .val (.int d2), .val (.int s1), .val (.int s2), .val (.int (3 : Int32)), .val (.int (1 : Int32)), .val (.int (2 : Int32)), .val (.ref b351), .val (.ref b359), .val (.ref b371), .val (.int (1 : Int32))] [(.int (1 : Int32)), (.ref b359), (.ref b371)])) rfl rfl (hb hby at_387) _ ?_
    exact kt
  obtain ⟨cq402, kq402, q402a, q402b, q402c⟩ := isOf hZ e399 o393_0
  obtain ⟨_, _, ⟨T402, L402, k402, n402⟩, -, X402, ⟨Lc402, hQ402, l402, y402, z402⟩, st402⟩ := X399.virtualBack hx (y := (⟨"dev/chainlatch/bucket/Order", "after", "(I)I"⟩ : MethodName)) (z := (⟨"dev/chainlatch/bucket/Order", "after", "(I)I"⟩ : MethodName)) hown (mvT hZ (hw _ (List.mem_of_getElem? (i := 39) rfl))) (mvT hZ (hw _ (List.mem_of_getElem? (i := 40) rfl))) (notFace_of_selects (args := #[]) (mvT hZ (hw _ (List.mem_of_getElem? (i := 42) rfl)))) (mvT hZ (hw _ (List.mem_of_getElem? (i := 42) rfl))) (mvT hZ (hw _ (List.mem_of_getElem? (i := 41) rfl))) (by decide) (backOf (W := 0) (rmN l Z a0 hw [] b371 s1 A373 n (own_up (own_up (own_up (own_up (own_up (own_up (own_up (own_up (own_up (fun _ => 0) s0 (0 : Int32)) s1 (0 : Int32)) s0 (s1 + (1 : Int32))) s2 (0 : Int32)) s1 (s2 + (1 : Int32))) (((own_up (own_up (own_up (fun _ => 0) s0 ((-1 : Int32) + (1 : Int32))) s1 (s0 + (1 : Int32))) s2 (s1 + (1 : Int32))) s2) - (1 : Int32)) ((((own_up (own_up (own_up (own_up (own_up (fun _ => 0) s0 (0 : Int32)) s1 (0 : Int32)) s0 (s1 + (1 : Int32))) s2 (0 : Int32)) s1 (s2 + (1 : Int32))) s2) - (1 : Int32)) + (1 : Int32))) s2 (0 : Int32)) s2 (0 : Int32)) s1 (s2 + (1 : Int32))) T393.heap n0 Z394 o393_4 o393_6 hs10 hs11) hZ (hw _ (List.mem_of_getElem? (i := 43) rfl)) (hw _ (List.mem_of_getElem? (i := 5) rfl)) (by decide) (by decide)) q402a q402c (g := (mkF m 388 #[.val (.int p0), .val (.int p1), .val (.int p2), .val (.int p3), .val (.int p4), .val (.int p5), .val (.int n), .val (.int s0), .val (.int d1), .val (.int tt), .val (.int d2), .val (.int s1), .val (.int s2), .val (.int (3 : Int32)), .val (.int (1 : Int32)), .val (.int (2 : Int32)), .val (.ref b351), .val (.ref b359), .val (.ref b371), .val (.int (1 : Int32))] [(.int s1), (.ref b371)])) rfl (by rw [hml]; rfl) (Steps.refl _) (argsL := [(.int s1)]) (rest := []) (lenOf pd__28I_29I rfl) rfl (by show 2 * 0 + _ ≤ _; exact Nat.le_of_eq rfl) (hb hby at_388) (fun _ _ => ⟨rfl, e399, (by decide : 5 + 0 ≤ _), (by decide : 30 + 0 ≤ _)⟩)
  dsimp only [Pt.U, Pt.locs, Pt.cells, Pt.slots] at X402 l402 y402 z402 st402 hQ402
  obtain ⟨rfl, N402q, e402⟩ := hQ402
  obtain ⟨lc402, X402, N402⟩ := own_pack X402 l402 y402 z402 N399 N402q (C := 5) (S' := 30) rfl rfl
  refine own_thr (a := T402.setTop (mkF m 391 #[.val (.int p0), .val (.int p1), .val (.int p2), .val (.int p3), .val (.int p4), .val (.int p5), .val (.int n), .val (.int s0), .val (.int d1), .val (.int tt), .val (.int d2), .val (.int s1), .val (.int s2), .val (.int (3 : Int32)), .val (.int (1 : Int32)), .val (.int (2 : Int32)), .val (.ref b351), .val (.ref b359), .val (.ref b371), .val (.int (1 : Int32))] [(.int (((own_up (own_up (own_up (own_up (own_up (own_up (own_up (own_up (own_up (fun _ => 0) s0 (0 : Int32)) s1 (0 : Int32)) s0 (s1 + (1 : Int32))) s2 (0 : Int32)) s1 (s2 + (1 : Int32))) (((own_up (own_up (own_up (fun _ => 0) s0 ((-1 : Int32) + (1 : Int32))) s1 (s0 + (1 : Int32))) s2 (s1 + (1 : Int32))) s2) - (1 : Int32)) ((((own_up (own_up (own_up (own_up (own_up (fun _ => 0) s0 (0 : Int32)) s1 (0 : Int32)) s0 (s1 + (1 : Int32))) s2 (0 : Int32)) s1 (s2 + (1 : Int32))) s2) - (1 : Int32)) + (1 : Int32))) s2 (0 : Int32)) s2 (0 : Int32)) s1 (s2 + (1 : Int32))) s1) - (1 : Int32)))])) (fun t kt => st402.trans kt) ?_
  refine own_thr (a := T402.setTop (mkF m 400 #[.val (.int p0), .val (.int p1), .val (.int p2), .val (.int p3), .val (.int p4), .val (.int p5), .val (.int n), .val (.int s0), .val (.int d1), .val (.int tt), .val (.int d2), .val (.int s1), .val (.int s2), .val (.int (3 : Int32)), .val (.int (1 : Int32)), .val (.int (2 : Int32)), .val (.ref b351), .val (.ref b359), .val (.ref b371), .val (.int (1 : Int32))] [(.int (2 : Int32)), (.ref b359), (.int (((own_up (own_up (own_up (own_up (own_up (own_up (own_up (own_up (own_up (fun _ => 0) s0 (0 : Int32)) s1 (0 : Int32)) s0 (s1 + (1 : Int32))) s2 (0 : Int32)) s1 (s2 + (1 : Int32))) (((own_up (own_up (own_up (fun _ => 0) s0 ((-1 : Int32) + (1 : Int32))) s1 (s0 + (1 : Int32))) s2 (s1 + (1 : Int32))) s2) - (1 : Int32)) ((((own_up (own_up (own_up (own_up (own_up (fun _ => 0) s0 (0 : Int32)) s1 (0 : Int32)) s0 (s1 + (1 : Int32))) s2 (0 : Int32)) s1 (s2 + (1 : Int32))) s2) - (1 : Int32)) + (1 : Int32))) s2 (0 : Int32)) s2 (0 : Int32)) s1 (s2 + (1 : Int32))) s1) - (1 : Int32)))])) (fun t kt => ?_) ?_
  · show Steps p.tables e below (T402.setTop (mkF m 391 #[.val (.int p0), .val (.int p1), .val (.int p2), .val (.int p3), .val (.int p4), .val (.int p5), .val (.int n), .val (.int s0), .val (.int d1), .val (.int tt), .val (.int d2), .val (.int s1), .val (.int s2), .val (.int (3 : Int32)), .val (.int (1 : Int32)), .val (.int (2 : Int32)), .val (.ref b351), .val (.ref b359), .val (.ref b371), .val (.int (1 : Int32))] [(.int (((own_up (own_up (own_up (own_up (own_up (own_up (own_up (own_up (own_up (fun _ => 0) s0 (0 : Int32)) s1 (0 : Int32)) s0 (s1 + (1 : Int32))) s2 (0 : Int32)) s1 (s2 + (1 : Int32))) (((own_up (own_up (own_up (fun _ => 0) s0 ((-1 : Int32) + (1 : Int32))) s1 (s0 + (1 : Int32))) s2 (s1 + (1 : Int32))) s2) - (1 : Int32)) ((((own_up (own_up (own_up (own_up (own_up (fun _ => 0) s0 (0 : Int32)) s1 (0 : Int32)) s0 (s1 + (1 : Int32))) s2 (0 : Int32)) s1 (s2 + (1 : Int32))) s2) - (1 : Int32)) + (1 : Int32))) s2 (0 : Int32)) s2 (0 : Int32)) s1 (s2 + (1 : Int32))) s1) - (1 : Int32)))])) _
    refine XS.iload X402.here hx rfl (hb hby at_391) rfl ?_
    refine XS.iconst X402.here hx rfl (hb hby at_393) ?_
    refine XS.icmpNo X402.here hx rfl (hb hby at_394) rfl (tlt (by decide)).2.2.2 ?_
    refine XS.aload X402.here hx rfl (hb hby at_397) rfl rfl ?_
    refine XS.iconst X402.here hx rfl (hb hby at_399) ?_
    exact kt
  obtain ⟨cl403, Ar403, -, S403, M403, H403, -⟩ := id c397
  have hin403 : ¬ ((2 : Int32) < 0 ∨ cl403.slots.size ≤ ((2 : Int32)).toNatClampNeg) := inb_of S403 ⟨by decide, by decide⟩
  have hat403 : cl403.slots[((2 : Int32)).toNatClampNeg]? = some (.int s2) := Has.at H403 hin403 rfl
  refine own_thr (a := T402.setTop (mkF m 431 #[.val (.int p0), .val (.int p1), .val (.int p2), .val (.int p3), .val (.int p4), .val (.int p5), .val (.int n), .val (.int s0), .val (.int d1), .val (.int tt), .val (.int d2), .val (.int s1), .val (.int s2), .val (.int (3 : Int32)), .val (.int (1 : Int32)), .val (.int (2 : Int32)), .val (.ref b351), .val (.ref b359), .val (.ref b371), .val (.int (1 : Int32))] [(.int (2 : Int32)), (.ref b359), (.ref b371)])) (fun t kt => ?_) ?_
  · show Steps p.tables e below (T402.setTop (mkF m 400 #[.val (.int p0), .val (.int p1), .val (.int p2), .val (.int p3), .val (.int p4), .val (.int p5), .val (.int n), .val (.int s0), .val (.int d1), .val (.int tt), .val (.int d2), .val (.int s1), .val (.int s2), .val (.int (3 : Int32)), .val (.int (1 : Int32)), .val (.int (2 : Int32)), .val (.ref b351), .val (.ref b359), .val (.ref b371), .val (.int (1 : Int32))] [(.int (2 : Int32)), (.ref b359), (.int (((own_up (own_up (own_up (own_up (own_up (own_up (own_up (own_up (own_up (fun _ => 0) s0 (0 : Int32)) s1 (0 : Int32)) s0 (s1 + (1 : Int32))) s2 (0 : Int32)) s1 (s2 + (1 : Int32))) (((own_up (own_up (own_up (fun _ => 0) s0 ((-1 : Int32) + (1 : Int32))) s1 (s0 + (1 : Int32))) s2 (s1 + (1 : Int32))) s2) - (1 : Int32)) ((((own_up (own_up (own_up (own_up (own_up (fun _ => 0) s0 (0 : Int32)) s1 (0 : Int32)) s0 (s1 + (1 : Int32))) s2 (0 : Int32)) s1 (s2 + (1 : Int32))) s2) - (1 : Int32)) + (1 : Int32))) s2 (0 : Int32)) s2 (0 : Int32)) s1 (s2 + (1 : Int32))) s1) - (1 : Int32)))])) _
    refine X402.iaload hx (j := (2 : Int32)) (v := (.int s2)) (by rw [e402]; exact Ar403.1) (State.isArrayOf_alike hZ.alike Ar403.2.1) Ar403.2.2 hin403 hat403 (g := (mkF m 400 #[.val (.int p0), .val (.int p1), .val (.int p2), .val (.int p3), .val (.int p4), .val (.int p5), .val (.int n), .val (.int s0), .val (.int d1), .val (.int tt), .val (.int d2), .val (.int s1), .val (.int s2), .val (.int (3 : Int32)), .val (.int (1 : Int32)), .val (.int (2 : Int32)), .val (.ref b351), .val (.ref b359), .val (.ref b371), .val (.int (1 : Int32))] [(.int (2 : Int32)), (.ref b359), (.int (((own_up (own_up (own_up (own_up (own_up (own_up (own_up (own_up (own_up (fun _ => 0) s0 (0 : Int32)) s1 (0 : Int32)) s0 (s1 + (1 : Int32))) s2 (0 : Int32)) s1 (s2 + (1 : Int32))) (((own_up (own_up (own_up (fun _ => 0) s0 ((-1 : Int32) + (1 : Int32))) s1 (s0 + (1 : Int32))) s2 (s1 + (1 : Int32))) s2) - (1 : Int32)) ((((own_up (own_up (own_up (own_up (own_up (fun _ => 0) s0 (0 : Int32)) s1 (0 : Int32)) s0 (s1 + (1 : Int32))) s2 (0 : Int32)) s1 (s2 + (1 : Int32))) s2) - (1 : Int32)) + (1 : Int32))) s2 (0 : Int32)) s2 (0 : Int32)) s1 (s2 + (1 : Int32))) s1) - (1 : Int32)))])) rfl rfl (hb hby at_400) _ ?_
    refine XS.goto X402.here hx rfl (pc0 := 401) (pc' := 405) rfl (hb hby at_401) (by decide) (by decide) ?_
    refine XS.icmpNo X402.here hx rfl (hb hby at_405) rfl (teq (by simp [own_up, own_as, n01, n10, n02, n20, n12, n21])).2 ?_
    refine XS.iconst X402.here hx rfl (hb hby at_408) ?_
    refine XS.goto X402.here hx rfl (pc0 := 409) (pc' := 413) rfl (hb hby at_409) (by decide) (by decide) ?_
    refine XS.istore X402.here hx rfl (hb hby at_413) rfl (l' := #[.val (.int p0), .val (.int p1), .val (.int p2), .val (.int p3), .val (.int p4), .val (.int p5), .val (.int n), .val (.int s0), .val (.int d1), .val (.int tt), .val (.int d2), .val (.int s1), .val (.int s2), .val (.int (3 : Int32)), .val (.int (1 : Int32)), .val (.int (2 : Int32)), .val (.ref b351), .val (.ref b359), .val (.ref b371), .val (.int (1 : Int32))]) rfl ?_
    refine XS.iload X402.here hx rfl (hb hby at_415) rfl ?_
    refine XS.iconst X402.here hx rfl (hb hby at_417) ?_
    refine XS.icmpNo X402.here hx rfl (hb hby at_418) rfl (tlt (by decide)).2.2.2 ?_
    refine XS.iload X402.here hx rfl (hb hby at_421) rfl ?_
    refine XS.ifNo X402.here hx rfl (hb hby at_423) rfl ((if0 _ _).trans (feq (by decide)).1) ?_
    refine XS.aload X402.here hx rfl (hb hby at_426) rfl rfl ?_
    refine XS.aload X402.here hx rfl (hb hby at_428) rfl rfl ?_
    refine XS.iconst X402.here hx rfl (hb hby at_430) ?_
    exact kt
  obtain ⟨cl404, Ar404, -, S404, M404, H404, -⟩ := id c397
  have hin404 : ¬ ((2 : Int32) < 0 ∨ cl404.slots.size ≤ ((2 : Int32)).toNatClampNeg) := inb_of S404 ⟨by decide, by decide⟩
  have hat404 : cl404.slots[((2 : Int32)).toNatClampNeg]? = some (.int s2) := Has.at H404 hin404 rfl
  refine own_thr (a := T402.setTop (mkF m 432 #[.val (.int p0), .val (.int p1), .val (.int p2), .val (.int p3), .val (.int p4), .val (.int p5), .val (.int n), .val (.int s0), .val (.int d1), .val (.int tt), .val (.int d2), .val (.int s1), .val (.int s2), .val (.int (3 : Int32)), .val (.int (1 : Int32)), .val (.int (2 : Int32)), .val (.ref b351), .val (.ref b359), .val (.ref b371), .val (.int (1 : Int32))] [(.int s2), (.ref b371)])) (fun t kt => ?_) ?_
  · show Steps p.tables e below (T402.setTop (mkF m 431 #[.val (.int p0), .val (.int p1), .val (.int p2), .val (.int p3), .val (.int p4), .val (.int p5), .val (.int n), .val (.int s0), .val (.int d1), .val (.int tt), .val (.int d2), .val (.int s1), .val (.int s2), .val (.int (3 : Int32)), .val (.int (1 : Int32)), .val (.int (2 : Int32)), .val (.ref b351), .val (.ref b359), .val (.ref b371), .val (.int (1 : Int32))] [(.int (2 : Int32)), (.ref b359), (.ref b371)])) _
    refine X402.iaload hx (j := (2 : Int32)) (v := (.int s2)) (by rw [e402]; exact Ar404.1) (State.isArrayOf_alike hZ.alike Ar404.2.1) Ar404.2.2 hin404 hat404 (g := (mkF m 431 #[.val (.int p0), .val (.int p1), .val (.int p2), .val (.int p3), .val (.int p4), .val (.int p5), .val (.int n), .val (.int s0), .val (.int d1), .val (.int tt), .val (.int d2), .val (.int s1), .val (.int s2), .val (.int (3 : Int32)), .val (.int (1 : Int32)), .val (.int (2 : Int32)), .val (.ref b351), .val (.ref b359), .val (.ref b371), .val (.int (1 : Int32))] [(.int (2 : Int32)), (.ref b359), (.ref b371)])) rfl rfl (hb hby at_431) _ ?_
    exact kt
  obtain ⟨cq405, kq405, q405a, q405b, q405c⟩ := isOf hZ e402 o393_0
  obtain ⟨_, _, ⟨T405, L405, k405, n405⟩, -, X405, ⟨Lc405, hQ405, l405, y405, z405⟩, st405⟩ := X402.virtualBack hx (y := (⟨"dev/chainlatch/bucket/Order", "after", "(I)I"⟩ : MethodName)) (z := (⟨"dev/chainlatch/bucket/Order", "after", "(I)I"⟩ : MethodName)) hown (mvT hZ (hw _ (List.mem_of_getElem? (i := 39) rfl))) (mvT hZ (hw _ (List.mem_of_getElem? (i := 40) rfl))) (notFace_of_selects (args := #[]) (mvT hZ (hw _ (List.mem_of_getElem? (i := 42) rfl)))) (mvT hZ (hw _ (List.mem_of_getElem? (i := 42) rfl))) (mvT hZ (hw _ (List.mem_of_getElem? (i := 41) rfl))) (by decide) (backOf (W := 0) (rmN l Z a0 hw [] b371 s2 A373 n (own_up (own_up (own_up (own_up (own_up (own_up (own_up (own_up (own_up (fun _ => 0) s0 (0 : Int32)) s1 (0 : Int32)) s0 (s1 + (1 : Int32))) s2 (0 : Int32)) s1 (s2 + (1 : Int32))) (((own_up (own_up (own_up (fun _ => 0) s0 ((-1 : Int32) + (1 : Int32))) s1 (s0 + (1 : Int32))) s2 (s1 + (1 : Int32))) s2) - (1 : Int32)) ((((own_up (own_up (own_up (own_up (own_up (fun _ => 0) s0 (0 : Int32)) s1 (0 : Int32)) s0 (s1 + (1 : Int32))) s2 (0 : Int32)) s1 (s2 + (1 : Int32))) s2) - (1 : Int32)) + (1 : Int32))) s2 (0 : Int32)) s2 (0 : Int32)) s1 (s2 + (1 : Int32))) T393.heap n0 Z394 o393_4 o393_6 hs20 hs21) hZ (hw _ (List.mem_of_getElem? (i := 43) rfl)) (hw _ (List.mem_of_getElem? (i := 5) rfl)) (by decide) (by decide)) q405a q405c (g := (mkF m 432 #[.val (.int p0), .val (.int p1), .val (.int p2), .val (.int p3), .val (.int p4), .val (.int p5), .val (.int n), .val (.int s0), .val (.int d1), .val (.int tt), .val (.int d2), .val (.int s1), .val (.int s2), .val (.int (3 : Int32)), .val (.int (1 : Int32)), .val (.int (2 : Int32)), .val (.ref b351), .val (.ref b359), .val (.ref b371), .val (.int (1 : Int32))] [(.int s2), (.ref b371)])) rfl (by rw [hml]; rfl) (Steps.refl _) (argsL := [(.int s2)]) (rest := []) (lenOf pd__28I_29I rfl) rfl (by show 2 * 0 + _ ≤ _; exact Nat.le_of_eq rfl) (hb hby at_432) (fun _ _ => ⟨rfl, e402, (by decide : 5 + 0 ≤ _), (by decide : 30 + 0 ≤ _)⟩)
  dsimp only [Pt.U, Pt.locs, Pt.cells, Pt.slots] at X405 l405 y405 z405 st405 hQ405
  obtain ⟨rfl, N405q, e405⟩ := hQ405
  obtain ⟨lc405, X405, N405⟩ := own_pack X405 l405 y405 z405 N402 N405q (C := 5) (S' := 30) rfl rfl
  refine own_thr (a := T405.setTop (mkF m 435 #[.val (.int p0), .val (.int p1), .val (.int p2), .val (.int p3), .val (.int p4), .val (.int p5), .val (.int n), .val (.int s0), .val (.int d1), .val (.int tt), .val (.int d2), .val (.int s1), .val (.int s2), .val (.int (3 : Int32)), .val (.int (1 : Int32)), .val (.int (2 : Int32)), .val (.ref b351), .val (.ref b359), .val (.ref b371), .val (.int (1 : Int32))] [(.int (((own_up (own_up (own_up (own_up (own_up (own_up (own_up (own_up (own_up (fun _ => 0) s0 (0 : Int32)) s1 (0 : Int32)) s0 (s1 + (1 : Int32))) s2 (0 : Int32)) s1 (s2 + (1 : Int32))) (((own_up (own_up (own_up (fun _ => 0) s0 ((-1 : Int32) + (1 : Int32))) s1 (s0 + (1 : Int32))) s2 (s1 + (1 : Int32))) s2) - (1 : Int32)) ((((own_up (own_up (own_up (own_up (own_up (fun _ => 0) s0 (0 : Int32)) s1 (0 : Int32)) s0 (s1 + (1 : Int32))) s2 (0 : Int32)) s1 (s2 + (1 : Int32))) s2) - (1 : Int32)) + (1 : Int32))) s2 (0 : Int32)) s2 (0 : Int32)) s1 (s2 + (1 : Int32))) s2) - (1 : Int32)))])) (fun t kt => st405.trans kt) ?_
  refine own_thr (a := T405.setTop (mkF m 448 #[.val (.int p0), .val (.int p1), .val (.int p2), .val (.int p3), .val (.int p4), .val (.int p5), .val (.int n), .val (.int s0), .val (.int d1), .val (.int tt), .val (.int d2), .val (.int s1), .val (.int s2), .val (.int (3 : Int32)), .val (.int (1 : Int32)), .val (.int (2 : Int32)), .val (.ref b351), .val (.ref b359), .val (.ref b371), .val (.int (1 : Int32))] [(.int (1 : Int32))])) (fun t kt => ?_) ?_
  · show Steps p.tables e below (T405.setTop (mkF m 435 #[.val (.int p0), .val (.int p1), .val (.int p2), .val (.int p3), .val (.int p4), .val (.int p5), .val (.int n), .val (.int s0), .val (.int d1), .val (.int tt), .val (.int d2), .val (.int s1), .val (.int s2), .val (.int (3 : Int32)), .val (.int (1 : Int32)), .val (.int (2 : Int32)), .val (.ref b351), .val (.ref b359), .val (.ref b371), .val (.int (1 : Int32))] [(.int (((own_up (own_up (own_up (own_up (own_up (own_up (own_up (own_up (own_up (fun _ => 0) s0 (0 : Int32)) s1 (0 : Int32)) s0 (s1 + (1 : Int32))) s2 (0 : Int32)) s1 (s2 + (1 : Int32))) (((own_up (own_up (own_up (fun _ => 0) s0 ((-1 : Int32) + (1 : Int32))) s1 (s0 + (1 : Int32))) s2 (s1 + (1 : Int32))) s2) - (1 : Int32)) ((((own_up (own_up (own_up (own_up (own_up (fun _ => 0) s0 (0 : Int32)) s1 (0 : Int32)) s0 (s1 + (1 : Int32))) s2 (0 : Int32)) s1 (s2 + (1 : Int32))) s2) - (1 : Int32)) + (1 : Int32))) s2 (0 : Int32)) s2 (0 : Int32)) s1 (s2 + (1 : Int32))) s2) - (1 : Int32)))])) _
    refine XS.iconst X405.here hx rfl (hb hby at_435) ?_
    refine XS.icmpNo X405.here hx rfl (hb hby at_436) rfl (teq (by simp [own_up, own_as, n01, n10, n02, n20, n12, n21])).2 ?_
    refine XS.iconst X405.here hx rfl (hb hby at_439) ?_
    refine XS.goto X405.here hx rfl (pc0 := 440) (pc' := 444) rfl (hb hby at_440) (by decide) (by decide) ?_
    refine XS.istore X405.here hx rfl (hb hby at_444) rfl (l' := #[.val (.int p0), .val (.int p1), .val (.int p2), .val (.int p3), .val (.int p4), .val (.int p5), .val (.int n), .val (.int s0), .val (.int d1), .val (.int tt), .val (.int d2), .val (.int s1), .val (.int s2), .val (.int (3 : Int32)), .val (.int (1 : Int32)), .val (.int (2 : Int32)), .val (.ref b351), .val (.ref b359), .val (.ref b371), .val (.int (1 : Int32))]) rfl ?_
    refine XS.iload X405.here hx rfl (hb hby at_446) rfl ?_
    exact kt
  exact own_end X405 hlk (v := some (.int (1 : Int32))) (fun h => by rw [hret] at h; cases h) (fun fs hr => retN X405 hx (t := .boolean) hret (by simp) (hb hby at_448) hr) ⟨rfl, N405⟩ (by decide : 5 ≤ _) (by decide : 30 ≤ _)
theorem pn_dev_chainlatch_bucket_OrderAppendPinLaw : plainName "dev/chainlatch/bucket/OrderAppendPinLaw" = true := by first | (simp [plainName, overriddenIn]; done) | decide +kernel
theorem ef_rm0 (m : MethodId) (p0 : Int32) (p1 : Int32) (p2 : Int32) (p3 : Int32) (p4 : Int32) (p5 : Int32)  : entryFrame m #[(.int p0), (.int p1), (.int p2), (.int p3), (.int p4), (.int p5)] maxLocals = mkF m 0 #[.val (.int p0), .val (.int p1), .val (.int p2), .val (.int p3), .val (.int p4), .val (.int p5), .unset, .unset, .unset, .unset, .unset, .unset, .unset, .unset, .unset, .unset, .unset, .unset, .unset, .unset] [] := by first |  (simp [entryFrame, mkF, argsToLocals, Value.category, maxLocals]; done) | rfl
set_option maxRecDepth 65536 in
set_option maxHeartbeats 40000000 in
theorem rm0 (l : Launch) (Z : State) (a0 : Array Value) (hw : ∀ d ∈ tables_1, d.before a0 Z = true) (ws : List Jvm.Cond) (p0 : Int32) (p1 : Int32) (p2 : Int32) (p3 : Int32) (p4 : Int32) (p5 : Int32) (h0 : Heap) (n0 : Nat) (Z0 : n0 ≤ h0.size) :
    MetFree l x (head1 (Jvm.Cond.code x code maxLocals ret :: ws) room_1) (fun a U => a = #[(.int p0), (.int p1), (.int p2), (.int p3), (.int p4), (.int p5)] ∧ Z.Warmed39 U.vm ∧ U.heap = h0) (fun _ _ _ _ _ => True) (fun _ U o U' => ∃ v L, o = .returned v ∧ Q0 Z p0 p1 p2 p3 p4 p5 h0 n0 v U'.heap L ∧ FrameEnd U o U' L room_1.cells room_1.slots) := by
  refine MetFree.of_bodySF (plainFor_of_name pn_dev_chainlatch_bucket_OrderAppendPinLaw) hisR ?_
  intro p e s m args below meth c s₁ Bd hml0 hP hK
  obtain ⟨rfl, hZ, hh⟩ := hP
  have hx := Bd.exec
  have hby := Bd.bytes
  have hml : c.maxLocals = 20 := hml0
  have hown : s.vm.findClass "dev/chainlatch/bucket/OrderAppendPinLaw" = some m.cls := findClass_of_methodNamed Bd.named
  have hnm := (name_of_methodNamed Bd.named Bd.method).1
  have hlk := Bd.notSynchronized
  have X0 : Stand p l e room_1 s m #[(.int p0), (.int p1), (.int p2), (.int p3), (.int p4), (.int p5)] below meth c s₁ [] 0 0 := Stand.of_body Bd
  have e0 : s₁.heap = h0 := by rw [← hh, Bd.state]; rfl
  have N0 := Fr.nil n0
  show own_G p.tables e below s (Q0 Z p0 p1 p2 p3 p4 p5 h0 n0) room_1.cells room_1.slots _
  refine own_thr (a := s₁.setTop (mkF m 0 #[.val (.int p0), .val (.int p1), .val (.int p2), .val (.int p3), .val (.int p4), .val (.int p5), .unset, .unset, .unset, .unset, .unset, .unset, .unset, .unset, .unset, .unset, .unset, .unset, .unset, .unset] [])) (fun t kt => castTop (ef_rm0 m p0 p1 p2 p3 p4 p5) kt) ?_
  refine own_thr (a := s₁.setTop (mkF m 8 #[.val (.int p0), .val (.int p1), .val (.int p2), .val (.int p3), .val (.int p4), .val (.int p5), .val (.int ((3 : Int32) + (p0 &&& (7 : Int32)))), .unset, .unset, .unset, .unset, .unset, .unset, .unset, .unset, .unset, .unset, .unset, .unset, .unset] [])) (fun t kt => ?_) ?_
  · show Steps p.tables e below (s₁.setTop (mkF m 0 #[.val (.int p0), .val (.int p1), .val (.int p2), .val (.int p3), .val (.int p4), .val (.int p5), .unset, .unset, .unset, .unset, .unset, .unset, .unset, .unset, .unset, .unset, .unset, .unset, .unset, .unset] [])) _
    refine XS.iconst X0.here hx rfl (hb hby at_0) ?_
    refine XS.iloadN X0.here hx rfl (hb hby at_1) rfl ?_
    refine XS.bipush X0.here hx rfl (hb hby at_2) ?_
    refine XS.iand X0.here hx rfl (hb hby at_4) rfl ?_
    refine XS.iadd X0.here hx rfl (hb hby at_5) rfl ?_
    refine XS.istore X0.here hx rfl (hb hby at_6) rfl (l' := #[.val (.int p0), .val (.int p1), .val (.int p2), .val (.int p3), .val (.int p4), .val (.int p5), .val (.int ((3 : Int32) + (p0 &&& (7 : Int32)))), .unset, .unset, .unset, .unset, .unset, .unset, .unset, .unset, .unset, .unset, .unset, .unset, .unset]) rfl ?_
    exact kt
  obtain ⟨n, e_n⟩ : ∃ z, z = ((3 : Int32) + (p0 &&& (7 : Int32))) := ⟨_, rfl⟩
  rw [← e_n]
  have Hn : 3 ≤ n.toInt ∧ n.toInt ≤ 10 := by rw [e_n]; exact own_n p0
  refine own_thr (a := s₁.setTop (mkF m 17 #[.val (.int p0), .val (.int p1), .val (.int p2), .val (.int p3), .val (.int p4), .val (.int p5), .val (.int n), .val (.int ((p1 &&& (2147483647 : Int32)) % n)), .unset, .unset, .unset, .unset, .unset, .unset, .unset, .unset, .unset, .unset, .unset, .unset] [])) (fun t kt => ?_) ?_
  · show Steps p.tables e below (s₁.setTop (mkF m 8 #[.val (.int p0), .val (.int p1), .val (.int p2), .val (.int p3), .val (.int p4), .val (.int p5), .val (.int n), .unset, .unset, .unset, .unset, .unset, .unset, .unset, .unset, .unset, .unset, .unset, .unset, .unset] [])) _
    refine XS.iloadN X0.here hx rfl (hb hby at_8) rfl ?_
    refine X0.ldcInt hx hown (mvT hZ (hw _ (List.mem_of_getElem? (i := 0) rfl))) (g := (mkF m 9 #[.val (.int p0), .val (.int p1), .val (.int p2), .val (.int p3), .val (.int p4), .val (.int p5), .val (.int n), .unset, .unset, .unset, .unset, .unset, .unset, .unset, .unset, .unset, .unset, .unset, .unset, .unset] [(.int p1)])) rfl (hb hby at_9) _ ?_
    refine XS.iand X0.here hx rfl (hb hby at_11) rfl ?_
    refine XS.iload X0.here hx rfl (hb hby at_12) rfl ?_
    refine iremM X0 hx rfl (hb hby at_14) rfl (own_nz Hn) ?_
    refine XS.istore X0.here hx rfl (hb hby at_15) rfl (l' := #[.val (.int p0), .val (.int p1), .val (.int p2), .val (.int p3), .val (.int p4), .val (.int p5), .val (.int n), .val (.int ((p1 &&& (2147483647 : Int32)) % n)), .unset, .unset, .unset, .unset, .unset, .unset, .unset, .unset, .unset, .unset, .unset, .unset]) rfl ?_
    exact kt
  obtain ⟨s0, e_s0⟩ : ∃ z, z = ((p1 &&& (2147483647 : Int32)) % n) := ⟨_, rfl⟩
  rw [← e_s0]
  have H0 : 0 ≤ s0.toInt ∧ s0.toInt < n.toInt := by rw [e_s0]; exact own_md p1 n (by omega)
  refine own_thr (a := s₁.setTop (mkF m 30 #[.val (.int p0), .val (.int p1), .val (.int p2), .val (.int p3), .val (.int p4), .val (.int p5), .val (.int n), .val (.int s0), .val (.int ((1 : Int32) + ((p2 &&& (2147483647 : Int32)) % (n - (1 : Int32))))), .unset, .unset, .unset, .unset, .unset, .unset, .unset, .unset, .unset, .unset, .unset] [])) (fun t kt => ?_) ?_
  · show Steps p.tables e below (s₁.setTop (mkF m 17 #[.val (.int p0), .val (.int p1), .val (.int p2), .val (.int p3), .val (.int p4), .val (.int p5), .val (.int n), .val (.int s0), .unset, .unset, .unset, .unset, .unset, .unset, .unset, .unset, .unset, .unset, .unset, .unset] [])) _
    refine XS.iconst X0.here hx rfl (hb hby at_17) ?_
    refine XS.iloadN X0.here hx rfl (hb hby at_18) rfl ?_
    refine X0.ldcInt hx hown (mvT hZ (hw _ (List.mem_of_getElem? (i := 0) rfl))) (g := (mkF m 19 #[.val (.int p0), .val (.int p1), .val (.int p2), .val (.int p3), .val (.int p4), .val (.int p5), .val (.int n), .val (.int s0), .unset, .unset, .unset, .unset, .unset, .unset, .unset, .unset, .unset, .unset, .unset, .unset] [(.int p2), (.int (1 : Int32))])) rfl (hb hby at_19) _ ?_
    refine XS.iand X0.here hx rfl (hb hby at_21) rfl ?_
    refine XS.iload X0.here hx rfl (hb hby at_22) rfl ?_
    refine XS.iconst X0.here hx rfl (hb hby at_24) ?_
    refine XS.isub X0.here hx rfl (hb hby at_25) rfl ?_
    refine iremM X0 hx rfl (hb hby at_26) rfl (own_nzc 1 Hn (by decide)) ?_
    refine XS.iadd X0.here hx rfl (hb hby at_27) rfl ?_
    refine XS.istore X0.here hx rfl (hb hby at_28) rfl (l' := #[.val (.int p0), .val (.int p1), .val (.int p2), .val (.int p3), .val (.int p4), .val (.int p5), .val (.int n), .val (.int s0), .val (.int ((1 : Int32) + ((p2 &&& (2147483647 : Int32)) % (n - (1 : Int32))))), .unset, .unset, .unset, .unset, .unset, .unset, .unset, .unset, .unset, .unset, .unset]) rfl ?_
    exact kt
  obtain ⟨d1, e_d1⟩ : ∃ z, z = ((1 : Int32) + ((p2 &&& (2147483647 : Int32)) % (n - (1 : Int32)))) := ⟨_, rfl⟩
  rw [← e_d1]
  have Hd1 : 1 ≤ d1.toInt ∧ d1.toInt ≤ n.toInt - 1 := by rw [e_d1]; exact own_d 1 p2 Hn (by decide)
  refine own_thr (a := s₁.setTop (mkF m 43 #[.val (.int p0), .val (.int p1), .val (.int p2), .val (.int p3), .val (.int p4), .val (.int p5), .val (.int n), .val (.int s0), .val (.int d1), .val (.int ((1 : Int32) + ((p3 &&& (2147483647 : Int32)) % (n - (2 : Int32))))), .unset, .unset, .unset, .unset, .unset, .unset, .unset, .unset, .unset, .unset] [])) (fun t kt => ?_) ?_
  · show Steps p.tables e below (s₁.setTop (mkF m 30 #[.val (.int p0), .val (.int p1), .val (.int p2), .val (.int p3), .val (.int p4), .val (.int p5), .val (.int n), .val (.int s0), .val (.int d1), .unset, .unset, .unset, .unset, .unset, .unset, .unset, .unset, .unset, .unset, .unset] [])) _
    refine XS.iconst X0.here hx rfl (hb hby at_30) ?_
    refine XS.iloadN X0.here hx rfl (hb hby at_31) rfl ?_
    refine X0.ldcInt hx hown (mvT hZ (hw _ (List.mem_of_getElem? (i := 0) rfl))) (g := (mkF m 32 #[.val (.int p0), .val (.int p1), .val (.int p2), .val (.int p3), .val (.int p4), .val (.int p5), .val (.int n), .val (.int s0), .val (.int d1), .unset, .unset, .unset, .unset, .unset, .unset, .unset, .unset, .unset, .unset, .unset] [(.int p3), (.int (1 : Int32))])) rfl (hb hby at_32) _ ?_
    refine XS.iand X0.here hx rfl (hb hby at_34) rfl ?_
    refine XS.iload X0.here hx rfl (hb hby at_35) rfl ?_
    refine XS.iconst X0.here hx rfl (hb hby at_37) ?_
    refine XS.isub X0.here hx rfl (hb hby at_38) rfl ?_
    refine iremM X0 hx rfl (hb hby at_39) rfl (own_nzc 2 Hn (by decide)) ?_
    refine XS.iadd X0.here hx rfl (hb hby at_40) rfl ?_
    refine XS.istore X0.here hx rfl (hb hby at_41) rfl (l' := #[.val (.int p0), .val (.int p1), .val (.int p2), .val (.int p3), .val (.int p4), .val (.int p5), .val (.int n), .val (.int s0), .val (.int d1), .val (.int ((1 : Int32) + ((p3 &&& (2147483647 : Int32)) % (n - (2 : Int32))))), .unset, .unset, .unset, .unset, .unset, .unset, .unset, .unset, .unset, .unset]) rfl ?_
    exact kt
  obtain ⟨tt, e_tt⟩ : ∃ z, z = ((1 : Int32) + ((p3 &&& (2147483647 : Int32)) % (n - (2 : Int32)))) := ⟨_, rfl⟩
  rw [← e_tt]
  have Ht : 1 ≤ tt.toInt ∧ tt.toInt ≤ n.toInt - 2 := by rw [e_tt]; exact own_d 2 p3 Hn (by decide)
  refine own_thr (a := s₁.setTop (mkF m 59 #[.val (.int p0), .val (.int p1), .val (.int p2), .val (.int p3), .val (.int p4), .val (.int p5), .val (.int n), .val (.int s0), .val (.int d1), .val (.int tt), .val (.int ((1 : Int32) + (((d1 - (1 : Int32)) + tt) % (n - (1 : Int32))))), .unset, .unset, .unset, .unset, .unset, .unset, .unset, .unset, .unset] [])) (fun t kt => ?_) ?_
  · show Steps p.tables e below (s₁.setTop (mkF m 43 #[.val (.int p0), .val (.int p1), .val (.int p2), .val (.int p3), .val (.int p4), .val (.int p5), .val (.int n), .val (.int s0), .val (.int d1), .val (.int tt), .unset, .unset, .unset, .unset, .unset, .unset, .unset, .unset, .unset, .unset] [])) _
    refine XS.iconst X0.here hx rfl (hb hby at_43) ?_
    refine XS.iload X0.here hx rfl (hb hby at_44) rfl ?_
    refine XS.iconst X0.here hx rfl (hb hby at_46) ?_
    refine XS.isub X0.here hx rfl (hb hby at_47) rfl ?_
    refine XS.iload X0.here hx rfl (hb hby at_48) rfl ?_
    refine XS.iadd X0.here hx rfl (hb hby at_50) rfl ?_
    refine XS.iload X0.here hx rfl (hb hby at_51) rfl ?_
    refine XS.iconst X0.here hx rfl (hb hby at_53) ?_
    refine XS.isub X0.here hx rfl (hb hby at_54) rfl ?_
    refine iremM X0 hx rfl (hb hby at_55) rfl (own_nzc 1 Hn (by decide)) ?_
    refine XS.iadd X0.here hx rfl (hb hby at_56) rfl ?_
    refine XS.istore X0.here hx rfl (hb hby at_57) rfl (l' := #[.val (.int p0), .val (.int p1), .val (.int p2), .val (.int p3), .val (.int p4), .val (.int p5), .val (.int n), .val (.int s0), .val (.int d1), .val (.int tt), .val (.int ((1 : Int32) + (((d1 - (1 : Int32)) + tt) % (n - (1 : Int32))))), .unset, .unset, .unset, .unset, .unset, .unset, .unset, .unset, .unset]) rfl ?_
    exact kt
  obtain ⟨d2, e_d2⟩ : ∃ z, z = ((1 : Int32) + (((d1 - (1 : Int32)) + tt) % (n - (1 : Int32)))) := ⟨_, rfl⟩
  rw [← e_d2]
  have Hd2 := own_d2 Hn Hd1 Ht
  rw [← e_d2] at Hd2
  refine own_thr (a := s₁.setTop (mkF m 69 #[.val (.int p0), .val (.int p1), .val (.int p2), .val (.int p3), .val (.int p4), .val (.int p5), .val (.int n), .val (.int s0), .val (.int d1), .val (.int tt), .val (.int d2), .val (.int ((s0 + d1) % n)), .unset, .unset, .unset, .unset, .unset, .unset, .unset, .unset] [])) (fun t kt => ?_) ?_
  · show Steps p.tables e below (s₁.setTop (mkF m 59 #[.val (.int p0), .val (.int p1), .val (.int p2), .val (.int p3), .val (.int p4), .val (.int p5), .val (.int n), .val (.int s0), .val (.int d1), .val (.int tt), .val (.int d2), .unset, .unset, .unset, .unset, .unset, .unset, .unset, .unset, .unset] [])) _
    refine XS.iload X0.here hx rfl (hb hby at_59) rfl ?_
    refine XS.iload X0.here hx rfl (hb hby at_61) rfl ?_
    refine XS.iadd X0.here hx rfl (hb hby at_63) rfl ?_
    refine XS.iload X0.here hx rfl (hb hby at_64) rfl ?_
    refine iremM X0 hx rfl (hb hby at_66) rfl (own_nz Hn) ?_
    refine XS.istore X0.here hx rfl (hb hby at_67) rfl (l' := #[.val (.int p0), .val (.int p1), .val (.int p2), .val (.int p3), .val (.int p4), .val (.int p5), .val (.int n), .val (.int s0), .val (.int d1), .val (.int tt), .val (.int d2), .val (.int ((s0 + d1) % n)), .unset, .unset, .unset, .unset, .unset, .unset, .unset, .unset]) rfl ?_
    exact kt
  obtain ⟨s1, e_s1⟩ : ∃ z, z = ((s0 + d1) % n) := ⟨_, rfl⟩
  rw [← e_s1]
  have H1 := own_s Hn H0 Hd1
  rw [← e_s1] at H1
  refine own_thr (a := s₁.setTop (mkF m 79 #[.val (.int p0), .val (.int p1), .val (.int p2), .val (.int p3), .val (.int p4), .val (.int p5), .val (.int n), .val (.int s0), .val (.int d1), .val (.int tt), .val (.int d2), .val (.int s1), .val (.int ((s0 + d2) % n)), .unset, .unset, .unset, .unset, .unset, .unset, .unset] [])) (fun t kt => ?_) ?_
  · show Steps p.tables e below (s₁.setTop (mkF m 69 #[.val (.int p0), .val (.int p1), .val (.int p2), .val (.int p3), .val (.int p4), .val (.int p5), .val (.int n), .val (.int s0), .val (.int d1), .val (.int tt), .val (.int d2), .val (.int s1), .unset, .unset, .unset, .unset, .unset, .unset, .unset, .unset] [])) _
    refine XS.iload X0.here hx rfl (hb hby at_69) rfl ?_
    refine XS.iload X0.here hx rfl (hb hby at_71) rfl ?_
    refine XS.iadd X0.here hx rfl (hb hby at_73) rfl ?_
    refine XS.iload X0.here hx rfl (hb hby at_74) rfl ?_
    refine iremM X0 hx rfl (hb hby at_76) rfl (own_nz Hn) ?_
    refine XS.istore X0.here hx rfl (hb hby at_77) rfl (l' := #[.val (.int p0), .val (.int p1), .val (.int p2), .val (.int p3), .val (.int p4), .val (.int p5), .val (.int n), .val (.int s0), .val (.int d1), .val (.int tt), .val (.int d2), .val (.int s1), .val (.int ((s0 + d2) % n)), .unset, .unset, .unset, .unset, .unset, .unset, .unset]) rfl ?_
    exact kt
  obtain ⟨s2, e_s2⟩ : ∃ z, z = ((s0 + d2) % n) := ⟨_, rfl⟩
  rw [← e_s2]
  have H2 := own_s Hn H0 ⟨Hd2.1, Hd2.2.1⟩
  rw [← e_s2] at H2
  have hH := own_hyp Hn H0 Hd1 Hd2 H1 H2
  refine own_thr (a := s₁.setTop (mkF m 90 #[.val (.int p0), .val (.int p1), .val (.int p2), .val (.int p3), .val (.int p4), .val (.int p5), .val (.int n), .val (.int s0), .val (.int d1), .val (.int tt), .val (.int d2), .val (.int s1), .val (.int s2), .val (.int ((1 : Int32) + ((p4 &&& (2147483647 : Int32)) % (3 : Int32)))), .unset, .unset, .unset, .unset, .unset, .unset] [])) (fun t kt => ?_) ?_
  · show Steps p.tables e below (s₁.setTop (mkF m 79 #[.val (.int p0), .val (.int p1), .val (.int p2), .val (.int p3), .val (.int p4), .val (.int p5), .val (.int n), .val (.int s0), .val (.int d1), .val (.int tt), .val (.int d2), .val (.int s1), .val (.int s2), .unset, .unset, .unset, .unset, .unset, .unset, .unset] [])) _
    refine XS.iconst X0.here hx rfl (hb hby at_79) ?_
    refine XS.iload X0.here hx rfl (hb hby at_80) rfl ?_
    refine X0.ldcInt hx hown (mvT hZ (hw _ (List.mem_of_getElem? (i := 0) rfl))) (g := (mkF m 82 #[.val (.int p0), .val (.int p1), .val (.int p2), .val (.int p3), .val (.int p4), .val (.int p5), .val (.int n), .val (.int s0), .val (.int d1), .val (.int tt), .val (.int d2), .val (.int s1), .val (.int s2), .unset, .unset, .unset, .unset, .unset, .unset, .unset] [(.int p4), (.int (1 : Int32))])) rfl (hb hby at_82) _ ?_
    refine XS.iand X0.here hx rfl (hb hby at_84) rfl ?_
    refine XS.iconst X0.here hx rfl (hb hby at_85) ?_
    refine iremM X0 hx rfl (hb hby at_86) rfl (by decide) ?_
    refine XS.iadd X0.here hx rfl (hb hby at_87) rfl ?_
    refine XS.istore X0.here hx rfl (hb hby at_88) rfl (l' := #[.val (.int p0), .val (.int p1), .val (.int p2), .val (.int p3), .val (.int p4), .val (.int p5), .val (.int n), .val (.int s0), .val (.int d1), .val (.int tt), .val (.int d2), .val (.int s1), .val (.int s2), .val (.int ((1 : Int32) + ((p4 &&& (2147483647 : Int32)) % (3 : Int32)))), .unset, .unset, .unset, .unset, .unset, .unset]) rfl ?_
    exact kt
  obtain ⟨k, e_k⟩ : ∃ z, z = ((1 : Int32) + ((p4 &&& (2147483647 : Int32)) % (3 : Int32))) := ⟨_, rfl⟩
  rw [← e_k]
  have Hk := own_k p4
  rw [← e_k] at Hk
  rcases Hk with hk | hk | hk
  · subst hk
    refine own_thr (a := s₁.setTop (mkF m 94 #[.val (.int p0), .val (.int p1), .val (.int p2), .val (.int p3), .val (.int p4), .val (.int p5), .val (.int n), .val (.int s0), .val (.int d1), .val (.int tt), .val (.int d2), .val (.int s1), .val (.int s2), .val (.int (1 : Int32)), .unset, .unset, .unset, .unset, .unset, .unset] [(.int (p5 &&& (1 : Int32)))])) (fun t kt => ?_) ?_
    · show Steps p.tables e below (s₁.setTop (mkF m 90 #[.val (.int p0), .val (.int p1), .val (.int p2), .val (.int p3), .val (.int p4), .val (.int p5), .val (.int n), .val (.int s0), .val (.int d1), .val (.int tt), .val (.int d2), .val (.int s1), .val (.int s2), .val (.int (1 : Int32)), .unset, .unset, .unset, .unset, .unset, .unset] [])) _
      refine XS.iload X0.here hx rfl (hb hby at_90) rfl ?_
      refine XS.iconst X0.here hx rfl (hb hby at_92) ?_
      refine XS.iand X0.here hx rfl (hb hby at_93) rfl ?_
      exact kt
    by_cases hc406 : (p5 &&& (1 : Int32)) = (0 : Int32)
    · refine own_thr (a := s₁.setTop (mkF m 116 #[.val (.int p0), .val (.int p1), .val (.int p2), .val (.int p3), .val (.int p4), .val (.int p5), .val (.int n), .val (.int s0), .val (.int d1), .val (.int tt), .val (.int d2), .val (.int s1), .val (.int s2), .val (.int (1 : Int32)), .val (.int (0 : Int32)), .val (.int ((((p5.toUInt32 >>> ((1 : Int32) &&& 31).toUInt32).toInt32) &&& (65535 : Int32)) % (1 : Int32))), .unset, .unset, .unset, .unset] [])) (fun t kt => ?_) ?_
      · show Steps p.tables e below (s₁.setTop (mkF m 94 #[.val (.int p0), .val (.int p1), .val (.int p2), .val (.int p3), .val (.int p4), .val (.int p5), .val (.int n), .val (.int s0), .val (.int d1), .val (.int tt), .val (.int d2), .val (.int s1), .val (.int s2), .val (.int (1 : Int32)), .unset, .unset, .unset, .unset, .unset, .unset] [(.int (p5 &&& (1 : Int32)))])) _
        refine XS.ifYes X0.here hx rfl (pc0 := 94) (pc' := 101) rfl (hb hby at_94) rfl ((if0 _ _).trans (teq hc406).1) (by decide) (by decide) ?_
        refine XS.iconst X0.here hx rfl (hb hby at_101) ?_
        refine XS.istore X0.here hx rfl (hb hby at_102) rfl (l' := #[.val (.int p0), .val (.int p1), .val (.int p2), .val (.int p3), .val (.int p4), .val (.int p5), .val (.int n), .val (.int s0), .val (.int d1), .val (.int tt), .val (.int d2), .val (.int s1), .val (.int s2), .val (.int (1 : Int32)), .val (.int (0 : Int32)), .unset, .unset, .unset, .unset, .unset]) rfl ?_
        refine XS.iload X0.here hx rfl (hb hby at_104) rfl ?_
        refine XS.iconst X0.here hx rfl (hb hby at_106) ?_
        refine XS.iushr X0.here hx rfl (hb hby at_107) rfl ?_
        refine X0.ldcInt hx hown (mvT hZ (hw _ (List.mem_of_getElem? (i := 1) rfl))) (g := (mkF m 108 #[.val (.int p0), .val (.int p1), .val (.int p2), .val (.int p3), .val (.int p4), .val (.int p5), .val (.int n), .val (.int s0), .val (.int d1), .val (.int tt), .val (.int d2), .val (.int s1), .val (.int s2), .val (.int (1 : Int32)), .val (.int (0 : Int32)), .unset, .unset, .unset, .unset, .unset] [(.int ((p5.toUInt32 >>> ((1 : Int32) &&& 31).toUInt32).toInt32))])) rfl (hb hby at_108) _ ?_
        refine XS.iand X0.here hx rfl (hb hby at_110) rfl ?_
        refine XS.iload X0.here hx rfl (hb hby at_111) rfl ?_
        refine iremM X0 hx rfl (hb hby at_113) rfl (by decide) ?_
        refine XS.istore X0.here hx rfl (hb hby at_114) rfl (l' := #[.val (.int p0), .val (.int p1), .val (.int p2), .val (.int p3), .val (.int p4), .val (.int p5), .val (.int n), .val (.int s0), .val (.int d1), .val (.int tt), .val (.int d2), .val (.int s1), .val (.int s2), .val (.int (1 : Int32)), .val (.int (0 : Int32)), .val (.int ((((p5.toUInt32 >>> ((1 : Int32) &&& 31).toUInt32).toInt32) &&& (65535 : Int32)) % (1 : Int32))), .unset, .unset, .unset, .unset]) rfl ?_
        exact kt
      obtain ⟨r, e_r⟩ : ∃ z, z = ((((p5.toUInt32 >>> ((1 : Int32) &&& 31).toUInt32).toInt32) &&& (65535 : Int32)) % (1 : Int32)) := ⟨_, rfl⟩
      rw [← e_r]
      exact tl10 p0 p1 p2 p3 p4 p5 Z0 hw hx hZ hby hml hown hlk Bd.returns X0 N0 e0 n s0 d1 tt d2 s1 s2 r hH
    · refine own_thr (a := s₁.setTop (mkF m 116 #[.val (.int p0), .val (.int p1), .val (.int p2), .val (.int p3), .val (.int p4), .val (.int p5), .val (.int n), .val (.int s0), .val (.int d1), .val (.int tt), .val (.int d2), .val (.int s1), .val (.int s2), .val (.int (1 : Int32)), .val (.int (1 : Int32)), .val (.int ((((p5.toUInt32 >>> ((1 : Int32) &&& 31).toUInt32).toInt32) &&& (65535 : Int32)) % (1 : Int32))), .unset, .unset, .unset, .unset] [])) (fun t kt => ?_) ?_
      · show Steps p.tables e below (s₁.setTop (mkF m 94 #[.val (.int p0), .val (.int p1), .val (.int p2), .val (.int p3), .val (.int p4), .val (.int p5), .val (.int n), .val (.int s0), .val (.int d1), .val (.int tt), .val (.int d2), .val (.int s1), .val (.int s2), .val (.int (1 : Int32)), .unset, .unset, .unset, .unset, .unset, .unset] [(.int (p5 &&& (1 : Int32)))])) _
        refine XS.ifNo X0.here hx rfl (hb hby at_94) rfl ((if0 _ _).trans (feq hc406).1) ?_
        refine XS.iconst X0.here hx rfl (hb hby at_97) ?_
        refine XS.goto X0.here hx rfl (pc0 := 98) (pc' := 102) rfl (hb hby at_98) (by decide) (by decide) ?_
        refine XS.istore X0.here hx rfl (hb hby at_102) rfl (l' := #[.val (.int p0), .val (.int p1), .val (.int p2), .val (.int p3), .val (.int p4), .val (.int p5), .val (.int n), .val (.int s0), .val (.int d1), .val (.int tt), .val (.int d2), .val (.int s1), .val (.int s2), .val (.int (1 : Int32)), .val (.int (1 : Int32)), .unset, .unset, .unset, .unset, .unset]) rfl ?_
        refine XS.iload X0.here hx rfl (hb hby at_104) rfl ?_
        refine XS.iconst X0.here hx rfl (hb hby at_106) ?_
        refine XS.iushr X0.here hx rfl (hb hby at_107) rfl ?_
        refine X0.ldcInt hx hown (mvT hZ (hw _ (List.mem_of_getElem? (i := 1) rfl))) (g := (mkF m 108 #[.val (.int p0), .val (.int p1), .val (.int p2), .val (.int p3), .val (.int p4), .val (.int p5), .val (.int n), .val (.int s0), .val (.int d1), .val (.int tt), .val (.int d2), .val (.int s1), .val (.int s2), .val (.int (1 : Int32)), .val (.int (1 : Int32)), .unset, .unset, .unset, .unset, .unset] [(.int ((p5.toUInt32 >>> ((1 : Int32) &&& 31).toUInt32).toInt32))])) rfl (hb hby at_108) _ ?_
        refine XS.iand X0.here hx rfl (hb hby at_110) rfl ?_
        refine XS.iload X0.here hx rfl (hb hby at_111) rfl ?_
        refine iremM X0 hx rfl (hb hby at_113) rfl (by decide) ?_
        refine XS.istore X0.here hx rfl (hb hby at_114) rfl (l' := #[.val (.int p0), .val (.int p1), .val (.int p2), .val (.int p3), .val (.int p4), .val (.int p5), .val (.int n), .val (.int s0), .val (.int d1), .val (.int tt), .val (.int d2), .val (.int s1), .val (.int s2), .val (.int (1 : Int32)), .val (.int (1 : Int32)), .val (.int ((((p5.toUInt32 >>> ((1 : Int32) &&& 31).toUInt32).toInt32) &&& (65535 : Int32)) % (1 : Int32))), .unset, .unset, .unset, .unset]) rfl ?_
        exact kt
      obtain ⟨r, e_r⟩ : ∃ z, z = ((((p5.toUInt32 >>> ((1 : Int32) &&& 31).toUInt32).toInt32) &&& (65535 : Int32)) % (1 : Int32)) := ⟨_, rfl⟩
      rw [← e_r]
      have hr : r = 0 := by rw [e_r]; exact own_r1 _
      subst hr
      exact tl110 p0 p1 p2 p3 p4 p5 Z0 hw hx hZ hby hml hown hlk Bd.returns X0 N0 e0 n s0 d1 tt d2 s1 s2 0 hH
  · subst hk
    refine own_thr (a := s₁.setTop (mkF m 94 #[.val (.int p0), .val (.int p1), .val (.int p2), .val (.int p3), .val (.int p4), .val (.int p5), .val (.int n), .val (.int s0), .val (.int d1), .val (.int tt), .val (.int d2), .val (.int s1), .val (.int s2), .val (.int (2 : Int32)), .unset, .unset, .unset, .unset, .unset, .unset] [(.int (p5 &&& (1 : Int32)))])) (fun t kt => ?_) ?_
    · show Steps p.tables e below (s₁.setTop (mkF m 90 #[.val (.int p0), .val (.int p1), .val (.int p2), .val (.int p3), .val (.int p4), .val (.int p5), .val (.int n), .val (.int s0), .val (.int d1), .val (.int tt), .val (.int d2), .val (.int s1), .val (.int s2), .val (.int (2 : Int32)), .unset, .unset, .unset, .unset, .unset, .unset] [])) _
      refine XS.iload X0.here hx rfl (hb hby at_90) rfl ?_
      refine XS.iconst X0.here hx rfl (hb hby at_92) ?_
      refine XS.iand X0.here hx rfl (hb hby at_93) rfl ?_
      exact kt
    by_cases hc407 : (p5 &&& (1 : Int32)) = (0 : Int32)
    · refine own_thr (a := s₁.setTop (mkF m 116 #[.val (.int p0), .val (.int p1), .val (.int p2), .val (.int p3), .val (.int p4), .val (.int p5), .val (.int n), .val (.int s0), .val (.int d1), .val (.int tt), .val (.int d2), .val (.int s1), .val (.int s2), .val (.int (2 : Int32)), .val (.int (0 : Int32)), .val (.int ((((p5.toUInt32 >>> ((1 : Int32) &&& 31).toUInt32).toInt32) &&& (65535 : Int32)) % (2 : Int32))), .unset, .unset, .unset, .unset] [])) (fun t kt => ?_) ?_
      · show Steps p.tables e below (s₁.setTop (mkF m 94 #[.val (.int p0), .val (.int p1), .val (.int p2), .val (.int p3), .val (.int p4), .val (.int p5), .val (.int n), .val (.int s0), .val (.int d1), .val (.int tt), .val (.int d2), .val (.int s1), .val (.int s2), .val (.int (2 : Int32)), .unset, .unset, .unset, .unset, .unset, .unset] [(.int (p5 &&& (1 : Int32)))])) _
        refine XS.ifYes X0.here hx rfl (pc0 := 94) (pc' := 101) rfl (hb hby at_94) rfl ((if0 _ _).trans (teq hc407).1) (by decide) (by decide) ?_
        refine XS.iconst X0.here hx rfl (hb hby at_101) ?_
        refine XS.istore X0.here hx rfl (hb hby at_102) rfl (l' := #[.val (.int p0), .val (.int p1), .val (.int p2), .val (.int p3), .val (.int p4), .val (.int p5), .val (.int n), .val (.int s0), .val (.int d1), .val (.int tt), .val (.int d2), .val (.int s1), .val (.int s2), .val (.int (2 : Int32)), .val (.int (0 : Int32)), .unset, .unset, .unset, .unset, .unset]) rfl ?_
        refine XS.iload X0.here hx rfl (hb hby at_104) rfl ?_
        refine XS.iconst X0.here hx rfl (hb hby at_106) ?_
        refine XS.iushr X0.here hx rfl (hb hby at_107) rfl ?_
        refine X0.ldcInt hx hown (mvT hZ (hw _ (List.mem_of_getElem? (i := 1) rfl))) (g := (mkF m 108 #[.val (.int p0), .val (.int p1), .val (.int p2), .val (.int p3), .val (.int p4), .val (.int p5), .val (.int n), .val (.int s0), .val (.int d1), .val (.int tt), .val (.int d2), .val (.int s1), .val (.int s2), .val (.int (2 : Int32)), .val (.int (0 : Int32)), .unset, .unset, .unset, .unset, .unset] [(.int ((p5.toUInt32 >>> ((1 : Int32) &&& 31).toUInt32).toInt32))])) rfl (hb hby at_108) _ ?_
        refine XS.iand X0.here hx rfl (hb hby at_110) rfl ?_
        refine XS.iload X0.here hx rfl (hb hby at_111) rfl ?_
        refine iremM X0 hx rfl (hb hby at_113) rfl (by decide) ?_
        refine XS.istore X0.here hx rfl (hb hby at_114) rfl (l' := #[.val (.int p0), .val (.int p1), .val (.int p2), .val (.int p3), .val (.int p4), .val (.int p5), .val (.int n), .val (.int s0), .val (.int d1), .val (.int tt), .val (.int d2), .val (.int s1), .val (.int s2), .val (.int (2 : Int32)), .val (.int (0 : Int32)), .val (.int ((((p5.toUInt32 >>> ((1 : Int32) &&& 31).toUInt32).toInt32) &&& (65535 : Int32)) % (2 : Int32))), .unset, .unset, .unset, .unset]) rfl ?_
        exact kt
      obtain ⟨r, e_r⟩ : ∃ z, z = ((((p5.toUInt32 >>> ((1 : Int32) &&& 31).toUInt32).toInt32) &&& (65535 : Int32)) % (2 : Int32)) := ⟨_, rfl⟩
      rw [← e_r]
      exact tl20 p0 p1 p2 p3 p4 p5 Z0 hw hx hZ hby hml hown hlk Bd.returns X0 N0 e0 n s0 d1 tt d2 s1 s2 r hH
    · refine own_thr (a := s₁.setTop (mkF m 116 #[.val (.int p0), .val (.int p1), .val (.int p2), .val (.int p3), .val (.int p4), .val (.int p5), .val (.int n), .val (.int s0), .val (.int d1), .val (.int tt), .val (.int d2), .val (.int s1), .val (.int s2), .val (.int (2 : Int32)), .val (.int (1 : Int32)), .val (.int ((((p5.toUInt32 >>> ((1 : Int32) &&& 31).toUInt32).toInt32) &&& (65535 : Int32)) % (2 : Int32))), .unset, .unset, .unset, .unset] [])) (fun t kt => ?_) ?_
      · show Steps p.tables e below (s₁.setTop (mkF m 94 #[.val (.int p0), .val (.int p1), .val (.int p2), .val (.int p3), .val (.int p4), .val (.int p5), .val (.int n), .val (.int s0), .val (.int d1), .val (.int tt), .val (.int d2), .val (.int s1), .val (.int s2), .val (.int (2 : Int32)), .unset, .unset, .unset, .unset, .unset, .unset] [(.int (p5 &&& (1 : Int32)))])) _
        refine XS.ifNo X0.here hx rfl (hb hby at_94) rfl ((if0 _ _).trans (feq hc407).1) ?_
        refine XS.iconst X0.here hx rfl (hb hby at_97) ?_
        refine XS.goto X0.here hx rfl (pc0 := 98) (pc' := 102) rfl (hb hby at_98) (by decide) (by decide) ?_
        refine XS.istore X0.here hx rfl (hb hby at_102) rfl (l' := #[.val (.int p0), .val (.int p1), .val (.int p2), .val (.int p3), .val (.int p4), .val (.int p5), .val (.int n), .val (.int s0), .val (.int d1), .val (.int tt), .val (.int d2), .val (.int s1), .val (.int s2), .val (.int (2 : Int32)), .val (.int (1 : Int32)), .unset, .unset, .unset, .unset, .unset]) rfl ?_
        refine XS.iload X0.here hx rfl (hb hby at_104) rfl ?_
        refine XS.iconst X0.here hx rfl (hb hby at_106) ?_
        refine XS.iushr X0.here hx rfl (hb hby at_107) rfl ?_
        refine X0.ldcInt hx hown (mvT hZ (hw _ (List.mem_of_getElem? (i := 1) rfl))) (g := (mkF m 108 #[.val (.int p0), .val (.int p1), .val (.int p2), .val (.int p3), .val (.int p4), .val (.int p5), .val (.int n), .val (.int s0), .val (.int d1), .val (.int tt), .val (.int d2), .val (.int s1), .val (.int s2), .val (.int (2 : Int32)), .val (.int (1 : Int32)), .unset, .unset, .unset, .unset, .unset] [(.int ((p5.toUInt32 >>> ((1 : Int32) &&& 31).toUInt32).toInt32))])) rfl (hb hby at_108) _ ?_
        refine XS.iand X0.here hx rfl (hb hby at_110) rfl ?_
        refine XS.iload X0.here hx rfl (hb hby at_111) rfl ?_
        refine iremM X0 hx rfl (hb hby at_113) rfl (by decide) ?_
        refine XS.istore X0.here hx rfl (hb hby at_114) rfl (l' := #[.val (.int p0), .val (.int p1), .val (.int p2), .val (.int p3), .val (.int p4), .val (.int p5), .val (.int n), .val (.int s0), .val (.int d1), .val (.int tt), .val (.int d2), .val (.int s1), .val (.int s2), .val (.int (2 : Int32)), .val (.int (1 : Int32)), .val (.int ((((p5.toUInt32 >>> ((1 : Int32) &&& 31).toUInt32).toInt32) &&& (65535 : Int32)) % (2 : Int32))), .unset, .unset, .unset, .unset]) rfl ?_
        exact kt
      obtain ⟨r, e_r⟩ : ∃ z, z = ((((p5.toUInt32 >>> ((1 : Int32) &&& 31).toUInt32).toInt32) &&& (65535 : Int32)) % (2 : Int32)) := ⟨_, rfl⟩
      rw [← e_r]
      rcases (by rw [e_r]; exact own_r2 _ : r = 0 ∨ r = 1) with hr | hr
      · subst hr
        exact tl210 p0 p1 p2 p3 p4 p5 Z0 hw hx hZ hby hml hown hlk Bd.returns X0 N0 e0 n s0 d1 tt d2 s1 s2 0 hH
      · subst hr
        exact tl211 p0 p1 p2 p3 p4 p5 Z0 hw hx hZ hby hml hown hlk Bd.returns X0 N0 e0 n s0 d1 tt d2 s1 s2 1 hH
  · subst hk
    refine own_thr (a := s₁.setTop (mkF m 94 #[.val (.int p0), .val (.int p1), .val (.int p2), .val (.int p3), .val (.int p4), .val (.int p5), .val (.int n), .val (.int s0), .val (.int d1), .val (.int tt), .val (.int d2), .val (.int s1), .val (.int s2), .val (.int (3 : Int32)), .unset, .unset, .unset, .unset, .unset, .unset] [(.int (p5 &&& (1 : Int32)))])) (fun t kt => ?_) ?_
    · show Steps p.tables e below (s₁.setTop (mkF m 90 #[.val (.int p0), .val (.int p1), .val (.int p2), .val (.int p3), .val (.int p4), .val (.int p5), .val (.int n), .val (.int s0), .val (.int d1), .val (.int tt), .val (.int d2), .val (.int s1), .val (.int s2), .val (.int (3 : Int32)), .unset, .unset, .unset, .unset, .unset, .unset] [])) _
      refine XS.iload X0.here hx rfl (hb hby at_90) rfl ?_
      refine XS.iconst X0.here hx rfl (hb hby at_92) ?_
      refine XS.iand X0.here hx rfl (hb hby at_93) rfl ?_
      exact kt
    by_cases hc408 : (p5 &&& (1 : Int32)) = (0 : Int32)
    · refine own_thr (a := s₁.setTop (mkF m 116 #[.val (.int p0), .val (.int p1), .val (.int p2), .val (.int p3), .val (.int p4), .val (.int p5), .val (.int n), .val (.int s0), .val (.int d1), .val (.int tt), .val (.int d2), .val (.int s1), .val (.int s2), .val (.int (3 : Int32)), .val (.int (0 : Int32)), .val (.int ((((p5.toUInt32 >>> ((1 : Int32) &&& 31).toUInt32).toInt32) &&& (65535 : Int32)) % (3 : Int32))), .unset, .unset, .unset, .unset] [])) (fun t kt => ?_) ?_
      · show Steps p.tables e below (s₁.setTop (mkF m 94 #[.val (.int p0), .val (.int p1), .val (.int p2), .val (.int p3), .val (.int p4), .val (.int p5), .val (.int n), .val (.int s0), .val (.int d1), .val (.int tt), .val (.int d2), .val (.int s1), .val (.int s2), .val (.int (3 : Int32)), .unset, .unset, .unset, .unset, .unset, .unset] [(.int (p5 &&& (1 : Int32)))])) _
        refine XS.ifYes X0.here hx rfl (pc0 := 94) (pc' := 101) rfl (hb hby at_94) rfl ((if0 _ _).trans (teq hc408).1) (by decide) (by decide) ?_
        refine XS.iconst X0.here hx rfl (hb hby at_101) ?_
        refine XS.istore X0.here hx rfl (hb hby at_102) rfl (l' := #[.val (.int p0), .val (.int p1), .val (.int p2), .val (.int p3), .val (.int p4), .val (.int p5), .val (.int n), .val (.int s0), .val (.int d1), .val (.int tt), .val (.int d2), .val (.int s1), .val (.int s2), .val (.int (3 : Int32)), .val (.int (0 : Int32)), .unset, .unset, .unset, .unset, .unset]) rfl ?_
        refine XS.iload X0.here hx rfl (hb hby at_104) rfl ?_
        refine XS.iconst X0.here hx rfl (hb hby at_106) ?_
        refine XS.iushr X0.here hx rfl (hb hby at_107) rfl ?_
        refine X0.ldcInt hx hown (mvT hZ (hw _ (List.mem_of_getElem? (i := 1) rfl))) (g := (mkF m 108 #[.val (.int p0), .val (.int p1), .val (.int p2), .val (.int p3), .val (.int p4), .val (.int p5), .val (.int n), .val (.int s0), .val (.int d1), .val (.int tt), .val (.int d2), .val (.int s1), .val (.int s2), .val (.int (3 : Int32)), .val (.int (0 : Int32)), .unset, .unset, .unset, .unset, .unset] [(.int ((p5.toUInt32 >>> ((1 : Int32) &&& 31).toUInt32).toInt32))])) rfl (hb hby at_108) _ ?_
        refine XS.iand X0.here hx rfl (hb hby at_110) rfl ?_
        refine XS.iload X0.here hx rfl (hb hby at_111) rfl ?_
        refine iremM X0 hx rfl (hb hby at_113) rfl (by decide) ?_
        refine XS.istore X0.here hx rfl (hb hby at_114) rfl (l' := #[.val (.int p0), .val (.int p1), .val (.int p2), .val (.int p3), .val (.int p4), .val (.int p5), .val (.int n), .val (.int s0), .val (.int d1), .val (.int tt), .val (.int d2), .val (.int s1), .val (.int s2), .val (.int (3 : Int32)), .val (.int (0 : Int32)), .val (.int ((((p5.toUInt32 >>> ((1 : Int32) &&& 31).toUInt32).toInt32) &&& (65535 : Int32)) % (3 : Int32))), .unset, .unset, .unset, .unset]) rfl ?_
        exact kt
      obtain ⟨r, e_r⟩ : ∃ z, z = ((((p5.toUInt32 >>> ((1 : Int32) &&& 31).toUInt32).toInt32) &&& (65535 : Int32)) % (3 : Int32)) := ⟨_, rfl⟩
      rw [← e_r]
      exact tl30 p0 p1 p2 p3 p4 p5 Z0 hw hx hZ hby hml hown hlk Bd.returns X0 N0 e0 n s0 d1 tt d2 s1 s2 r hH
    · refine own_thr (a := s₁.setTop (mkF m 116 #[.val (.int p0), .val (.int p1), .val (.int p2), .val (.int p3), .val (.int p4), .val (.int p5), .val (.int n), .val (.int s0), .val (.int d1), .val (.int tt), .val (.int d2), .val (.int s1), .val (.int s2), .val (.int (3 : Int32)), .val (.int (1 : Int32)), .val (.int ((((p5.toUInt32 >>> ((1 : Int32) &&& 31).toUInt32).toInt32) &&& (65535 : Int32)) % (3 : Int32))), .unset, .unset, .unset, .unset] [])) (fun t kt => ?_) ?_
      · show Steps p.tables e below (s₁.setTop (mkF m 94 #[.val (.int p0), .val (.int p1), .val (.int p2), .val (.int p3), .val (.int p4), .val (.int p5), .val (.int n), .val (.int s0), .val (.int d1), .val (.int tt), .val (.int d2), .val (.int s1), .val (.int s2), .val (.int (3 : Int32)), .unset, .unset, .unset, .unset, .unset, .unset] [(.int (p5 &&& (1 : Int32)))])) _
        refine XS.ifNo X0.here hx rfl (hb hby at_94) rfl ((if0 _ _).trans (feq hc408).1) ?_
        refine XS.iconst X0.here hx rfl (hb hby at_97) ?_
        refine XS.goto X0.here hx rfl (pc0 := 98) (pc' := 102) rfl (hb hby at_98) (by decide) (by decide) ?_
        refine XS.istore X0.here hx rfl (hb hby at_102) rfl (l' := #[.val (.int p0), .val (.int p1), .val (.int p2), .val (.int p3), .val (.int p4), .val (.int p5), .val (.int n), .val (.int s0), .val (.int d1), .val (.int tt), .val (.int d2), .val (.int s1), .val (.int s2), .val (.int (3 : Int32)), .val (.int (1 : Int32)), .unset, .unset, .unset, .unset, .unset]) rfl ?_
        refine XS.iload X0.here hx rfl (hb hby at_104) rfl ?_
        refine XS.iconst X0.here hx rfl (hb hby at_106) ?_
        refine XS.iushr X0.here hx rfl (hb hby at_107) rfl ?_
        refine X0.ldcInt hx hown (mvT hZ (hw _ (List.mem_of_getElem? (i := 1) rfl))) (g := (mkF m 108 #[.val (.int p0), .val (.int p1), .val (.int p2), .val (.int p3), .val (.int p4), .val (.int p5), .val (.int n), .val (.int s0), .val (.int d1), .val (.int tt), .val (.int d2), .val (.int s1), .val (.int s2), .val (.int (3 : Int32)), .val (.int (1 : Int32)), .unset, .unset, .unset, .unset, .unset] [(.int ((p5.toUInt32 >>> ((1 : Int32) &&& 31).toUInt32).toInt32))])) rfl (hb hby at_108) _ ?_
        refine XS.iand X0.here hx rfl (hb hby at_110) rfl ?_
        refine XS.iload X0.here hx rfl (hb hby at_111) rfl ?_
        refine iremM X0 hx rfl (hb hby at_113) rfl (by decide) ?_
        refine XS.istore X0.here hx rfl (hb hby at_114) rfl (l' := #[.val (.int p0), .val (.int p1), .val (.int p2), .val (.int p3), .val (.int p4), .val (.int p5), .val (.int n), .val (.int s0), .val (.int d1), .val (.int tt), .val (.int d2), .val (.int s1), .val (.int s2), .val (.int (3 : Int32)), .val (.int (1 : Int32)), .val (.int ((((p5.toUInt32 >>> ((1 : Int32) &&& 31).toUInt32).toInt32) &&& (65535 : Int32)) % (3 : Int32))), .unset, .unset, .unset, .unset]) rfl ?_
        exact kt
      obtain ⟨r, e_r⟩ : ∃ z, z = ((((p5.toUInt32 >>> ((1 : Int32) &&& 31).toUInt32).toInt32) &&& (65535 : Int32)) % (3 : Int32)) := ⟨_, rfl⟩
      rw [← e_r]
      rcases (by rw [e_r]; exact own_r3 _ : r = 0 ∨ r = 1 ∨ r = 2) with hr | hr | hr
      · subst hr
        exact tl310 p0 p1 p2 p3 p4 p5 Z0 hw hx hZ hby hml hown hlk Bd.returns X0 N0 e0 n s0 d1 tt d2 s1 s2 0 hH
      · subst hr
        exact tl311 p0 p1 p2 p3 p4 p5 Z0 hw hx hZ hby hml hown hlk Bd.returns X0 N0 e0 n s0 d1 tt d2 s1 s2 1 hH
      · subst hr
        exact tl312 p0 p1 p2 p3 p4 p5 Z0 hw hx hZ hby hml hown hlk Bd.returns X0 N0 e0 n s0 d1 tt d2 s1 s2 2 hH
set_option maxRecDepth 65536 in
set_option maxHeartbeats 40000000 in
theorem comes_1 {Post : Tables → Env → Array Value → State → Outcome → State → Prop} (hpost : ∀ tb e args s v u, (limb_1_1.after args s (.returned v) u = true ∧ limb_1_2.after args s (.returned v) u = true ∧ True) → FrameEnd s (.returned v) u (Jvm.fieldLocs frame_1_writes args s ++ Jvm.arrayLocs frame_1_arrays args s ++ Jvm.staticLocs frame_1_statics s) 24 128 → Post tb e args s (.returned v) u) :
    ArmFor flags0 classFile x code maxLocals ret World_1 tables_1 room_1 Calls_1 rest_1 Pre_1 Post := by
  intro l hfl _ _ p e ha hc hk s m args below hf hA hF happ hP
  obtain ⟨hcalls, hrest, hpre⟩ := hP
  obtain ⟨-, -, -, hnamed, -, -, -, hat⟩ := (Spec.applies_iff hf).mp happ
  obtain ⟨hg, hn⟩ := and_e (Cond.before_iff.mp (show (Jvm.Cond.and given_1 narrow_1).before args s = true from hpre))
  obtain ⟨g1, g2⟩ := and_e hg
  obtain ⟨g3, g4⟩ := and_e g2
  obtain ⟨g5, g6⟩ := and_e g4
  obtain ⟨g7, g8⟩ := and_e g6
  obtain ⟨g9, g10⟩ := and_e g8
  obtain ⟨g11, g12⟩ := and_e g10
  obtain ⟨w0, w1, w2, w3, w4, w5, rfl⟩ : ∃ w0 w1 w2 w3 w4 w5 : Value, args = #[w0, w1, w2, w3, w4, w5] := by
    have hs : args.size = 6 := by simpa [Cond.value, given_1] using g1
    obtain ⟨L⟩ := args
    match L, hs with
    | [w0, w1, w2, w3, w4, w5], _ => exact ⟨w0, w1, w2, w3, w4, w5, rfl⟩
  have hw := fun d (hd : d ∈ tables_1) => atoms_spec (ws := Jvm.Cond.code x code maxLocals ret :: tables_1) hat d (List.mem_cons_of_mem _ hd)
  have hfit : Fit s := fun {y c} hc i hi => by
    obtain ⟨ha, rfl⟩ := Array.getElem?_eq_some_iff.mp hc
    have q := List.all_eq_true.mp ((Array.all_eq_true_iff_forall_mem.mp hF) _ (Array.getElem_mem ha)) i (List.mem_range.mpr hi)
    simpa [Array.getElem?_eq_getElem hi] using q
  obtain ⟨i0, ei0⟩ := is_v g3
  obtain rfl : w0 = (.int i0) := Option.some.inj ei0
  obtain ⟨i1, ei1⟩ := is_v g5
  obtain rfl : w1 = (.int i1) := Option.some.inj ei1
  obtain ⟨i2, ei2⟩ := is_v g7
  obtain rfl : w2 = (.int i2) := Option.some.inj ei2
  obtain ⟨i3, ei3⟩ := is_v g9
  obtain rfl : w3 = (.int i3) := Option.some.inj ei3
  obtain ⟨i4, ei4⟩ := is_v g11
  obtain rfl : w4 = (.int i4) := Option.some.inj ei4
  obtain ⟨i5, ei5⟩ := is_v g12
  obtain rfl : w5 = (.int i5) := Option.some.inj ei5
  obtain ⟨n, o, h1, h2, h3, _, L, rfl, ⟨rfl, N⟩, hq⟩ := rm0 l s _ hw tables_1 i0 i1 i2 i3 i4 i5 s.heap s.heap.size (Nat.le_refl _) p e ha hc hk s m _ below hf ((Spec.applies_iff_loose hf).mp happ).1 ⟨rfl, State.Warmed39.refl s, rfl⟩ trivial
  refine ⟨n, _, h1, h2, h3, hpost _ _ _ _ _ _ ⟨Cond.after_iff.mpr rfl, Cond.after_iff.mpr (eq_i res_at (Term.int_eval (1)) rfl), trivial⟩ ⟨hq.1, hq.2.1, (hq.2.2.sift fun y hy => Or.inr (N y hy)).mono (by decide) (by decide)⟩⟩
theorem main_1_1 : Claimed_1_1 := comes_1 fun _ _ _ _ _ _ h hF => ⟨h.1, hF⟩
theorem main_1_2 : Claimed_1_2 := comes_1 fun _ _ _ _ _ _ h hF => ⟨h.2.1, hF⟩
end Jvm.Pilot.@@N@@
namespace Jvm.Pilot.@@N@@
open Jvm Jvm.ClassFile Sem Op Lib Jvm.Free Jvm.Stand Jvm.Pilot.@@N@@.Jvm.D
/-! MADE BY PROGRAM (witnessworld.py) out of the Statement's table words and the real class files: 9 classes; the members and pool entries that the words name. The judged class is class 1, her method 1. -/
namespace start1
open Jvm.ClassFile
def u (s : String) : CpInfo := .utf8 (stringToUtf16 s)
/-- a pool by its gaps: so many unusable entries, then the entry; so many at the end -/
def gap : Nat → List CpInfo → List CpInfo
  | 0, r => r
  | n + 1, r => .unusable :: gap n r
def poolList (es : List (Nat × CpInfo)) (last : Nat) : List CpInfo := es.foldr (fun e r => gap e.1 (e.2 :: r)) (gap last [])
def pool (es : List (Nat × CpInfo)) (last : Nat) : Array CpInfo := ⟨poolList es last⟩
def fileOf (pool : Array CpInfo) (this : Nat) (attrs : Array Attribute := #[]) (ms : Array MethodInfo := #[]) (fl : Nat := 33) (sup : Nat := 0) (ifs : Array Nat := #[]) (fds : Array FieldInfo := #[]) : ClassFile where
  minorVersion := 0
  majorVersion := 65
  constantPool := pool
  accessFlags := fl
  thisClass := this
  superClass := sup
  interfaces := ifs
  fields := fds
  methods := ms
  attributes := attrs
def plain (name : String) (sup : Option ClassId) : Class where
  name := name
  kind := .ordinary
  loader := none
  accessFlags := 33
  super := sup
  interfaces := #[]
  cf := none
  fields := #[]
  methods := #[]
  instanceTypes := #[]
  staticTypes := #[]
  resolved := #[]
  callSites := []
  init := .initialized
  statics := none
  mirror := none

def pool0 : Array CpInfo := pool [(5, u "<init>"), (0, u "()V"), (1, .class_ 10), (1, u "java/lang/Object")] 113

def k0c0 : Code := { maxStack := 0, maxLocals := 1, code := object_method_1_code, exceptionTable := #[], attributes := #[] }
def k0m0 : Method := { name := "<init>", desc := "()V", sig := { parameters := [], returnType := none }, accessFlags := 1, code := some k0c0 }
/-- java/lang/Object -/
def k0 : Class := { plain "java/lang/Object" none with
  accessFlags := 33
  interfaces := #[]
  cf := some (fileOf pool0 8 #[] #[{ accessFlags := 1, nameIndex := 5, descriptorIndex := 6, attributes := #[] }] 33 0 #[] #[])
  fields := #[]
  methods := #[k0m0]
  instanceTypes := #[]
  staticTypes := #[]
  resolved := Array.replicate 124 none
  statics := none }

def pool1 : Array CpInfo := pool [(2, .class_ 4), (1, u "java/lang/Object"), (0, u "<init>"), (0, u "()V"), (0, .integer 2147483647), (0, .integer 65535), (0, .class_ 10), (0, u "dev/chainlatch/bucket/Order"), (0, .methodref 9 12), (0, .nameAndType 5 13), (0, u "(I)V"), (0, .methodref 9 15), (0, .nameAndType 16 13), (0, u "append"), (0, .methodref 9 18), (0, .nameAndType 19 13), (0, u "remove"), (0, .methodref 9 21), (0, .nameAndType 22 23), (0, u "first"), (0, u "()I"), (0, .methodref 9 25), (0, .nameAndType 26 27), (0, u "after"), (0, u "(I)I"), (0, .class_ 29), (0, u "dev/chainlatch/bucket/OrderAppendPinLaw"), (2, u "law"), (0, u "(IIIIII)Z")] 5

def k1m0 : Method := { name := "<init>", desc := "()V", sig := { parameters := [], returnType := none }, accessFlags := 1, code := none }
def k1c1 : Code := { maxStack := 4, maxLocals := 20, code := code, exceptionTable := #[], attributes := #[] }
def k1m1 : Method := { name := "law", desc := "(IIIIII)Z", sig := { parameters := [.int, .int, .int, .int, .int, .int], returnType := some .boolean }, accessFlags := 9, code := some k1c1 }
/-- dev/chainlatch/bucket/OrderAppendPinLaw -/
def k1 : Class := { plain "dev/chainlatch/bucket/OrderAppendPinLaw" (some 0) with
  accessFlags := 49
  interfaces := #[]
  cf := some (fileOf pool1 28 #[] #[{ accessFlags := 1, nameIndex := 5, descriptorIndex := 6, attributes := #[] }, { accessFlags := 9, nameIndex := 32, descriptorIndex := 33, attributes := #[] }] 49 2 #[] #[])
  fields := #[]
  methods := #[k1m0, k1m1]
  instanceTypes := #[]
  staticTypes := #[]
  resolved := Array.replicate 39 none
  statics := none }

def pool2 : Array CpInfo := pool [(1, .methodref 2 3), (0, .class_ 4), (0, .nameAndType 5 6), (0, u "java/lang/Object"), (0, u "<init>"), (0, u "()V"), (2, .fieldref 10 11), (0, .class_ 12), (0, .nameAndType 13 14), (0, u "dev/chainlatch/bucket/Order"), (0, u "first"), (0, u "I"), (0, .fieldref 10 16), (0, .nameAndType 17 14), (0, u "last"), (0, .fieldref 10 19), (0, .nameAndType 20 21), (0, u "before"), (0, u "[I"), (0, .fieldref 10 23), (0, .nameAndType 24 21), (0, u "after"), (2, u "(I)V"), (5, .methodref 10 34), (0, .nameAndType 35 36), (0, u "link"), (0, u "(II)V"), (2, u "append"), (10, u "()I"), (0, u "(I)I"), (1, u "remove")] 5

def k2c0 : Code := { maxStack := 2, maxLocals := 2, code := prog_10_method_1_code, exceptionTable := #[], attributes := #[] }
def k2m0 : Method := { name := "<init>", desc := "(I)V", sig := { parameters := [.int], returnType := none }, accessFlags := 0, code := some k2c0 }
def k2c1 : Code := { maxStack := 1, maxLocals := 1, code := prog_10_method_3_code, exceptionTable := #[], attributes := #[] }
def k2m1 : Method := { name := "first", desc := "()I", sig := { parameters := [], returnType := some .int }, accessFlags := 0, code := some k2c1 }
def k2c2 : Code := { maxStack := 2, maxLocals := 2, code := prog_10_method_4_code, exceptionTable := #[], attributes := #[] }
def k2m2 : Method := { name := "after", desc := "(I)I", sig := { parameters := [.int], returnType := some .int }, accessFlags := 0, code := some k2c2 }
def k2c3 : Code := { maxStack := 4, maxLocals := 2, code := prog_10_method_5_code, exceptionTable := #[], attributes := #[] }
def k2m3 : Method := { name := "append", desc := "(I)V", sig := { parameters := [.int], returnType := none }, accessFlags := 0, code := some k2c3 }
def k2c4 : Code := { maxStack := 4, maxLocals := 2, code := prog_10_method_6_code, exceptionTable := #[], attributes := #[] }
def k2m4 : Method := { name := "remove", desc := "(I)V", sig := { parameters := [.int], returnType := none }, accessFlags := 0, code := some k2c4 }
def k2c5 : Code := { maxStack := 4, maxLocals := 3, code := prog_10_method_10_code, exceptionTable := #[], attributes := #[] }
def k2m5 : Method := { name := "link", desc := "(II)V", sig := { parameters := [.int, .int], returnType := none }, accessFlags := 2, code := some k2c5 }
/-- dev/chainlatch/bucket/Order -/
def k2 : Class := { plain "dev/chainlatch/bucket/Order" (some 0) with
  accessFlags := 48
  interfaces := #[]
  cf := some (fileOf pool2 10 #[] #[{ accessFlags := 0, nameIndex := 5, descriptorIndex := 27, attributes := #[] }, { accessFlags := 0, nameIndex := 13, descriptorIndex := 50, attributes := #[] }, { accessFlags := 0, nameIndex := 24, descriptorIndex := 51, attributes := #[] }, { accessFlags := 0, nameIndex := 39, descriptorIndex := 27, attributes := #[] }, { accessFlags := 0, nameIndex := 53, descriptorIndex := 27, attributes := #[] }, { accessFlags := 2, nameIndex := 35, descriptorIndex := 36, attributes := #[] }] 48 2 #[] #[{ accessFlags := 2, nameIndex := 20, descriptorIndex := 21, attributes := #[] }, { accessFlags := 2, nameIndex := 24, descriptorIndex := 21, attributes := #[] }, { accessFlags := 2, nameIndex := 13, descriptorIndex := 14, attributes := #[] }, { accessFlags := 2, nameIndex := 17, descriptorIndex := 14, attributes := #[] }])
  fields := #[{ name := "before", type := (.array .int), accessFlags := 2, slot := 0, constantValue := 0 }, { name := "after", type := (.array .int), accessFlags := 2, slot := 1, constantValue := 0 }, { name := "first", type := .int, accessFlags := 2, slot := 2, constantValue := 0 }, { name := "last", type := .int, accessFlags := 2, slot := 3, constantValue := 0 }]
  methods := #[k2m0, k2m1, k2m2, k2m3, k2m4, k2m5]
  instanceTypes := #[(.array .int), (.array .int), .int, .int]
  staticTypes := #[]
  resolved := Array.replicate 59 none
  statics := none }

def pool3 : Array CpInfo := pool [(1, u "java/lang/Cloneable"), (0, .class_ 1), (0, u "java/lang/Object"), (0, .class_ 3)] 3

/-- java/lang/Cloneable -/
def k3 : Class := { plain "java/lang/Cloneable" (some 0) with
  accessFlags := 1537
  interfaces := #[]
  cf := some (fileOf pool3 2 #[] #[] 1537 4 #[] #[])
  fields := #[]
  methods := #[]
  instanceTypes := #[]
  staticTypes := #[]
  resolved := Array.replicate 8 none
  statics := none }

def pool4 : Array CpInfo := pool [(1, u "java/io/Serializable"), (0, .class_ 1), (0, u "java/lang/Object"), (0, .class_ 3)] 3

/-- java/io/Serializable -/
def k4 : Class := { plain "java/io/Serializable" (some 0) with
  accessFlags := 1537
  interfaces := #[]
  cf := some (fileOf pool4 2 #[] #[] 1537 4 #[] #[])
  fields := #[]
  methods := #[]
  instanceTypes := #[]
  staticTypes := #[]
  resolved := Array.replicate 8 none
  statics := none }

/-- the primitive byte -/
def k5 : Class := { plain "byte" none with kind := .primitive 'B', accessFlags := 0x411 }
/-- [B -/
def k6 : Class := { plain "[B" (some 0) with kind := .array 5 .byte, interfaces := #[3, 4], accessFlags := 1041 }

/-- the primitive int -/
def k7 : Class := { plain "int" none with kind := .primitive 'I', accessFlags := 0x411 }
/-- [I -/
def k8 : Class := { plain "[I" (some 0) with kind := .array 7 .int, interfaces := #[3, 4], accessFlags := 1041 }

def heap : Heap := #[]
def classes : Array Class := #[k0, k1, k2, k3, k4, k5, k6, k7, k8]
def interned : List (Array UInt16 × Addr) := []
def slotsUsed : Nat := 0
def theMethod : MethodId := ⟨1, 1⟩
def args0 : Array Value := #[.int 5, .int 6, .int 7, .int 8, .int 9, .int 3]
def aboutOver (below : List Frame) : State where
  vm := { classes := classes, interned := interned.toArray }
  heap := heap
  slotsUsed := slotsUsed
  threads := #[{ frames := .invoking theMethod args0 :: below }]
def below0 : List Frame := [.native { method := ⟨0, 0⟩, args := #[] }]
def about1 : State := aboutOver below0
def p0 : Program := .bare "" "" ""
def e0 : Env := launch0.env 0 0 0
theorem w_frames : about1.frames = Frame.invoking theMethod args0 :: below0 := rfl
set_option maxRecDepth 65536 in
theorem w_args : argsFit about1.vm theMethod args0 = true := by decide +kernel
set_option maxRecDepth 65536 in
theorem w_heap : heapFits about1 = true := by decide +kernel
set_option maxRecDepth 65536 in
theorem w_runnable : about1.curStatus? = some .runnable := by decide +kernel
set_option maxRecDepth 65536 in
theorem w_alone : about1.alone = true := by decide +kernel
set_option maxRecDepth 65536 in
theorem w_named : about1.methodNamed? x = some theMethod := by decide +kernel
set_option maxRecDepth 65536 in
theorem w_hears : about1.hears theMethod below0 = true := by decide +kernel
set_option maxRecDepth 65536 in
theorem w_ripe : about1.ripe theMethod args0 below0 = true := by decide +kernel
theorem w_running : about1.status = .running := rfl
set_option maxRecDepth 65536 in
theorem w_room : about1.hasRoom e0.platform room_1 = true :=
  launch0.hasRoom_least _ room_1 (by decide +kernel) (by decide +kernel) (by decide +kernel) (by decide +kernel) (by decide +kernel) (by decide +kernel)
theorem allAtoms_all (ts : List Jvm.Cond) (a : Array Jvm.Value) (st : Jvm.State) : (allAtoms ts).before a st = ts.all (fun c => c.before a st) := by
  induction ts with
  | nil => rfl
  | cons c t ih =>
    show (Jvm.Cond.and c (allAtoms t)).before a st = _
    rw [Jvm.Cond.before_and, ih, List.all_cons]
def words1 : List Jvm.Cond := Jvm.Cond.code x code maxLocals ret :: tables_1
/-- a 'code' word, met by the world's own term for the bytes: nothing is compared byte by byte -/
theorem code_word {y : MethodName} {bytes : ByteArray} {mx : Nat} {rt : Option FieldType} {a : Array Value} {s : State} {m : MethodId} {meth : Method} {c : Code} (h1 : s.methodNamed? y = some m) (h2 : s.vm.method? m = some meth) (h3 : meth.code = some c) (h4 : c.code = bytes)
    (h5 : (c.maxLocals == mx && c.exceptionTable.isEmpty && decide (c.maxStack ≤ mostOperands) && decide (meth.sig.returnType = rt) && !meth.locks && decide (parseMethodDescriptor y.desc = some meth.sig)) = true) : (Jvm.Cond.code y bytes mx rt).before a s = true := by
  simp only [Bool.and_eq_true, beq_iff_eq, Bool.not_eq_true', decide_eq_true_eq] at h5
  obtain ⟨⟨⟨⟨⟨g1, g2⟩, g3⟩, g4⟩, g5⟩, g6⟩ := h5
  simp [Cond.before, Cond.holds, Cond.value, h1, h2, h3, h4, g1, g2, g3, g4, g5, g6]
def isCode : Jvm.Cond → Bool
  | .code _ _ _ _ => true
  | _ => false
theorem all_split {L : List Jvm.Cond} {P : Jvm.Cond → Bool} (h1 : L.all (fun c => isCode c || P c) = true) (h2 : ∀ c ∈ L.filter isCode, P c = true) : L.all P = true := by
  refine List.all_eq_true.mpr fun c hc => ?_
  have h := List.all_eq_true.mp h1 c hc
  rcases Bool.eq_false_or_eq_true (isCode c) with hi | hi
  · exact h2 c (List.mem_filter.mpr ⟨hc, hi⟩)
  · simpa [hi] using h
set_option maxRecDepth 65536 in
theorem w_c0 : (Jvm.Cond.code x code maxLocals ret).before args0 about1 = true := code_word (m := ⟨1, 1⟩) (meth := k1m1) (c := k1c1) (by decide +kernel) rfl rfl rfl (by decide +kernel)
set_option maxRecDepth 65536 in
theorem w_c1 : (Jvm.Cond.code ({ cls := "dev/chainlatch/bucket/Order", name := "<init>", desc := "(I)V" } : Jvm.MethodName) prog_10_method_1_code (2 : Nat) (Option.none : Option Jvm.ClassFile.FieldType)).before args0 about1 = true := code_word (m := ⟨2, 0⟩) (meth := k2m0) (c := k2c0) (by decide +kernel) rfl rfl rfl (by decide +kernel)
set_option maxRecDepth 65536 in
theorem w_c2 : (Jvm.Cond.code ({ cls := "java/lang/Object", name := "<init>", desc := "()V" } : Jvm.MethodName) object_method_1_code (1 : Nat) (Option.none : Option Jvm.ClassFile.FieldType)).before args0 about1 = true := code_word (m := ⟨0, 0⟩) (meth := k0m0) (c := k0c0) (by decide +kernel) rfl rfl rfl (by decide +kernel)
set_option maxRecDepth 65536 in
theorem w_c3 : (Jvm.Cond.code ({ cls := "dev/chainlatch/bucket/Order", name := "append", desc := "(I)V" } : Jvm.MethodName) prog_10_method_5_code (2 : Nat) (Option.none : Option Jvm.ClassFile.FieldType)).before args0 about1 = true := code_word (m := ⟨2, 3⟩) (meth := k2m3) (c := k2c3) (by decide +kernel) rfl rfl rfl (by decide +kernel)
set_option maxRecDepth 65536 in
theorem w_c4 : (Jvm.Cond.code ({ cls := "dev/chainlatch/bucket/Order", name := "remove", desc := "(I)V" } : Jvm.MethodName) prog_10_method_6_code (2 : Nat) (Option.none : Option Jvm.ClassFile.FieldType)).before args0 about1 = true := code_word (m := ⟨2, 4⟩) (meth := k2m4) (c := k2c4) (by decide +kernel) rfl rfl rfl (by decide +kernel)
set_option maxRecDepth 65536 in
theorem w_c5 : (Jvm.Cond.code ({ cls := "dev/chainlatch/bucket/Order", name := "link", desc := "(II)V" } : Jvm.MethodName) prog_10_method_10_code (3 : Nat) (Option.none : Option Jvm.ClassFile.FieldType)).before args0 about1 = true := code_word (m := ⟨2, 5⟩) (meth := k2m5) (c := k2c5) (by decide +kernel) rfl rfl rfl (by decide +kernel)
set_option maxRecDepth 65536 in
theorem w_c6 : (Jvm.Cond.code ({ cls := "dev/chainlatch/bucket/Order", name := "first", desc := "()I" } : Jvm.MethodName) prog_10_method_3_code (1 : Nat) (Option.some Jvm.ClassFile.FieldType.int)).before args0 about1 = true := code_word (m := ⟨2, 1⟩) (meth := k2m1) (c := k2c1) (by decide +kernel) rfl rfl rfl (by decide +kernel)
set_option maxRecDepth 65536 in
theorem w_c7 : (Jvm.Cond.code ({ cls := "dev/chainlatch/bucket/Order", name := "after", desc := "(I)I" } : Jvm.MethodName) prog_10_method_4_code (2 : Nat) (Option.some Jvm.ClassFile.FieldType.int)).before args0 about1 = true := code_word (m := ⟨2, 2⟩) (meth := k2m2) (c := k2c2) (by decide +kernel) rfl rfl rfl (by decide +kernel)
def codes1 : List Jvm.Cond := [Jvm.Cond.code x code maxLocals ret, Jvm.Cond.code ({ cls := "dev/chainlatch/bucket/Order", name := "<init>", desc := "(I)V" } : Jvm.MethodName) prog_10_method_1_code (2 : Nat) (Option.none : Option Jvm.ClassFile.FieldType), Jvm.Cond.code ({ cls := "java/lang/Object", name := "<init>", desc := "()V" } : Jvm.MethodName) object_method_1_code (1 : Nat) (Option.none : Option Jvm.ClassFile.FieldType), Jvm.Cond.code ({ cls := "dev/chainlatch/bucket/Order", name := "append", desc := "(I)V" } : Jvm.MethodName) prog_10_method_5_code (2 : Nat) (Option.none : Option Jvm.ClassFile.FieldType), Jvm.Cond.code ({ cls := "dev/chainlatch/bucket/Order", name := "remove", desc := "(I)V" } : Jvm.MethodName) prog_10_method_6_code (2 : Nat) (Option.none : Option Jvm.ClassFile.FieldType), Jvm.Cond.code ({ cls := "dev/chainlatch/bucket/Order", name := "link", desc := "(II)V" } : Jvm.MethodName) prog_10_method_10_code (3 : Nat) (Option.none : Option Jvm.ClassFile.FieldType), Jvm.Cond.code ({ cls := "dev/chainlatch/bucket/Order", name := "first", desc := "()I" } : Jvm.MethodName) prog_10_method_3_code (1 : Nat) (Option.some Jvm.ClassFile.FieldType.int), Jvm.Cond.code ({ cls := "dev/chainlatch/bucket/Order", name := "after", desc := "(I)I" } : Jvm.MethodName) prog_10_method_4_code (2 : Nat) (Option.some Jvm.ClassFile.FieldType.int)]
set_option maxRecDepth 65536 in
theorem codes_eq : words1.filter isCode = codes1 := rfl
theorem w_codes : ∀ c ∈ words1.filter isCode, c.before args0 about1 = true := by
  rw [codes_eq]
  intro c hc
  simp only [codes1, List.mem_cons, List.not_mem_nil, or_false] at hc
  rcases hc with rfl | rfl | rfl | rfl | rfl | rfl | rfl | rfl
  · exact w_c0
  · exact w_c1
  · exact w_c2
  · exact w_c3
  · exact w_c4
  · exact w_c5
  · exact w_c6
  · exact w_c7
set_option maxRecDepth 65536 in
theorem w_t1 : (words1.take 24).all (fun c => isCode c || c.before args0 about1) = true := by decide +kernel
set_option maxRecDepth 65536 in
theorem w_t2 : (words1.drop 24).all (fun c => isCode c || c.before args0 about1) = true := by decide +kernel
theorem w_tables : (allAtoms (Jvm.Cond.code x code maxLocals ret :: tables_1)).before args0 about1 = true := by
  rw [allAtoms_all]
  show words1.all (fun c => c.before args0 about1) = true
  refine all_split ?_ w_codes
  rw [← List.take_append_drop 24 words1, List.all_append, w_t1, w_t2]
  rfl
set_option maxRecDepth 65536 in
theorem w_case : (Jvm.Cond.and given_1 narrow_1).before args0 about1 = true := by decide +kernel
theorem w_applies : (headSpec (Jvm.Cond.code x code maxLocals ret :: tables_1) room_1).applies x e0.platform about1 = true :=
  (Spec.applies_iff w_frames).mpr ⟨w_running, w_runnable, w_alone, w_named, w_hears, w_ripe, w_room, w_tables⟩
theorem atStart : AtStart classFile x code maxLocals ret World_1 tables_1 room_1 Calls_1 rest_1 Pre_1 launch0 p0 e0 about1 theMethod args0 below0 :=
  ⟨lists_1, trivial, launch0.admits_env _ _ _, launch0.least_env, fairChoices_fair.cas, fairChoices_fair.clock, w_frames, w_args, w_heap, w_applies, trivial, trivial, w_case⟩
end start1
theorem witness_1 : WitnessClaimed_1 := ⟨start1.p0, start1.e0, start1.about1, start1.theMethod, start1.args0, start1.below0, start1.atStart⟩
end Jvm.Pilot.@@N@@
