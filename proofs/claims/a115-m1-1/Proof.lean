import JvmDerived
import JvmDerived.Pilot.@@N@@Statement
import JvmDerived.Pilot.@@N@@Code
set_option linter.unusedVariables false
set_option linter.unusedSimpArgs false
namespace Jvm.RoadKit
open Sem ClassFile Op Lib Jvm.Stand Jvm.Free Jvm.LawKit
section New
variable {p : Program} {l : Launch} {e : Env} {R : Room} {s : State} {m : MethodId} {args : Array Value} {below : List Frame} {meth : Method} {c : Code} {T : State} {locs : List Loc} {cells slots : Nat}
theorem retI (X : Stand p l e R s m args below meth c T locs cells slots) (hx : p.tables.exec = Jvm.exec) {pc : Nat} {Ls : Array Slot} {z : Int32} {rest : List Value} (hret : meth.sig.returnType = some .int) (hd : decode c.code pc = .ok (.ireturn, 1)) {fs : List Frame}
    (hl : ∀ (f : JFrame) (acts : List Action), f.method = m → f.locked = none → f.entered = [] → (doReturn e (T.setTop f) acts (some (.int z))).1 = T.setFrames fs) : Steps p.tables e below (T.setTop (mkF m pc Ls (.int z :: rest))) (T.setFrames fs) :=
  retOut X hx hret rfl (Or.inl ⟨rfl, Or.inl rfl, z, rfl⟩) hd hl
theorem retJ (X : Stand p l e R s m args below meth c T locs cells slots) (hx : p.tables.exec = Jvm.exec) {pc : Nat} {Ls : Array Slot} {z : Int64} {rest : List Value} (hret : meth.sig.returnType = some .long) (hd : decode c.code pc = .ok (.lreturn, 1)) {fs : List Frame}
    (hl : ∀ (f : JFrame) (acts : List Action), f.method = m → f.locked = none → f.entered = [] → (doReturn e (T.setTop f) acts (some (.long z))).1 = T.setFrames fs) : Steps p.tables e below (T.setTop (mkF m pc Ls (.long z :: rest))) (T.setFrames fs) :=
  retOut X hx hret rfl (Or.inr (Or.inl ⟨rfl, rfl, z, rfl⟩)) hd hl
theorem narA {t : FieldType} {w : Value} (ht : t.isReference = true) (hw : w.isRef = true) : narrow t w = w := by
  rcases ref_cases hw with rfl | ⟨z, rfl⟩ <;> cases t <;> first | rfl | (simp [FieldType.isReference] at ht)
theorem retA (X : Stand p l e R s m args below meth c T locs cells slots) (hx : p.tables.exec = Jvm.exec) {pc : Nat} {Ls : Array Slot} {t : FieldType} {w : Value} {rest : List Value} (hret : meth.sig.returnType = some t) (ht : t.isReference = true) (hw : w.isRef = true) (hd : decode c.code pc = .ok (.areturn, 1)) {fs : List Frame}
    (hl : ∀ (f : JFrame) (acts : List Action), f.method = m → f.locked = none → f.entered = [] → (doReturn e (T.setTop f) acts (some w)).1 = T.setFrames fs) : Steps p.tables e below (T.setTop (mkF m pc Ls (w :: rest))) (T.setFrames fs) :=
  retOut X hx hret (narA ht hw) (Or.inr (Or.inr (Or.inr (Or.inr ⟨rfl, ht, hw⟩)))) hd hl
theorem own_pack {n0 : Nat} {L Lc : List Loc} {k n rc rs C S' : Nat} (X : Stand p l e R s m args below meth c T L k n) (hl : L = locs ++ Lc) (hk : k = cells + rc) (hn : n = slots + rs) (N : Fr n0 locs) (Nq : Fr n0 Lc) (hC : cells + rc = C) (hS : slots + rs = S') : ∃ lc, Stand p l e R s m args below meth c T lc C S' ∧ Fr n0 lc := by
  subst hl hk hn hC hS; exact ⟨_, X, N.app Nq⟩
theorem own_pack1 {n0 : Nat} {a : Addr} {sl : Nat} (X : Stand p l e R s m args below meth c T (locs ++ [⟨a, sl⟩]) cells slots) (N : Fr n0 locs) (q : n0 ≤ a) : ∃ lc, Stand p l e R s m args below meth c T lc cells slots ∧ Fr n0 lc := ⟨_, X, Fr.snoc X N q⟩
/-- the run from a comes to an end that Q allows -/
def own_G (tb : Tables) (e : Env) (below : List Frame) (s : State) (Q : Option Value → Heap → List Loc → Prop) (C S : Nat) (a : State) : Prop :=
  ∃ (t : State) (o : Outcome), Steps tb e below a t ∧ t.status = .running ∧ Ended t below o ∧ ∃ v L, o = .returned v ∧ Q v t.heap L ∧ FrameEnd s o t L C S
theorem own_thr {tb : Tables} {Q : Option Value → Heap → List Loc → Prop} {C S : Nat} {a b : State} (h : ∀ t, Steps tb e below a t → Steps tb e below b t) (g : own_G tb e below s Q C S a) : own_G tb e below s Q C S b := by
  obtain ⟨t, o, h1, h2⟩ := g; exact ⟨t, o, h t h1, h2⟩
theorem own_end (X : Stand p l e R s m args below meth c T locs cells slots) (hlk : meth.locks = false) {v : Option Value} (hv : meth.sig.returnType = none → v = none) {g : JFrame} {Q : Option Value → Heap → List Loc → Prop} {C S : Nat}
    (hr : ∀ fs, (∀ (f : JFrame) (acts : List Action), f.method = m → f.locked = none → f.entered = [] → (doReturn e (T.setTop f) acts v).1 = T.setFrames fs) → Steps p.tables e below (T.setTop g) (T.setFrames fs))
    (hQ : Q v T.heap locs) (hC : cells ≤ C) (hS : slots ≤ S) : own_G p.tables e below s Q C S (T.setTop g) := by
  obtain ⟨fs, hr', hrun, hended, hW, hsame⟩ := X.leave (v := v) hv hlk
  exact ⟨_, _, hr fs hr', hrun, hended, _, _, rfl, hQ, ⟨_, rfl⟩, hW, hsame.mono hC hS⟩
def own_GW (tb : Tables) (e : Env) (below : List Frame) (s : State) (Q : Option Value → Heap → List Loc → Prop) (C S : Nat) (a : State) : Prop :=
  ∃ (t : State) (o : Outcome), Steps tb e below a t ∧ t.status = .running ∧ Ended t below o ∧ ∃ v L, o = .returned v ∧ Q v t.heap L ∧ ReturnedEndW s o t L C S
theorem own_thrW {tb : Tables} {Q : Option Value → Heap → List Loc → Prop} {C S : Nat} {a b : State} (h : ∀ t, Steps tb e below a t → Steps tb e below b t) (g : own_GW tb e below s Q C S a) : own_GW tb e below s Q C S b := by
  obtain ⟨t, o, h1, h2⟩ := g; exact ⟨t, o, h t h1, h2⟩
theorem own_endW {vm₁ : Vm} {k : Nat} (X : Stand p l e R (s.setVm vm₁) m args below meth c T locs cells slots) (hS : s.Since vm₁ k) (hk : k ≤ T.heap.size) (hlk : meth.locks = false) {v : Option Value} (hv : meth.sig.returnType = none → v = none) {g : JFrame} {Q : Option Value → Heap → List Loc → Prop} {C S : Nat}
    (hr : ∀ fs, (∀ (f : JFrame) (acts : List Action), f.method = m → f.locked = none → f.entered = [] → (doReturn e (T.setTop f) acts v).1 = T.setFrames fs) → Steps p.tables e below (T.setTop g) (T.setFrames fs))
    (hQ : Q v T.heap locs) (hC : cells ≤ C) (hSl : slots ≤ S) : own_GW p.tables e below s Q C S (T.setTop g) := by
  obtain ⟨fs, hr', hrun, hended, hret, hW, hint, hsame⟩ := X.leaveW hS hk (v := v) hv hlk
  exact ⟨_, _, hr fs hr', hrun, hended, _, _, rfl, hQ, ⟨_, rfl⟩, hW, hint, hsame.mono hC hSl⟩
def own_GH (tb : Tables) (e : Env) (below : List Frame) (s Z : State) (EL : List (String × Nat)) (Q : Option Value → Heap → List Loc → Prop) (C S : Nat) (a : State) : Prop :=
  ∃ (t : State) (o : Outcome), Steps tb e below a t ∧ t.status = .running ∧ Ended t below o ∧ ∃ v L, o = .returned v ∧ Q v t.heap L ∧ CHr Z EL s.vm s.heap t.vm t.heap ∧ ReturnedEndW s o t L C S
theorem own_thrH {tb : Tables} {Z : State} {EL : List (String × Nat)} {Q : Option Value → Heap → List Loc → Prop} {C S : Nat} {a b : State} (h : ∀ t, Steps tb e below a t → Steps tb e below b t) (g : own_GH tb e below s Z EL Q C S a) : own_GH tb e below s Z EL Q C S b := by
  obtain ⟨t, o, h1, h2⟩ := g; exact ⟨t, o, h t h1, h2⟩
theorem own_endH {vm₁ : Vm} {k : Nat} {Z : State} {a0 : Array Value} {EL : List (String × Nat)} {h0 H : Heap} (X : Stand p l e R (s.setVm vm₁) m args below meth c T locs cells slots) (hS : s.Since vm₁ k) (hk : k ≤ T.heap.size) (hZ : Z.Warmed39 vm₁) (hEL : EW Z a0 EL) (CH : CHr Z EL s.vm h0 vm₁ H) (hh : s.heap = h0) (eT : T.heap = H) (hlk : meth.locks = false) {v : Option Value} (hv : meth.sig.returnType = none → v = none) {g : JFrame} {Q : Option Value → Heap → List Loc → Prop} {C S : Nat}
    (hr : ∀ fs, (∀ (f : JFrame) (acts : List Action), f.method = m → f.locked = none → f.entered = [] → (doReturn e (T.setTop f) acts v).1 = T.setFrames fs) → Steps p.tables e below (T.setTop g) (T.setFrames fs))
    (hQ : Q v T.heap locs) (hC : cells ≤ C) (hSl : slots ≤ S) : own_GH p.tables e below s Z EL Q C S (T.setTop g) := by
  obtain ⟨fs, hr', hrun, hended, hret, hW, hint, hsame⟩ := X.leaveW hS hk (v := v) hv hlk
  have ch := CH.trans (CHv.at X hZ hEL CH.1)
  subst hh eT
  exact ⟨_, _, hr fs hr', hrun, hended, _, _, rfl, hQ, ch, ⟨_, rfl⟩, hW, hint, hsame.mono hC hSl⟩
theorem own_i {α : Type} {l : List α} {a : α} (i : Nat) (h : l[i]? = some a) : a ∈ l := List.mem_of_getElem? h
theorem own_safe {Z : State} {EL : List (String × Nat)} {vm : Vm} {h : Heap} {x : Addr} (hal : Z.vm.Alike vm) (E : Exa Z h x "java/lang/String") (F : Fld Z h x "java/lang/String" "value" "[B" .null) : Safe Z EL vm h x := fun B => by
  obtain ⟨p, hp, u, a, hb, q, ha, S, hy | hy⟩ := B
  · obtain ⟨cS, ⟨⟨g1, -, -, ⟨c1, k1, i1, f1, -⟩, -, -, -, v1, -⟩, -⟩, -⟩ := S
    obtain ⟨cell, cf, k, i, f, h1, h2, h3, h4, h5, h6, h7⟩ := F
    subst hy
    have g1' : h[q.sa]? = some q.sC := g1
    cases h1.symm.trans g1'
    obtain ⟨k3, e3, -⟩ := State.fieldFound?_setVm (s := Z) hal h2
    have e4 := (show (Wst Z vm h).fieldFound? _ _ _ = _ from e3).symm.trans f1
    simp only [Option.some.injEq, Prod.mk.injEq] at e4
    rw [← e4.2.2.2, h7] at v1
    cases v1
  · have hd := S.hd
    obtain ⟨cS, -, -, hB, -⟩ := S
    obtain ⟨cell, k, h1, h2, h3, -⟩ := E
    subst hy
    have hd' : h[q.sd]? = some q.SA := hd
    cases h1.symm.trans hd'
    have hB' : Z.vm.findClass "[B" = some q.SA.cls := by rw [← hal.findClass]; exact hB
    exact ids_ne h2 hB' (by decide) rfl
end New
end Jvm.RoadKit
/- laws to paste: Road.backV (cut by pick.py; bodies as the Statement names them) -/
namespace Jvm.Pilot.@@N@@
namespace StrChars
open Jvm Sem ClassFile Op Lib Jvm.Stand Jvm.Free.XT Jvm.Free.ALB Jvm.Free.JM Jvm.Free
open Jvm.Lib.Cold (StaticIs)
/-- a char array whose places are chars -/
def Ch (a : Addr) (A : Cell) (U : State) : Prop := Arr .char a A U ∧ Typed .char A
theorem Ch.mv {a : Addr} {A : Cell} {U U' : State} (h : Ch a A U) (hal : U.vm.Alike U'.vm) (hh : U'.heap = U.heap) : Ch a A U' := ⟨h.1.mv hal hh, h.2⟩
theorem Ch.keep {a : Addr} {A : Cell} {U U' : State} (h : Ch a A U) (hal : U.vm.Alike U'.vm) (hk : U'.heap[a]? = some A) : Ch a A U' := ⟨h.1.keep hal hk, h.2⟩
/-- what place i of a char[]'s cell holds -/
def cv (A : Cell) (i : Nat) : Int32 := match A.slots[i]? with | some (.int x) => x | _ => 0
theorem Ch.get {a : Addr} {A : Cell} {U : State} (h : Ch a A U) {i : Nat} (hi : i < A.slots.size) : A.slots[i]? = some (.int (cv A i)) := by
  have e := Array.getElem?_eq_getElem hi
  have f := h.2 i _ e
  unfold cv; rw [e]
  generalize A.slots[i] = v at f
  cases v <;> simp [fits] at f ⊢
/-- the byte that i2b leaves of a char -/
def lo8 (x : Int32) : Int32 := x.toInt8.toInt32
theorem fits_lo8 (y : Int32) : fits .byte (.int (lo8 y)) = true := by
  have h1 := y.toInt8.le_toInt
  have h2 := y.toInt8.toInt_lt
  simp only [lo8, fits, Bool.and_eq_true, decide_eq_true_eq, Int32.le_iff_toInt_le, Int8.toInt_toInt32, show (-128 : Int32).toInt = -128 from by decide, show (127 : Int32).toInt = 127 from by decide]
  omega
/-- A' is A but that each place j of lo .. hi - 1 holds f j -/
def Laid (A A' : Cell) (lo hi : Nat) (f : Nat → Value) : Prop := A'.cls = A.cls ∧ A'.vm = A.vm ∧ A'.slots.size = A.slots.size ∧ ∀ i, A'.slots[i]? = if lo ≤ i ∧ i < hi then some (f i) else A.slots[i]?
theorem Laid.zero (A : Cell) (lo : Nat) (f : Nat → Value) : Laid A A lo (lo + 0) f := ⟨rfl, rfl, rfl, fun i => by rw [if_neg (by omega)]⟩
theorem Laid.step {A Ak : Cell} {lo k : Nat} {f : Nat → Value} {v : Value} (h : Laid A Ak lo k f) (hlo : lo ≤ k) (hk : k < Ak.slots.size) (hv : v = f k) : Laid A (Ak.setSlot k v) lo (k + 1) f := by
  refine ⟨h.1, h.2.1, by simpa [Cell.setSlot] using h.2.2.1, fun i => ?_⟩
  by_cases e : k = i
  · subst e; rw [Cell.slots_setSlot_self v hk, if_pos (by omega), hv]
  · rw [Cell.slots_setSlot_ne v e, h.2.2.2 i]
    by_cases q : lo ≤ i ∧ i < k
    · rw [if_pos q, if_pos (by omega)]
    · rw [if_neg q, if_neg (by omega)]
def U16 : String := "java/lang/StringUTF16"
namespace Cmp5
def yN : MethodName := ⟨"java/lang/StringUTF16", "compress", "([CI[BII)I"⟩
abbrev yB : ByteArray := jdk_52_method_21_code
theorem d0 : decode yB 0 = .ok (.iconst 0, 1) := by decide +kernel
theorem d1 : decode yB 1 = .ok (.istore 5, 2) := by decide +kernel
theorem d3 : decode yB 3 = .ok (.iload 5, 2) := by decide +kernel
theorem d5 : decode yB 5 = .ok (.iload 4, 2) := by decide +kernel
theorem d7 : decode yB 7 = .ok (.if_icmp (.ge) 37, 3) := by decide +kernel
theorem d10 : decode yB 10 = .ok (.aload_n 0, 1) := by decide +kernel
theorem d11 : decode yB 11 = .ok (.iload_n 1, 1) := by decide +kernel
theorem d12 : decode yB 12 = .ok (.caload, 1) := by decide +kernel
theorem d13 : decode yB 13 = .ok (.istore 6, 2) := by decide +kernel
theorem d15 : decode yB 15 = .ok (.iload 6, 2) := by decide +kernel
theorem d17 : decode yB 17 = .ok (.sipush 255, 3) := by decide +kernel
theorem d20 : decode yB 20 = .ok (.if_icmp (.le) 6, 3) := by decide +kernel
theorem d26 : decode yB 26 = .ok (.aload_n 2, 1) := by decide +kernel
theorem d27 : decode yB 27 = .ok (.iload_n 3, 1) := by decide +kernel
theorem d28 : decode yB 28 = .ok (.iload 6, 2) := by decide +kernel
theorem d30 : decode yB 30 = .ok (.i2b, 1) := by decide +kernel
theorem d31 : decode yB 31 = .ok (.bastore, 1) := by decide +kernel
theorem d32 : decode yB 32 = .ok (.iinc 1 1, 3) := by decide +kernel
theorem d35 : decode yB 35 = .ok (.iinc 3 1, 3) := by decide +kernel
theorem d38 : decode yB 38 = .ok (.iinc 5 1, 3) := by decide +kernel
theorem d41 : decode yB 41 = .ok (.goto (-38), 3) := by decide +kernel
theorem d44 : decode yB 44 = .ok (.iload 4, 2) := by decide +kernel
theorem d46 : decode yB 46 = .ok (.ireturn, 1) := by decide +kernel
def site : List Cond := []
def tab : Cond := tabOf yN yB 7 (some .int) site
def P (b : Addr) (A : Cell) (d : Addr) (B : Cell) (o q len : Nat) (args : Array Value) (s : State) : Prop := args = #[.ref b, .int (Int32.ofNat o), .ref d, .int (Int32.ofNat q), .int (Int32.ofNat len)] ∧ Ch b A s ∧ Arr .byte d B s ∧ b ≠ d ∧ o + len ≤ A.slots.size ∧ q + len ≤ B.slots.size ∧ ∀ i, i < len → ¬ 255 < cv A (o + i)
def E (b : Addr) (A : Cell) (d : Addr) (B : Cell) (o q len : Nat) (r : Option Value) (s u : State) : Prop := r = some (.int (Int32.ofNat len)) ∧ ∃ B', Put d B' s u ∧ Laid B B' q (q + len) (fun j => Value.int (lo8 (cv A (o + (j - q)))))
/-- no char of the range above 255: len; the places written hold each char's low byte -/
theorem law (l : Launch) (b : Addr) (A : Cell) (d : Addr) (B : Cell) (o q len : Nat) : Law l yN 5 5 0 0 yB 7 (some .int) site (P b A d B o q len) (E b A d B o q len) (copyLocs d q len) 0 0 := by
  refine Law.of_walk (plainFor_of_name (by decide +kernel)) (by decide +kernel) (by decide +kernel) (by decide) (fun _ _ h => by rw [h.1]; rfl) (fun _ U U' hal hh h => ⟨h.1, h.2.1.mv hal hh, h.2.2.1.mv hal hh, h.2.2.2⟩) (fun r U U' V V' h1 hal h2 h => ⟨h.1, h.2.elim fun B' q => ⟨B', q.1.mv h1 h2, q.2⟩⟩) ?_
  intro p e s m args below meth c s₁ X0 hexec hbytes hml hret hlk hnm hown hh0 W hP
  obtain ⟨rfl, hA, hB, hne, l1, l2, hp⟩ := hP
  have c1 : Steps p.tables e below (s₁.setTop (entryFrame m #[.ref b, .int (Int32.ofNat o), .ref d, .int (Int32.ofNat q), .int (Int32.ofNat len)] 7)) (s₁.setTop (mkF m 0 #[.val (.ref b), .val (.int (Int32.ofNat o)), .val (.ref d), .val (.int (Int32.ofNat q)), .val (.int (Int32.ofNat len)), .unset, .unset] [])) := entry rfl
  have hA0 := hA.1.mv X0.warmed.alike hh0
  have hB0 := hB.mv X0.warmed.alike hh0
  have a31 := hA.1.2.2.2
  have c2 : Steps p.tables e below (s₁.setTop (entryFrame m #[.ref b, .int (Int32.ofNat o), .ref d, .int (Int32.ofNat q), .int (Int32.ofNat len)] 7)) (s₁.setTop (mkF m 3 #[.val (.ref b), .val (.int (Int32.ofNat o)), .val (.ref d), .val (.int (Int32.ofNat q)), .val (.int (Int32.ofNat len)), .val (.int 0), .unset] [])) := c1.trans (by
    refine iconstV X0.here hexec rfl 0 (hb hbytes d0) (by decide) ?_
    refine XS.istore X0.here hexec rfl (hb hbytes d1) rfl rfl ?_
    exact Steps.refl _)
  have loop : ∀ (r i : Nat), i + r = len → ∀ (z : Slot), (z = .unset ∨ ∃ w, z = .val w ∧ w.category = 1) → ∀ (Tl : State) (Bk : Cell), Stand p l e { frames := 0, locals := 0, cells := 0, slots := 0 } s m #[.ref b, .int (Int32.ofNat o), .ref d, .int (Int32.ofNat q), .int (Int32.ofNat len)] below meth c Tl ([] ++ copyLocs d q i) 0 0 → Put d Bk s₁ Tl → Laid B Bk q (q + i) (fun j => Value.int (lo8 (cv A (o + (j - q))))) →
      Steps p.tables e below (s₁.setTop (entryFrame m #[.ref b, .int (Int32.ofNat o), .ref d, .int (Int32.ofNat q), .int (Int32.ofNat len)] 7)) (Tl.setTop (mkF m 3 #[.val (.ref b), .val (.int (Int32.ofNat (o + i))), .val (.ref d), .val (.int (Int32.ofNat (q + i))), .val (.int (Int32.ofNat len)), .val (.int (Int32.ofNat i)), z] [])) → ∃ (T' : State) (B' : Cell) (z' : Slot), Stand p l e { frames := 0, locals := 0, cells := 0, slots := 0 } s m #[.ref b, .int (Int32.ofNat o), .ref d, .int (Int32.ofNat q), .int (Int32.ofNat len)] below meth c T' ([] ++ copyLocs d q len) 0 0 ∧ Put d B' s₁ T' ∧ Laid B B' q (q + len) (fun j => Value.int (lo8 (cv A (o + (j - q))))) ∧
      Steps p.tables e below (s₁.setTop (entryFrame m #[.ref b, .int (Int32.ofNat o), .ref d, .int (Int32.ofNat q), .int (Int32.ofNat len)] 7)) (T'.setTop (mkF m 3 #[.val (.ref b), .val (.int (Int32.ofNat (o + len))), .val (.ref d), .val (.int (Int32.ofNat (q + len))), .val (.int (Int32.ofNat len)), .val (.int (Int32.ofNat len)), z'] [])) := by
    intro r
    induction r with
    | zero =>
      intro i hi z hz Tl Bk Xl pl fl cl
      have hil : i = len := by omega
      rw [hil] at Xl fl cl
      exact ⟨Tl, Bk, z, Xl, pl, fl, cl⟩
    | succ r ih =>
      intro i hi z hz Tl Bk Xl pl fl cl
      have all := X0.warmed.alike.symm.trans Xl.warmed.alike
      have hAl := hA0.keep all (pl.other hne hA0.1)
      have hBk := hB0.like all pl.1 fl.1 fl.2.1 fl.2.2.1
      have hlt : q + i < Bk.slots.size := by rw [fl.2.2.1]; omega
      have c3 : Steps p.tables e below (s₁.setTop (entryFrame m #[.ref b, .int (Int32.ofNat o), .ref d, .int (Int32.ofNat q), .int (Int32.ofNat len)] 7)) (Tl.setTop (mkF m 12 #[.val (.ref b), .val (.int (Int32.ofNat (o + i))), .val (.ref d), .val (.int (Int32.ofNat (q + i))), .val (.int (Int32.ofNat len)), .val (.int (Int32.ofNat i)), z] [.int (Int32.ofNat (o + i)), .ref b])) := cl.trans (by
        refine XS.iload Xl.here hexec rfl (hb hbytes d3) rfl ?_
        refine XS.iload Xl.here hexec rfl (hb hbytes d5) rfl ?_
        refine XS.icmpNo Xl.here hexec rfl (hb hbytes d7) rfl (ii_ge_f (lt32 (by omega) (by omega))) ?_
        refine XS.aloadN Xl.here hexec rfl (hb hbytes d10) rfl rfl ?_
        refine XS.iloadN Xl.here hexec rfl (hb hbytes d11) rfl ?_
        exact Steps.refl _)
      have c4 : Steps p.tables e below (s₁.setTop (entryFrame m #[.ref b, .int (Int32.ofNat o), .ref d, .int (Int32.ofNat q), .int (Int32.ofNat len)] 7)) (Tl.setTop (mkF m 13 #[.val (.ref b), .val (.int (Int32.ofNat (o + i))), .val (.ref d), .val (.int (Int32.ofNat (q + i))), .val (.int (Int32.ofNat len)), .val (.int (Int32.ofNat i)), z] [.int (cv A (o + i))])) := c3.trans (by
        refine Xl.aget hexec hAl rfl (hA.get (i := o + i) (by omega)) rfl rfl (hb hbytes d12) ?_
        exact Steps.refl _)
      have c5 : Steps p.tables e below (s₁.setTop (entryFrame m #[.ref b, .int (Int32.ofNat o), .ref d, .int (Int32.ofNat q), .int (Int32.ofNat len)] 7)) (Tl.setTop (mkF m 15 #[.val (.ref b), .val (.int (Int32.ofNat (o + i))), .val (.ref d), .val (.int (Int32.ofNat (q + i))), .val (.int (Int32.ofNat len)), .val (.int (Int32.ofNat i)), .val (.int (cv A (o + i)))] [])) := c4.trans (by
        refine XS.istoreS Xl.here hexec rfl (hb hbytes d13) rfl rfl hz ?_
        exact Steps.refl _)
      have c6 : Steps p.tables e below (s₁.setTop (entryFrame m #[.ref b, .int (Int32.ofNat o), .ref d, .int (Int32.ofNat q), .int (Int32.ofNat len)] 7)) (Tl.setTop (mkF m 31 #[.val (.ref b), .val (.int (Int32.ofNat (o + i))), .val (.ref d), .val (.int (Int32.ofNat (q + i))), .val (.int (Int32.ofNat len)), .val (.int (Int32.ofNat i)), .val (.int (cv A (o + i)))] [.int (lo8 (cv A (o + i))), .int (Int32.ofNat (q + i)), .ref d])) := c5.trans (by
        refine XS.iload Xl.here hexec rfl (hb hbytes d15) rfl ?_
        refine sipushV Xl.here hexec rfl 255 (hb hbytes d17) (by decide) ?_
        refine XS.icmpYes Xl.here hexec rfl (pc0 := 20) rfl (hb hbytes d20) rfl (ii_le_t (hp i (by omega))) (by decide) rfl ?_
        refine XS.aloadN Xl.here hexec rfl (hb hbytes d26) rfl rfl ?_
        refine XS.iloadN Xl.here hexec rfl (hb hbytes d27) rfl ?_
        refine XS.iload Xl.here hexec rfl (hb hbytes d28) rfl ?_
        refine i2b Xl.here hexec rfl (hb hbytes d30) rfl ?_
        exact Steps.refl _)
      obtain ⟨T7, X7, p7, st7⟩ := Xl.aput hexec hBk rfl hlt rfl (fits_lo8 (cv A (o + i))) (g := (mkF m 31 #[.val (.ref b), .val (.int (Int32.ofNat (o + i))), .val (.ref d), .val (.int (Int32.ofNat (q + i))), .val (.int (Int32.ofNat len)), .val (.int (Int32.ofNat i)), .val (.int (cv A (o + i)))] [.int (lo8 (cv A (o + i))), .int (Int32.ofNat (q + i)), .ref d])) rfl (rest := []) rfl (hb hbytes d31)
      have c8 : Steps p.tables e below (s₁.setTop (entryFrame m #[.ref b, .int (Int32.ofNat o), .ref d, .int (Int32.ofNat q), .int (Int32.ofNat len)] 7)) (T7.setTop (mkF m 32 #[.val (.ref b), .val (.int (Int32.ofNat (o + i))), .val (.ref d), .val (.int (Int32.ofNat (q + i))), .val (.int (Int32.ofNat len)), .val (.int (Int32.ofNat i)), .val (.int (cv A (o + i)))] [])) := c6.trans (st7 _ (Steps.refl _))
      have c9 : Steps p.tables e below (s₁.setTop (entryFrame m #[.ref b, .int (Int32.ofNat o), .ref d, .int (Int32.ofNat q), .int (Int32.ofNat len)] 7)) (T7.setTop (mkF m 3 #[.val (.ref b), .val (.int (Int32.ofNat (o + i) + 1)), .val (.ref d), .val (.int (Int32.ofNat (q + i) + 1)), .val (.int (Int32.ofNat len)), .val (.int (Int32.ofNat i + 1)), .val (.int (cv A (o + i)))] [])) := c8.trans (by
        refine iincV X7.here hexec rfl 1 (hb hbytes d32) (by decide) rfl rfl ?_
        refine iincV X7.here hexec rfl 1 (hb hbytes d35) (by decide) rfl rfl ?_
        refine iincV X7.here hexec rfl 1 (hb hbytes d38) (by decide) rfl rfl ?_
        refine XS.goto X7.here hexec rfl (pc0 := 41) rfl (hb hbytes d41) (by decide) rfl ?_
        exact Steps.refl _)
      have c10 : Steps p.tables e below (s₁.setTop (entryFrame m #[.ref b, .int (Int32.ofNat o), .ref d, .int (Int32.ofNat q), .int (Int32.ofNat len)] 7)) (T7.setTop (mkF m 3 #[.val (.ref b), .val (.int (Int32.ofNat (o + (i + 1)))), .val (.ref d), .val (.int (Int32.ofNat (q + (i + 1)))), .val (.int (Int32.ofNat len)), .val (.int (Int32.ofNat (i + 1))), .val (.int (cv A (o + i)))] [])) := by
        have := c9
        rw [succ32, succ32, succ32] at this
        exact this
      exact ih (i + 1) (by omega) _ (Or.inr ⟨_, rfl, rfl⟩) T7 _ (by rw [copyLocs_step, ← List.append_assoc]; exact X7) (pl.trans p7) (fl.step (by omega) hlt (by simp)) c10
  obtain ⟨T9, B9, z9, X9, p9, f9, g9⟩ := loop len 0 (by omega) .unset (Or.inl rfl) s₁ B (by simpa [copyLocs] using X0) ⟨hB0.1, fun _ _ => rfl, rfl⟩ (Laid.zero _ _ _) c2
  have c11 : Steps p.tables e below (s₁.setTop (entryFrame m #[.ref b, .int (Int32.ofNat o), .ref d, .int (Int32.ofNat q), .int (Int32.ofNat len)] 7)) (T9.setTop (mkF m 46 #[.val (.ref b), .val (.int (Int32.ofNat (o + len))), .val (.ref d), .val (.int (Int32.ofNat (q + len))), .val (.int (Int32.ofNat len)), .val (.int (Int32.ofNat len)), z9] [.int (Int32.ofNat len)])) := g9.trans (by
    refine XS.iload X9.here hexec rfl (hb hbytes d3) rfl ?_
    refine XS.iload X9.here hexec rfl (hb hbytes d5) rfl ?_
    refine XS.icmpYes X9.here hexec rfl (pc0 := 7) rfl (hb hbytes d7) rfl (ii_ge_t (nlt32 (by omega) (Nat.le_refl _))) (by decide) rfl ?_
    refine XS.iload X9.here hexec rfl (hb hbytes d44) rfl ?_
    exact Steps.refl _)
  exact ⟨T9, some (.int (Int32.ofNat len)), _, _, _, X9, by simp, rfl, rfl, (fun h => by cases h), ⟨rfl, B9, p9.from hh0, f9⟩, fun fs hl => c11.trans (X9.ireturnOut hexec hret rfl (Or.inl rfl) (hb hbytes d46) hl)⟩
end Cmp5
namespace Cmp3
def yN : MethodName := ⟨"java/lang/StringUTF16", "compress", "([CII)[B"⟩
abbrev yB : ByteArray := jdk_52_method_16_code
theorem d0 : decode yB 0 = .ok (.iload_n 2, 1) := by decide +kernel
theorem d1 : decode yB 1 = .ok (.newarray .byte, 2) := by decide +kernel
theorem d3 : decode yB 3 = .ok (.astore_n 3, 1) := by decide +kernel
theorem d4 : decode yB 4 = .ok (.aload_n 0, 1) := by decide +kernel
theorem d5 : decode yB 5 = .ok (.iload_n 1, 1) := by decide +kernel
theorem d6 : decode yB 6 = .ok (.aload_n 3, 1) := by decide +kernel
theorem d7 : decode yB 7 = .ok (.iconst 0, 1) := by decide +kernel
theorem d8 : decode yB 8 = .ok (.iload_n 2, 1) := by decide +kernel
theorem d9 : decode yB 9 = .ok (.invokestatic 115, 3) := by decide +kernel
theorem d12 : decode yB 12 = .ok (.istore 4, 2) := by decide +kernel
theorem d14 : decode yB 14 = .ok (.iload 4, 2) := by decide +kernel
theorem d16 : decode yB 16 = .ok (.iload_n 2, 1) := by decide +kernel
theorem d17 : decode yB 17 = .ok (.if_icmp (.eq) 40, 3) := by decide +kernel
theorem d57 : decode yB 57 = .ok (.aload_n 3, 1) := by decide +kernel
theorem d58 : decode yB 58 = .ok (.areturn, 1) := by decide +kernel
def site : List Cond := [.arrayClass .byte, Cmp5.tab] ++ staticW U16 115 Cmp5.yN
def tab : Cond := tabOf yN yB 6 (some (.array .byte)) site
def P (b : Addr) (A : Cell) (o len : Nat) (args : Array Value) (s : State) : Prop := args = #[.ref b, .int (Int32.ofNat o), .int (Int32.ofNat len)] ∧ Ch b A s ∧ o + len ≤ A.slots.size ∧ len ≤ 536870912 ∧ ∀ i, i < len → ¬ 255 < cv A (o + i)
def E (b : Addr) (A : Cell) (o len : Nat) (r : Option Value) (s u : State) : Prop := NewArr .byte "[B" len (fun j => .int (lo8 (cv A (o + j)))) r s u ∧ u.heap.size = s.heap.size + 1
/-- no char of the range above 255: a new byte[] of their low bytes -/
theorem law (l : Launch) (b : Addr) (A : Cell) (o len : Nat) : Law l yN 3 3 1 18 yB 6 (some (.array .byte)) site (P b A o len) (E b A o len) [] 1 len := by
  refine Law.of_walk (plainFor_of_name (by decide +kernel)) (by decide +kernel) (by decide +kernel) (by decide) (fun _ _ h => by rw [h.1]; rfl) (fun _ U U' hal hh h => ⟨h.1, h.2.1.mv hal hh, h.2.2⟩) (fun r U U' V V' h1 hal h2 h => ⟨NewArr.mv r U U' V V' h1 hal h2 h.1, by rw [h1, h2]; exact h.2⟩) ?_
  intro p e s m args below meth c s₁ X0 hexec hbytes hml hret hlk hnm hown hh0 W hP
  obtain ⟨rfl, hA, l1, l2, hp⟩ := hP
  have a31 := hA.1.2.2.2
  have c1 : Steps p.tables e below (s₁.setTop (entryFrame m #[.ref b, .int (Int32.ofNat o), .int (Int32.ofNat len)] 6)) (s₁.setTop (mkF m 0 #[.val (.ref b), .val (.int (Int32.ofNat o)), .val (.int (Int32.ofNat len)), .unset, .unset, .unset] [])) := entry rfl
  have c2 : Steps p.tables e below (s₁.setTop (entryFrame m #[.ref b, .int (Int32.ofNat o), .int (Int32.ofNat len)] 6)) (s₁.setTop (mkF m 1 #[.val (.ref b), .val (.int (Int32.ofNat o)), .val (.int (Int32.ofNat len)), .unset, .unset, .unset] [.int (Int32.ofNat len)])) := c1.trans (by
    refine XS.iloadN X0.here hexec rfl (hb hbytes d0) rfl ?_
    exact Steps.refl _)
  obtain ⟨T3, B3, X3, ba3, bs3, bv3, bh3, bf3, st3⟩ := X0.anew hexec (atype := .byte) (wk W (.arrayClass .byte)) rfl (by show len * 1 ≤ _; omega) (by omega) (g := (mkF m 1 #[.val (.ref b), .val (.int (Int32.ofNat o)), .val (.int (Int32.ofNat len)), .unset, .unset, .unset] [.int (Int32.ofNat len)])) rfl (hb hbytes d1) (rest := []) rfl (Nat.le_refl _) (by show 0 + len ≤ len; omega)
  rw [hh0] at ba3 st3
  have kp3 : XT.Kept s T3 := (XT.Kept.of_eq hh0).push bh3
  have hA3 := hA.keep X3.warmed.alike (kp3 _ _ hA.1.1)
  have hne : b ≠ s.heap.size := hA.1.ne
  have c4 : Steps p.tables e below (s₁.setTop (entryFrame m #[.ref b, .int (Int32.ofNat o), .int (Int32.ofNat len)] 6)) (T3.setTop (mkF m 3 #[.val (.ref b), .val (.int (Int32.ofNat o)), .val (.int (Int32.ofNat len)), .unset, .unset, .unset] [.ref s.heap.size])) := c2.trans (st3 _ (Steps.refl _))
  have c5 : Steps p.tables e below (s₁.setTop (entryFrame m #[.ref b, .int (Int32.ofNat o), .int (Int32.ofNat len)] 6)) (T3.setTop (mkF m 9 #[.val (.ref b), .val (.int (Int32.ofNat o)), .val (.int (Int32.ofNat len)), .val (.ref s.heap.size), .unset, .unset] [.int (Int32.ofNat len), .int 0, .ref s.heap.size, .int (Int32.ofNat o), .ref b])) := c4.trans (by
    refine XS.astoreN X3.here hexec rfl (hb hbytes d3) rfl rfl rfl ?_
    refine XS.aloadN X3.here hexec rfl (hb hbytes d4) rfl rfl ?_
    refine XS.iloadN X3.here hexec rfl (hb hbytes d5) rfl ?_
    refine XS.aloadN X3.here hexec rfl (hb hbytes d6) rfl rfl ?_
    refine iconstV X3.here hexec rfl 0 (hb hbytes d7) (by decide) ?_
    refine XS.iloadN X3.here hexec rfl (hb hbytes d8) rfl ?_
    exact Steps.refl _)
  obtain ⟨v6, T6, X6, E6, g6⟩ := X3.callS hexec (Cmp5.law l b A s.heap.size B3 o 0 len) hown (wks W (staticW U16 115 Cmp5.yN)) (wk W Cmp5.tab) (W := 0) (Nat.le_of_ble_eq_true rfl) (Nat.le_of_ble_eq_true rfl) (Nat.le_refl _) (by show 0 + len + 0 ≤ len; omega) (g := (mkF m 9 #[.val (.ref b), .val (.int (Int32.ofNat o)), .val (.int (Int32.ofNat len)), .val (.ref s.heap.size), .unset, .unset] [.int (Int32.ofNat len), .int (Int32.ofNat 0), .ref s.heap.size, .int (Int32.ofNat o), .ref b])) rfl (by rw [hml]; rfl) c5 (argsL := [.ref b, .int (Int32.ofNat o), .ref s.heap.size, .int (Int32.ofNat 0), .int (Int32.ofNat len)]) (rest := []) rfl rfl (by show 2 * 0 + 0 ≤ _; decide) (hb hbytes d9) (⟨rfl, hA3, ba3, hne, l1, by rw [bs3]; simp, hp⟩)
  obtain ⟨rfl, B6, p6, f6⟩ := E6
  have c7 : Steps p.tables e below (s₁.setTop (entryFrame m #[.ref b, .int (Int32.ofNat o), .int (Int32.ofNat len)] 6)) (T6.setTop (mkF m 12 #[.val (.ref b), .val (.int (Int32.ofNat o)), .val (.int (Int32.ofNat len)), .val (.ref s.heap.size), .unset, .unset] [.int (Int32.ofNat len)])) := g6
  have c8 : Steps p.tables e below (s₁.setTop (entryFrame m #[.ref b, .int (Int32.ofNat o), .int (Int32.ofNat len)] 6)) (T6.setTop (mkF m 58 #[.val (.ref b), .val (.int (Int32.ofNat o)), .val (.int (Int32.ofNat len)), .val (.ref s.heap.size), .val (.int (Int32.ofNat len)), .unset] [.ref s.heap.size])) := c7.trans (by
    refine XS.istore X6.here hexec rfl (hb hbytes d12) rfl rfl ?_
    refine XS.iload X6.here hexec rfl (hb hbytes d14) rfl ?_
    refine XS.iloadN X6.here hexec rfl (hb hbytes d16) rfl ?_
    refine XS.icmpYes X6.here hexec rfl (pc0 := 17) rfl (hb hbytes d17) rfl (ii_eq_t rfl) (by decide) rfl ?_
    refine XS.aloadN X6.here hexec rfl (hb hbytes d57) rfl rfl ?_
    exact Steps.refl _)
  have X8 := X6.wide (L' := []) (cells' := 1) (slots' := len) (fun x hx hlt => by
    simp only [List.nil_append, copyLocs, List.mem_map, List.mem_range] at hx
    obtain ⟨i, -, rfl⟩ := hx
    exact absurd hlt (Nat.lt_irrefl _)) (Nat.le_refl _) (by omega)
  exact ⟨T6, some (.ref s.heap.size), _, _, _, X8, rfl, rfl, rfl, (fun h => by cases h), ⟨⟨rfl, B6, ba3.like (X3.warmed.alike.symm.trans X6.warmed.alike) p6.1 f6.1 f6.2.1 f6.2.2.1, f6.2.1.trans bv3, by rw [X6.warmed.alike.findClass, f6.1]; exact bf3, by rw [f6.2.2.1, bs3]; simp, fun j hj => by rw [f6.2.2.2 j, if_pos (by omega)]; rfl, kp3.put p6 (Nat.le_refl _)⟩, by rw [p6.2.2, bh3, hh0]; simp⟩, fun fs hl => c8.trans (X8.areturnOut hexec rfl hret rfl (hb hbytes d58) hl)⟩
end Cmp3
namespace CodL
def yN : MethodName := ⟨"java/lang/StringUTF16", "coderFromArrayLen", "([BI)B"⟩
abbrev yB : ByteArray := jdk_52_method_15_code
theorem d0 : decode yB 0 = .ok (.iload_n 1, 1) := by decide +kernel
theorem d1 : decode yB 1 = .ok (.aload_n 0, 1) := by decide +kernel
theorem d2 : decode yB 2 = .ok (.arraylength, 1) := by decide +kernel
theorem d3 : decode yB 3 = .ok (.isub, 1) := by decide +kernel
theorem d4 : decode yB 4 = .ok (.bipush 31, 2) := by decide +kernel
theorem d6 : decode yB 6 = .ok (.iushr, 1) := by decide +kernel
theorem d7 : decode yB 7 = .ok (.i2b, 1) := by decide +kernel
theorem d8 : decode yB 8 = .ok (.ireturn, 1) := by decide +kernel
def site : List Cond := []
def tab : Cond := tabOf yN yB 2 (some .byte) site
def P (d : Addr) (B : Cell) (args : Array Value) (s : State) : Prop := args = #[.ref d, .int (Int32.ofNat B.slots.size)] ∧ Arr .byte d B s
def E (r : Option Value) (s u : State) : Prop := XT.PureE (some (.int 0)) r s u
/-- an array as long as the number of chars: LATIN1 -/
theorem law (l : Launch) (d : Addr) (B : Cell) : Law l yN 2 2 0 0 yB 2 (some .byte) site (P d B) E [] 0 0 := by
  refine Law.of_walk (plainFor_of_name (by decide +kernel)) (by decide +kernel) (by decide +kernel) (by decide) (fun _ _ h => by rw [h.1]; rfl) (fun _ U U' hal hh h => ⟨h.1, h.2.mv hal hh⟩) (fun r U U' V V' h1 hal h2 h => XT.PureE.mv r U U' V V' h1 hal h2 h) ?_
  intro p e s m args below meth c s₁ X0 hexec hbytes hml hret hlk hnm hown hh0 W hP
  obtain ⟨rfl, hB⟩ := hP
  have hB0 := hB.mv X0.warmed.alike hh0
  have c1 : Steps p.tables e below (s₁.setTop (entryFrame m #[.ref d, .int (Int32.ofNat B.slots.size)] 2)) (s₁.setTop (mkF m 0 #[.val (.ref d), .val (.int (Int32.ofNat B.slots.size))] [])) := entry rfl
  have c2 : Steps p.tables e below (s₁.setTop (entryFrame m #[.ref d, .int (Int32.ofNat B.slots.size)] 2)) (s₁.setTop (mkF m 2 #[.val (.ref d), .val (.int (Int32.ofNat B.slots.size))] [.ref d, .int (Int32.ofNat B.slots.size)])) := c1.trans (by
    refine XS.iloadN X0.here hexec rfl (hb hbytes d0) rfl ?_
    refine XS.aloadN X0.here hexec rfl (hb hbytes d1) rfl rfl ?_
    exact Steps.refl _)
  have c3 : Steps p.tables e below (s₁.setTop (entryFrame m #[.ref d, .int (Int32.ofNat B.slots.size)] 2)) (s₁.setTop (mkF m 8 #[.val (.ref d), .val (.int (Int32.ofNat B.slots.size))] [.int (lo8 (ushr (Int32.ofNat B.slots.size - Int32.ofNat B.slots.size) 31))])) := c2.trans (by
    refine X0.alen hexec hB0 rfl rfl (hb hbytes d2) ?_
    refine XS.isub X0.here hexec rfl (hb hbytes d3) rfl ?_
    refine bipushV X0.here hexec rfl 31 (hb hbytes d4) (by decide) ?_
    refine iushr X0.here hexec rfl (hb hbytes d6) rfl ?_
    refine i2b X0.here hexec rfl (hb hbytes d7) rfl ?_
    exact Steps.refl _)
  have e0 : lo8 (ushr (Int32.ofNat B.slots.size - Int32.ofNat B.slots.size) 31) = 0 := by rw [Int32.sub_self]; decide
  rw [e0] at c3
  exact ⟨s₁, some (.int 0), _, _, _, X0, rfl, rfl, rfl, (fun h => by cases h), ⟨rfl, hh0⟩, fun fs hl => c3.trans (X0.ireturnOut hexec hret rfl (Or.inr (Or.inr (Or.inl rfl))) (hb hbytes d8) hl)⟩
end CodL
/-- the String at a is Latin-1 over a new byte[] (the heap's one new cell): the low bytes of the len chars of A from o on; every cell but a is kept -/
def Got (a : Addr) (D : Cell) (fV fC : Field) (A : Cell) (o len : Nat) (r : Option Value) (s u : State) : Prop := r = none ∧ ∃ D' V : Cell, Blank "java/lang/String" a D' u ∧ Same D D' [fV.slot, fC.slot] ∧ D'.slots[fV.slot]? = some (.ref s.heap.size) ∧ D'.slots[fC.slot]? = some (.int 0) ∧ Arr .byte s.heap.size V u ∧ V.vm = .none ∧ u.vm.findClass "[B" = some V.cls ∧ V.slots.size = len ∧ (∀ j, j < len → V.slots[j]? = some (.int (lo8 (cv A (o + j))))) ∧ (∀ (y : Addr) (c : Cell), y ≠ a → s.heap[y]? = some c → u.heap[y]? = some c) ∧ u.heap.size = s.heap.size + 1
theorem Got.mv {a : Addr} {D A : Cell} {fV fC : Field} {o len : Nat} : ∀ r (U U' V V' : State), U'.heap = U.heap → V.vm.Alike V'.vm → V'.heap = V.heap → Got a D fV fC A o len r U V → Got a D fV fC A o len r U' V' :=
  fun r U U' V V' h1 hal h2 ⟨e0, D', X, a1, a2, a3, a4, a5, a6, a7, a8, a9, a10, a11⟩ => ⟨e0, D', X, a1.mv hal h2, a2, by rw [h1]; exact a3, a4, by rw [h1]; exact a5.mv hal h2, a6, by rw [hal.findClass]; exact a7, a8, a9, by rw [h1, h2]; exact a10, by rw [h1, h2]; exact a11⟩
namespace New4
def yN : MethodName := ⟨"java/lang/String", "<init>", "([CIILjava/lang/Void;)V"⟩
abbrev yB : ByteArray := jdk_42_method_149_code
theorem d0 : decode yB 0 = .ok (.aload_n 0, 1) := by decide +kernel
theorem d1 : decode yB 1 = .ok (.invokespecial 1, 3) := by decide +kernel
theorem d4 : decode yB 4 = .ok (.iload_n 3, 1) := by decide +kernel
theorem d5 : decode yB 5 = .ok (.ifCond (.ne) 22, 3) := by decide +kernel
theorem d27 : decode yB 27 = .ok (.getstatic 38, 3) := by decide +kernel
theorem d30 : decode yB 30 = .ok (.ifCond (.eq) 28, 3) := by decide +kernel
theorem d33 : decode yB 33 = .ok (.aload_n 1, 1) := by decide +kernel
theorem d34 : decode yB 34 = .ok (.iload_n 2, 1) := by decide +kernel
theorem d35 : decode yB 35 = .ok (.iload_n 3, 1) := by decide +kernel
theorem d36 : decode yB 36 = .ok (.invokestatic 177, 3) := by decide +kernel
theorem d39 : decode yB 39 = .ok (.astore 5, 2) := by decide +kernel
theorem d41 : decode yB 41 = .ok (.aload_n 0, 1) := by decide +kernel
theorem d42 : decode yB 42 = .ok (.aload 5, 2) := by decide +kernel
theorem d44 : decode yB 44 = .ok (.iload_n 3, 1) := by decide +kernel
theorem d45 : decode yB 45 = .ok (.invokestatic 47, 3) := by decide +kernel
theorem d48 : decode yB 48 = .ok (.putfield 15, 3) := by decide +kernel
theorem d51 : decode yB 51 = .ok (.aload_n 0, 1) := by decide +kernel
theorem d52 : decode yB 52 = .ok (.aload 5, 2) := by decide +kernel
theorem d54 : decode yB 54 = .ok (.putfield 9, 3) := by decide +kernel
theorem d57 : decode yB 57 = .ok (.return_, 1) := by decide +kernel
def site : List Cond := [.fieldLink "java/lang/String" 38 "java/lang/String" "COMPACT_STRINGS" "Z", Cmp3.tab, CodL.tab, .laysFinal "java/lang/String" "java/lang/String" "value" "[B", .fieldLink "java/lang/String" 9 "java/lang/String" "value" "[B", .laysFinal "java/lang/String" "java/lang/String" "coder" "B", .fieldLink "java/lang/String" 15 "java/lang/String" "coder" "B"] ++ objW "java/lang/String" 1 ++ staticW "java/lang/String" 177 Cmp3.yN ++ staticW "java/lang/String" 47 CodL.yN
def tab : Cond := tabOf yN yB 6 none site
def P (a : Addr) (D : Cell) (fV fC : Field) (b : Addr) (A : Cell) (z : Int32) (o len : Nat) (args : Array Value) (s : State) : Prop := args = #[.ref a, .ref b, .int (Int32.ofNat o), .int (Int32.ofNat len), .null] ∧ Blank "java/lang/String" a D s ∧ Found "java/lang/String" "value" "[B" fV s ∧ Found "java/lang/String" "coder" "B" fC s ∧ Ch b A s ∧ StaticIs s "java/lang/String" "COMPACT_STRINGS" "Z" (.int z) ∧ ¬ z = 0 ∧ 0 < len ∧ o + len ≤ A.slots.size ∧ len ≤ 536870912 ∧ ∀ i, i < len → ¬ 255 < cv A (o + i)
def E (a : Addr) (D : Cell) (fV fC : Field) (A : Cell) (o len : Nat) (r : Option Value) (s u : State) : Prop := Got a D fV fC A o len r s u
/-- len > 0, no char of the range above 255: a Latin-1 String of their low bytes -/
theorem law (l : Launch) (a : Addr) (D : Cell) (fV fC : Field) (b : Addr) (A : Cell) (z : Int32) (o len : Nat) : Law l yN 5 4 2 35 yB 6 none site (P a D fV fC b A z o len) (E a D fV fC A o len) [⟨a, fC.slot⟩, ⟨a, fV.slot⟩] 1 len := by
  refine Law.of_walk (plainFor_of_name (by decide +kernel)) (by decide +kernel) (by decide +kernel) (by decide) (fun _ _ h => by rw [h.1]; rfl) (fun _ U U' hal hh h => ⟨h.1, h.2.1.mv hal hh, h.2.2.1.al hal, h.2.2.2.1.al hal, h.2.2.2.2.1.mv hal hh, h.2.2.2.2.2.1.there hal hh, h.2.2.2.2.2.2⟩) (fun r U U' V V' h1 hal h2 h => Got.mv r U U' V V' h1 hal h2 h) ?_
  intro p e s m args below meth c s₁ X0 hexec hbytes hml hret hlk hnm hown hh0 W hP
  obtain ⟨rfl, hB, f1, f2, hA, s1, hz, l0, l1, l2, hp⟩ := hP
  have a31 := hA.1.2.2.2
  have c1 : Steps p.tables e below (s₁.setTop (entryFrame m #[.ref a, .ref b, .int (Int32.ofNat o), .int (Int32.ofNat len), .null] 6)) (s₁.setTop (mkF m 0 #[.val (.ref a), .val (.ref b), .val (.int (Int32.ofNat o)), .val (.int (Int32.ofNat len)), .val .null, .unset] [])) := entry rfl
  have c2 : Steps p.tables e below (s₁.setTop (entryFrame m #[.ref a, .ref b, .int (Int32.ofNat o), .int (Int32.ofNat len), .null] 6)) (s₁.setTop (mkF m 1 #[.val (.ref a), .val (.ref b), .val (.int (Int32.ofNat o)), .val (.int (Int32.ofNat len)), .val .null, .unset] [.ref a])) := c1.trans (by
    refine XS.aloadN X0.here hexec rfl (hb hbytes d0) rfl rfl ?_
    exact Steps.refl _)
  obtain ⟨T3, X3, q3, st3⟩ := X0.oinit hexec hown (wks W (objW "java/lang/String" 1)) (g := (mkF m 1 #[.val (.ref a), .val (.ref b), .val (.int (Int32.ofNat o)), .val (.int (Int32.ofNat len)), .val .null, .unset] [.ref a])) rfl (by rw [hml]; rfl) (rest := []) rfl (hb hbytes d1) (W := 0) (by show 2 * 0 + 0 ≤ _; decide) (Nat.le_of_ble_eq_true rfl) (Nat.le_of_ble_eq_true rfl)
  have hh3 := q3.trans hh0
  have c4 : Steps p.tables e below (s₁.setTop (entryFrame m #[.ref a, .ref b, .int (Int32.ofNat o), .int (Int32.ofNat len), .null] 6)) (T3.setTop (mkF m 27 #[.val (.ref a), .val (.ref b), .val (.int (Int32.ofNat o)), .val (.int (Int32.ofNat len)), .val .null, .unset] [])) := (c2.trans (st3 _ (Steps.refl _))).trans (by
    refine XS.iloadN X3.here hexec rfl (hb hbytes d4) rfl ?_
    refine XS.ifYes X3.here hexec rfl (pc0 := 5) rfl (hb hbytes d5) rfl (i0_ne_t (nz32 (by omega) l0)) (by decide) rfl ?_
    exact Steps.refl _)
  obtain ⟨T5, X5, q5, st5⟩ := X3.sget hexec hown (wk W (.fieldLink "java/lang/String" 38 "java/lang/String" "COMPACT_STRINGS" "Z")) s1 (fun _ _ h => by rw [hh3]; exact h) (g := (mkF m 27 #[.val (.ref a), .val (.ref b), .val (.int (Int32.ofNat o)), .val (.int (Int32.ofNat len)), .val .null, .unset] [])) rfl (hb hbytes d27)
  have hh5 := q5.trans hh3
  have c6 : Steps p.tables e below (s₁.setTop (entryFrame m #[.ref a, .ref b, .int (Int32.ofNat o), .int (Int32.ofNat len), .null] 6)) (T5.setTop (mkF m 30 #[.val (.ref a), .val (.ref b), .val (.int (Int32.ofNat o)), .val (.int (Int32.ofNat len)), .val .null, .unset] [.int z])) := c4.trans (st5 _ (Steps.refl _))
  have c7 : Steps p.tables e below (s₁.setTop (entryFrame m #[.ref a, .ref b, .int (Int32.ofNat o), .int (Int32.ofNat len), .null] 6)) (T5.setTop (mkF m 36 #[.val (.ref a), .val (.ref b), .val (.int (Int32.ofNat o)), .val (.int (Int32.ofNat len)), .val .null, .unset] [.int (Int32.ofNat len), .int (Int32.ofNat o), .ref b])) := c6.trans (by
    refine XS.ifNo X5.here hexec rfl (hb hbytes d30) rfl (i0_eq_f hz) ?_
    refine XS.aloadN X5.here hexec rfl (hb hbytes d33) rfl rfl ?_
    refine XS.iloadN X5.here hexec rfl (hb hbytes d34) rfl ?_
    refine XS.iloadN X5.here hexec rfl (hb hbytes d35) rfl ?_
    exact Steps.refl _)
  obtain ⟨v8, T8, X8, E8, g8⟩ := X5.callS hexec (Cmp3.law l b A o len) hown (wks W (staticW "java/lang/String" 177 Cmp3.yN)) (wk W Cmp3.tab) (W := 0) (Nat.le_of_ble_eq_true rfl) (Nat.le_of_ble_eq_true rfl) (Nat.le_refl _) (by show 0 + len ≤ len; omega) (g := (mkF m 36 #[.val (.ref a), .val (.ref b), .val (.int (Int32.ofNat o)), .val (.int (Int32.ofNat len)), .val .null, .unset] [.int (Int32.ofNat len), .int (Int32.ofNat o), .ref b])) rfl (by rw [hml]; rfl) c7 (argsL := [.ref b, .int (Int32.ofNat o), .int (Int32.ofNat len)]) (rest := []) rfl rfl (by show 2 * 0 + 0 ≤ _; decide) (hb hbytes d36) (⟨rfl, hA.mv X5.warmed.alike hh5, l1, l2, hp⟩)
  obtain ⟨e8, z8⟩ := E8
  obtain ⟨rfl, N, n1, n2, n3, n4, n5, n6⟩ := NewArr.mv _ T5 s _ _ hh5.symm (Vm.Alike.refl _) rfl e8
  rw [hh5] at z8
  have hB1 := hB.keep X8.warmed.alike (n6 _ _ hB.1)
  have hne : s.heap.size ≠ a := (Nat.ne_of_lt (Array.getElem?_eq_some_iff.mp hB.1).1).symm
  have c9 : Steps p.tables e below (s₁.setTop (entryFrame m #[.ref a, .ref b, .int (Int32.ofNat o), .int (Int32.ofNat len), .null] 6)) (T8.setTop (mkF m 39 #[.val (.ref a), .val (.ref b), .val (.int (Int32.ofNat o)), .val (.int (Int32.ofNat len)), .val .null, .unset] [.ref s.heap.size])) := g8
  have c10 : Steps p.tables e below (s₁.setTop (entryFrame m #[.ref a, .ref b, .int (Int32.ofNat o), .int (Int32.ofNat len), .null] 6)) (T8.setTop (mkF m 45 #[.val (.ref a), .val (.ref b), .val (.int (Int32.ofNat o)), .val (.int (Int32.ofNat len)), .val .null, .val (.ref s.heap.size)] [.int (Int32.ofNat N.slots.size), .ref s.heap.size, .ref a])) := by
    have hc : Steps p.tables e below (s₁.setTop (entryFrame m #[.ref a, .ref b, .int (Int32.ofNat o), .int (Int32.ofNat len), .null] 6)) (T8.setTop (mkF m 45 #[.val (.ref a), .val (.ref b), .val (.int (Int32.ofNat o)), .val (.int (Int32.ofNat len)), .val .null, .val (.ref s.heap.size)] [.int (Int32.ofNat len), .ref s.heap.size, .ref a])) := c9.trans (by
      refine XS.astore X8.here hexec rfl (hb hbytes d39) rfl rfl rfl ?_
      refine XS.aloadN X8.here hexec rfl (hb hbytes d41) rfl rfl ?_
      refine XS.aload X8.here hexec rfl (hb hbytes d42) rfl rfl ?_
      refine XS.iloadN X8.here hexec rfl (hb hbytes d44) rfl ?_
      exact Steps.refl _)
    rw [n4]; exact hc
  obtain ⟨v11, T11, X11, E11, g11⟩ := X8.callS hexec (CodL.law l s.heap.size N) hown (wks W (staticW "java/lang/String" 47 CodL.yN)) (wk W CodL.tab) (W := 1) (Nat.le_of_ble_eq_true rfl) (Nat.le_of_ble_eq_true rfl) (Nat.le_refl _) (by show 0 + len + 0 ≤ len; omega) (g := (mkF m 45 #[.val (.ref a), .val (.ref b), .val (.int (Int32.ofNat o)), .val (.int (Int32.ofNat len)), .val .null, .val (.ref s.heap.size)] [.int (Int32.ofNat N.slots.size), .ref s.heap.size, .ref a])) rfl (by rw [hml]; rfl) c10 (argsL := [.ref s.heap.size, .int (Int32.ofNat N.slots.size)]) (rest := [.ref a]) rfl rfl (by show 2 * 0 + (1 + 0) ≤ _; decide) (hb hbytes d45) (⟨rfl, n1⟩)
  obtain ⟨rfl, q11⟩ := E11
  have hB11 := hB1.mv (X8.warmed.alike.symm.trans X11.warmed.alike) q11
  have c12 : Steps p.tables e below (s₁.setTop (entryFrame m #[.ref a, .ref b, .int (Int32.ofNat o), .int (Int32.ofNat len), .null] 6)) (T11.setTop (mkF m 48 #[.val (.ref a), .val (.ref b), .val (.int (Int32.ofNat o)), .val (.int (Int32.ofNat len)), .val .null, .val (.ref s.heap.size)] [.int 0, .ref a])) := g11
  obtain ⟨T13, X13, p13, bl13, sl13, st13⟩ := X11.finit hexec hown (wk W (.fieldLink "java/lang/String" 15 "java/lang/String" "coder" "B")) (Or.inr ⟨_, (wk W (.laysFinal "java/lang/String" "java/lang/String" "coder" "B"))⟩) (Or.inl ⟨rfl, hnm⟩) f2 (Or.inl rfl) hB11 (t := .byte) (by decide +kernel) rfl (g := (mkF m 48 #[.val (.ref a), .val (.ref b), .val (.int (Int32.ofNat o)), .val (.int (Int32.ofNat len)), .val .null, .val (.ref s.heap.size)] [.int 0, .ref a])) rfl (rest := []) rfl (hb hbytes d48)
  have c14 : Steps p.tables e below (s₁.setTop (entryFrame m #[.ref a, .ref b, .int (Int32.ofNat o), .int (Int32.ofNat len), .null] 6)) (T13.setTop (mkF m 54 #[.val (.ref a), .val (.ref b), .val (.int (Int32.ofNat o)), .val (.int (Int32.ofNat len)), .val .null, .val (.ref s.heap.size)] [.ref s.heap.size, .ref a])) := (c12.trans (st13 _ (Steps.refl _))).trans (by
    refine XS.aloadN X13.here hexec rfl (hb hbytes d51) rfl rfl ?_
    refine XS.aload X13.here hexec rfl (hb hbytes d52) rfl rfl ?_
    exact Steps.refl _)
  obtain ⟨T15, X15, p15, bl15, sl15, st15⟩ := X13.finit hexec hown (wk W (.fieldLink "java/lang/String" 9 "java/lang/String" "value" "[B")) (Or.inr ⟨_, (wk W (.laysFinal "java/lang/String" "java/lang/String" "value" "[B"))⟩) (Or.inl ⟨rfl, hnm⟩) f1 (Or.inl rfl) bl13 (t := (.array .byte)) (by decide +kernel) rfl (g := (mkF m 54 #[.val (.ref a), .val (.ref b), .val (.int (Int32.ofNat o)), .val (.int (Int32.ofNat len)), .val .null, .val (.ref s.heap.size)] [.ref s.heap.size, .ref a])) rfl (rest := []) rfl (hb hbytes d54)
  have c16 : Steps p.tables e below (s₁.setTop (entryFrame m #[.ref a, .ref b, .int (Int32.ofNat o), .int (Int32.ofNat len), .null] 6)) (T15.setTop (mkF m 57 #[.val (.ref a), .val (.ref b), .val (.int (Int32.ofNat o)), .val (.int (Int32.ofNat len)), .val .null, .val (.ref s.heap.size)] [])) := c14.trans (st15 _ (Steps.refl _))
  have ap := apart (Or.inr ⟨_, (wk W (.laysFinal "java/lang/String" "java/lang/String" "value" "[B"))⟩) (Or.inr ⟨_, (wk W (.laysFinal "java/lang/String" "java/lang/String" "coder" "B"))⟩) f1 f2 (t₁ := .array .byte) (t₂ := .byte) (by decide +kernel) (by decide +kernel) (by decide)
  have al := X8.warmed.alike.symm.trans X15.warmed.alike
  have n7 : T11.heap[s.heap.size]? = some N := by rw [q11]; exact n1.1
  exact ⟨T15, none, _, _, _, X15, by simp, rfl, by omega, (fun _ => rfl), ⟨rfl, _, N, bl15, ((Same.refl D _).set _ (by simp)).set _ (by simp), sl15, (Cell.slots_setSlot_ne _ ap).trans sl13, n1.keep al (p15.other hne (p13.other hne n7)), n2, by rw [al.findClass]; exact n3, n4, n5, fun y c h1 h2 => p15.other h1 (p13.other h1 (by rw [q11]; exact n6 y c h2)), by rw [p15.2.2, p13.2.2, q11]; exact z8⟩, fun fs hl => c16.trans (X15.returnOut hexec hret (hb hbytes d57) hl)⟩
end New4
namespace New1
def yN : MethodName := ⟨"java/lang/String", "<init>", "([C)V"⟩
abbrev yB : ByteArray := jdk_42_method_3_code
theorem d0 : decode yB 0 = .ok (.aload_n 0, 1) := by decide +kernel
theorem d1 : decode yB 1 = .ok (.aload_n 1, 1) := by decide +kernel
theorem d2 : decode yB 2 = .ok (.iconst 0, 1) := by decide +kernel
theorem d3 : decode yB 3 = .ok (.aload_n 1, 1) := by decide +kernel
theorem d4 : decode yB 4 = .ok (.arraylength, 1) := by decide +kernel
theorem d5 : decode yB 5 = .ok (.aconst_null, 1) := by decide +kernel
theorem d6 : decode yB 6 = .ok (.invokespecial 27, 3) := by decide +kernel
theorem d9 : decode yB 9 = .ok (.return_, 1) := by decide +kernel
def site : List Cond := [New4.tab] ++ initW "java/lang/String" 27 New4.yN
def tab : Cond := tabOf yN yB 2 none site
def P (a : Addr) (D : Cell) (fV fC : Field) (b : Addr) (A : Cell) (z : Int32) (args : Array Value) (s : State) : Prop := args = #[.ref a, .ref b] ∧ Blank "java/lang/String" a D s ∧ Found "java/lang/String" "value" "[B" fV s ∧ Found "java/lang/String" "coder" "B" fC s ∧ Ch b A s ∧ StaticIs s "java/lang/String" "COMPACT_STRINGS" "Z" (.int z) ∧ ¬ z = 0 ∧ 0 < A.slots.size ∧ A.slots.size ≤ 536870912 ∧ ∀ i, i < A.slots.size → ¬ 255 < cv A i
def E (a : Addr) (D : Cell) (fV fC : Field) (A : Cell) (r : Option Value) (s u : State) : Prop := Got a D fV fC A 0 A.slots.size r s u
/-- new String(chars), not empty, no char above 255: a Latin-1 String of their low bytes -/
theorem law (l : Launch) (a : Addr) (D : Cell) (fV fC : Field) (b : Addr) (A : Cell) (z : Int32) : Law l yN 2 1 3 52 yB 2 none site (P a D fV fC b A z) (E a D fV fC A) [⟨a, fC.slot⟩, ⟨a, fV.slot⟩] 1 A.slots.size := by
  refine Law.of_walk (plainFor_of_name (by decide +kernel)) (by decide +kernel) (by decide +kernel) (by decide) (fun _ _ h => by rw [h.1]; rfl) (fun _ U U' hal hh h => ⟨h.1, h.2.1.mv hal hh, h.2.2.1.al hal, h.2.2.2.1.al hal, h.2.2.2.2.1.mv hal hh, h.2.2.2.2.2.1.there hal hh, h.2.2.2.2.2.2⟩) (fun r U U' V V' h1 hal h2 h => Got.mv r U U' V V' h1 hal h2 h) ?_
  intro p e s m args below meth c s₁ X0 hexec hbytes hml hret hlk hnm hown hh0 W hP
  obtain ⟨rfl, hB, f1, f2, hA, s1, hz, l0, l2, hp⟩ := hP
  have c1 : Steps p.tables e below (s₁.setTop (entryFrame m #[.ref a, .ref b] 2)) (s₁.setTop (mkF m 0 #[.val (.ref a), .val (.ref b)] [])) := entry rfl
  have c2 : Steps p.tables e below (s₁.setTop (entryFrame m #[.ref a, .ref b] 2)) (s₁.setTop (mkF m 6 #[.val (.ref a), .val (.ref b)] [.null, .int (Int32.ofNat A.slots.size), .int 0, .ref b, .ref a])) := c1.trans (by
    refine XS.aloadN X0.here hexec rfl (hb hbytes d0) rfl rfl ?_
    refine XS.aloadN X0.here hexec rfl (hb hbytes d1) rfl rfl ?_
    refine iconstV X0.here hexec rfl 0 (hb hbytes d2) (by decide) ?_
    refine XS.aloadN X0.here hexec rfl (hb hbytes d3) rfl rfl ?_
    refine X0.alen hexec (hA.1.mv X0.warmed.alike hh0) rfl rfl (hb hbytes d4) ?_
    refine XS.aconstNull X0.here hexec rfl (hb hbytes d5) ?_
    exact Steps.refl _)
  obtain ⟨v3, T3, X3, E3, g3⟩ := X0.callN hexec (New4.law l a D fV fC b A z 0 A.slots.size) rfl hown (wks W (initW "java/lang/String" 27 New4.yN)) (W New4.tab (by simp only [site, List.mem_cons, List.mem_append, true_or, or_true])) (W := 0) (Nat.le_of_ble_eq_true rfl) (Nat.le_of_ble_eq_true rfl) (Nat.le_refl _) (by show 0 + A.slots.size ≤ A.slots.size; omega) (g := (mkF m 6 #[.val (.ref a), .val (.ref b)] [.null, .int (Int32.ofNat A.slots.size), .int (Int32.ofNat 0), .ref b, .ref a])) rfl (by rw [hml]; rfl) c2 (argsL := [.ref b, .int (Int32.ofNat 0), .int (Int32.ofNat A.slots.size), .null]) (rest := []) rfl rfl (by show 2 * 0 + 0 ≤ _; decide) (hb hbytes d6) (⟨rfl, hB.mv X0.warmed.alike hh0, f1.al X0.warmed.alike, f2.al X0.warmed.alike, hA.mv X0.warmed.alike hh0, s1.there X0.warmed.alike hh0, hz, l0, by omega, l2, fun i hi => by rw [Nat.zero_add]; exact hp i hi⟩)
  have e0 := Got.mv _ s₁ s _ _ hh0.symm (Vm.Alike.refl _) rfl E3
  obtain rfl := e0.1
  have c4 : Steps p.tables e below (s₁.setTop (entryFrame m #[.ref a, .ref b] 2)) (T3.setTop (mkF m 9 #[.val (.ref a), .val (.ref b)] [])) := g3
  exact ⟨T3, none, _, _, _, X3, by simp, rfl, by omega, (fun _ => rfl), e0, fun fs hl => c4.trans (X3.returnOut hexec hret (hb hbytes d9) hl)⟩
theorem pays {l : Launch} {R : Room} {p : Program} {e : Env} {below : List Frame} {s : State} {sargs : Array Value} {len W : Nat} (a : Addr) (D : Cell) (fV fC : Field) (b : Addr) (A : Cell) (z : Int32) (htab : tab.before sargs s = true) (hfr : 4 ≤ R.frames) (hlo : W + 65 ≤ R.locals) :
    Back l R p e below s sargs yN len W (fun A₁ a₁ => A₁.cells + 1 ≤ R.cells ∧ A₁.slots + A.slots.size ≤ R.slots ∧ P a D fV fC b A z a₁ A₁.U) (fun A₁ _ v₁ B₁ => E a D fV fC A v₁ A₁.U B₁.U ∧ B₁.locs = A₁.locs ++ [⟨a, fC.slot⟩, ⟨a, fV.slot⟩] ∧ B₁.cells = A₁.cells + 1 ∧ B₁.slots = A₁.slots + A.slots.size) :=
  (law l a D fV fC b A z).pays htab hfr (by omega)
end New1
end StrChars
namespace StrChars.Road
open Jvm Sem ClassFile Op Lib Jvm.Stand Jvm.Free Jvm.Free.XT
open Jvm.Lib.Cold (StaticIs)
abbrev ST : String := "java/lang/String"
/-- every table word that New1's law asks, flat -/
abbrev words : List Jvm.Cond := [.code New1.yN New1.yB 2 none, .initialized ST, .methodLink ST 27 New4.yN, .instanceMethod New4.yN,
  .code New4.yN New4.yB 6 none, .fieldLink ST 38 ST "COMPACT_STRINGS" "Z", .laysFinal ST ST "value" "[B", .fieldLink ST 9 ST "value" "[B", .laysFinal ST ST "coder" "B", .fieldLink ST 15 ST "coder" "B",
  .methodLink ST 1 Lib.objectInit, .instanceMethod Lib.objectInit, .code Lib.objectInit ⟨#[0xb1]⟩ 1 none, .methodLink ST 177 Cmp3.yN, .static Cmp3.yN, .methodLink ST 47 CodL.yN, .static CodL.yN,
  .code Cmp3.yN Cmp3.yB 6 (some (.array .byte)), .initialized U16, .arrayClass .byte, .methodLink U16 115 Cmp5.yN, .static Cmp5.yN, .code Cmp5.yN Cmp5.yB 7 (some .int), .code CodL.yN CodL.yB 2 (some .byte)]
theorem tab_of {a : Array Value} {s : State} (h : ∀ w ∈ words, w.before a s = true) : New1.tab.before a s = true := by
  have h5 : Cmp5.tab.before a s = true := unparts (wk h (.code Cmp5.yN Cmp5.yB 7 (some .int))) (wks h (.initialized Cmp5.yN.cls :: Cmp5.site))
  have hc : CodL.tab.before a s = true := unparts (wk h (.code CodL.yN CodL.yB 2 (some .byte))) (wks h (.initialized CodL.yN.cls :: CodL.site))
  have q5 : ∀ w ∈ Cmp5.tab :: words, w.before a s = true := fun w hw => (List.mem_cons.mp hw).elim (fun e => e ▸ h5) (h w)
  have h3 : Cmp3.tab.before a s = true := unparts (wk q5 (.code Cmp3.yN Cmp3.yB 6 (some (.array .byte)))) (wks q5 (.initialized Cmp3.yN.cls :: Cmp3.site))
  have q3 : ∀ w ∈ Cmp3.tab :: CodL.tab :: words, w.before a s = true := fun w hw => (List.mem_cons.mp hw).elim (fun e => e ▸ h3) fun hw => (List.mem_cons.mp hw).elim (fun e => e ▸ hc) (h w)
  have h4 : New4.tab.before a s = true := unparts (wk q3 (.code New4.yN New4.yB 6 none)) (wks q3 (.initialized New4.yN.cls :: New4.site))
  have q4 : ∀ w ∈ New4.tab :: words, w.before a s = true := fun w hw => (List.mem_cons.mp hw).elim (fun e => e ▸ h4) (h w)
  exact unparts (wk q4 (.code New1.yN New1.yB 2 none)) (wks q4 (.initialized New1.yN.cls :: New1.site))
/-- the words ride from the start Z to the walk's own state -/
theorem moved {Z s : State} {a0 args : Array Value} (hZ : Z.Warmed39 s.vm) (hw : ∀ d ∈ words, d.before a0 Z = true) : ∀ d ∈ words, d.before args s = true := fun d hd => by
  have q := hw d hd
  have t : ∀ d ∈ words, d = .arrayClass .byte ∨ (d.onTables && d.keepsFace) = true := by decide +kernel
  rcases t d hd with rfl | t
  · exact RoadKit.mvA hZ q
  · exact RoadKit.mv hZ q t
/-- WHAT COMES BACK, over the tables of the start Z: h the heap at the call, h' behind it -/
def Q (Z : State) (x : Addr) (A : Cell) (h : Heap) (v : Option Value) (h' : Heap) (L : List Loc) : Prop := v = none ∧ (∀ y ∈ L, y.base = x) ∧ RoadKit.Keep h h' [x] ∧ h'.size = h.size + 1 ∧ RoadKit.Exa Z h' x ST ∧ RoadKit.Fld Z h' x ST "value" "[B" (.ref h.size) ∧ RoadKit.Fld Z h' x ST "coder" "B" (.int 0) ∧
  (∃ V : Cell, RoadKit.Arr Z h' h.size V .byte ∧ V.vm = .none ∧ Z.vm.findClass "[B" = some V.cls ∧ V.slots.size = A.slots.size ∧ ∀ j, j < A.slots.size → V.slots[j]? = some (.int (lo8 (cv A j)))) ∧
  ∀ (O n d : String) (w : Value), RoadKit.Fld Z h x O n d w → RoadKit.slotOf Z O n d ≠ RoadKit.slotOf Z ST "value" "[B" → RoadKit.slotOf Z O n d ≠ RoadKit.slotOf Z ST "coder" "B" → RoadKit.Fld Z h' x O n d w
/-- **new String(chars) AT A CALL, IN THE ROAD'S FORM**: for specialBack behind newO: x the fresh String, b the char[] with the cell A -/
theorem back {p : Program} {l : Launch} {e : Env} {R : Room} {s : State} {args : Array Value} {below : List Frame} {len W : Nat} {Z : State} {a0 : Array Value} {h : Heap} (hZ : Z.Warmed39 s.vm) (hw : ∀ d ∈ words, d.before a0 Z = true) {kI : Nat} (wi : (Jvm.Cond.instantiable ST kI).before a0 Z = true)
    {x b : Addr} {A : Cell} {z : Int32} {v0 c0 : Value} (E : RoadKit.Exa Z h x ST) (V : RoadKit.Fld Z h x ST "value" "[B" v0) (C : RoadKit.Fld Z h x ST "coder" "B" c0) (K : RoadKit.Arr Z h b A .char) (hty : Typed .char A) (S : RoadKit.Sta Z h ST "COMPACT_STRINGS" "Z" (.int z)) (hz : ¬ z = 0)
    (l0 : 0 < A.slots.size) (l2 : A.slots.size ≤ 536870912) (hp : ∀ i, i < A.slots.size → ¬ 255 < cv A i) (hfr : 4 ≤ R.frames) (hlo : W + 65 ≤ R.locals) :
    Back l R p e below s args New1.yN len W (fun P a => a = #[.ref x, .ref b] ∧ P.U.heap = h ∧ P.cells + 1 ≤ R.cells ∧ P.slots + A.slots.size ≤ R.slots)
      (fun P _ v B => ∃ L, Q Z x A h v B.U.heap L ∧ B.locs = P.locs ++ L ∧ B.cells = P.cells + 1 ∧ B.slots = P.slots + A.slots.size) := by
  intro m meth c P g ig mk a X hg hsize hdg hW hn hp'
  obtain ⟨rfl, rfl, r1, r2⟩ := hp'
  have al : Z.vm.Alike P.U.vm := hZ.alike.trans X.warmed.alike
  obtain ⟨D, cfV, kV, iV, fV, hD, gV, stV, knV, obV, asV, slV⟩ := id V
  obtain ⟨D', cfC, kC, iC, fC, hD', gC, stC, -, -, asC, slC⟩ := id C
  cases hD.symm.trans hD'
  obtain ⟨D2, kD, e1, e2, e3, e4, e5⟩ := id E
  cases hD.symm.trans e1
  obtain ⟨c2, k2, i1, i2, i3, -⟩ := Cond.instantiable_spec wi
  cases e2.symm.trans i1
  cases e3.symm.trans i2
  obtain ⟨kU, u1, u2⟩ := al.2.2 _ _ e3
  have hB : Blank ST x D P.U := ⟨hD, ⟨knV, fun q hq => by rw [hq] at obV; cases obV⟩, by rw [al.findClass]; exact e2, kU, u1, by rw [u2]; exact i3, by rw [u2]; exact e5 i3⟩
  have F1 : Found ST "value" "[B" fV P.U := ⟨SBG.found_only al ⟨cfV, kV, iV, gV⟩, stV⟩
  have F2 : Found ST "coder" "B" fC P.U := ⟨SBG.found_only al ⟨cfC, kC, iC, gC⟩, stC⟩
  have hA : Ch b A P.U := ⟨⟨K.1, State.isArrayOf_alike al K.2.1, K.2.2, by omega⟩, hty⟩
  have hS : StaticIs P.U ST "COMPACT_STRINGS" "Z" (.int z) := by
    obtain ⟨cfS, iS, kS, fS, st, cS, t1, t2, t3, t4, t5, t6, t7⟩ := S
    exact StaticIs.there (s := { Z with heap := P.U.heap }) ⟨cfS, iS, kS, fS, st, cS, t1, t2, t3, t4, t5, (fun q => by rw [q] at t6; cases t6), t7⟩ al rfl
  obtain ⟨v, B, X', ⟨⟨hv, E', V', q1, q2, q3, q4, q5, q6, q7, q8, q9, q10, q11⟩, hl, hc, hs⟩, st⟩ := New1.pays x D fV fC b A z (tab_of (moved hZ hw)) hfr hlo m meth c P g ig mk _ X hg hsize hdg hW hn ⟨r1, r2, rfl, hB, F1, F2, hA, hS, hz, l0, l2, hp⟩
  have al' : Z.vm.Alike B.U.vm := hZ.alike.trans X'.warmed.alike
  have hsz : E'.slots.size = D.slots.size := by
    obtain ⟨-, -, -, kB, w1, w2, w3⟩ := q1
    obtain ⟨kB', y1, y2⟩ := al'.2.2 _ _ e3
    rw [q2.2.1] at w1
    cases w1.symm.trans y1
    rw [w3, e5 i3, y2]
  refine ⟨v, B, X', ⟨_, ⟨hv, ?_, ⟨by omega, fun y cy hy hn' => q10 y cy (by simpa using hn') hy, fun y cy hy => ?_⟩, q11, ⟨E', _, q1.1, by rw [q2.2.1]; exact e2, by rw [q2.2.1]; exact e3, by rw [q2.1]; exact obV, fun _ => by rw [hsz]; exact e5 i3⟩,
    ⟨E', cfV, kV, iV, fV, q1.1, gV, stV, by rw [q2.1]; exact knV, by rw [q2.1]; exact obV, by rw [q2.2.1]; exact asV, q3⟩, ⟨E', cfC, kC, iC, fC, q1.1, gC, stC, by rw [q2.1]; exact knV, by rw [q2.1]; exact obV, by rw [q2.2.1]; exact asC, q4⟩,
    ⟨V', ⟨q5.1, State.isArrayOf_alike al'.symm q5.2.1, q5.2.2.1⟩, q6, by rw [← al'.findClass]; exact q7, q8, fun j hj => by have := q9 j hj; rwa [Nat.zero_add] at this⟩, fun O n d w F n1 n2 => ?_⟩, hl, hc, hs⟩, st⟩
  · intro y hy
    simp only [List.mem_cons, List.not_mem_nil, or_false] at hy
    rcases hy with rfl | rfl <;> rfl
  · by_cases q : y = x
    · subst q
      cases hD.symm.trans hy
      exact ⟨E', q1.1, q2.2.1, q2.1, hsz⟩
    · exact ⟨cy, q10 y cy q hy, rfl, rfl, rfl⟩
  · obtain ⟨D3, cf, k, i, f, g1, g2, g3, g4, g5, g6, g7⟩ := F
    cases hD.symm.trans g1
    simp only [RoadKit.slotOf, g2, gV, gC, Option.map_some, Option.getD_some] at n1 n2
    exact ⟨E', cf, k, i, f, q1.1, g2, g3, by rw [q2.1]; exact g4, by rw [q2.1]; exact g5, by rw [q2.2.1]; exact g6, by rw [q2.2.2 f.slot (by simp [n1, n2])]; exact g7⟩
end StrChars.Road
namespace StrChars.Road
open Jvm Sem ClassFile Op Lib Jvm.Stand Jvm.Free Jvm.Free.XT
/-- WHAT COMES BACK, the byte[] as a list of values -/
def QA (Z : State) (x : Addr) (zn : Int32) (cs : List Int32) (h : Heap) (v : Option Value) (h' : Heap) (L : List Loc) : Prop := v = none ∧ (∀ y ∈ L, y.base = x) ∧ RoadKit.Keep h h' [x] ∧ h'.size = h.size + 1 ∧ RoadKit.Exa Z h' x ST ∧ RoadKit.Fld Z h' x ST "value" "[B" (.ref h.size) ∧ RoadKit.Fld Z h' x ST "coder" "B" (.int 0) ∧
  (∃ kb, Z.vm.findClass "[B" = some kb ∧ RoadKit.Arv Z h' h.size kb .byte zn (cs.map fun c => .int (lo8 c)) (.int 0)) ∧
  ∀ (O n d : String) (w : Value), RoadKit.Fld Z h x O n d w → RoadKit.slotOf Z O n d ≠ RoadKit.slotOf Z ST "value" "[B" → RoadKit.slotOf Z O n d ≠ RoadKit.slotOf Z ST "coder" "B" → RoadKit.Fld Z h' x O n d w
/-- **new String(chars) AT A CALL, THE ARRAYS AS LISTS**: the char[] at b holds cs, not empty, no char above 255 -/
theorem backArv {p : Program} {l : Launch} {e : Env} {R : Room} {s : State} {args : Array Value} {below : List Frame} {len W : Nat} {Z : State} {a0 : Array Value} {h : Heap} (hZ : Z.Warmed39 s.vm) (hw : ∀ d ∈ words, d.before a0 Z = true) {kI : Nat} (wi : (Jvm.Cond.instantiable ST kI).before a0 Z = true)
    {x b : Addr} {k : ClassId} {zn z : Int32} {cs : List Int32} {dv v0 c0 : Value} (E : RoadKit.Exa Z h x ST) (V : RoadKit.Fld Z h x ST "value" "[B" v0) (C : RoadKit.Fld Z h x ST "coder" "B" c0) (K : RoadKit.Arv Z h b k .char zn (cs.map Value.int) dv) (S : RoadKit.Sta Z h ST "COMPACT_STRINGS" "Z" (.int z)) (hz : ¬ z = 0)
    (hlen : zn.toNatClampNeg = cs.length) (h0 : 0 < cs.length) (hbig : cs.length ≤ 536870912) (hall : ∀ c ∈ cs, ¬ 255 < c) (hfr : 4 ≤ R.frames) (hlo : W + 65 ≤ R.locals) :
    Back l R p e below s args New1.yN len W (fun P a => a = #[.ref x, .ref b] ∧ P.U.heap = h ∧ P.cells + 1 ≤ R.cells ∧ P.slots + cs.length ≤ R.slots)
      (fun P _ v B => ∃ L, QA Z x zn cs h v B.U.heap L ∧ B.locs = P.locs ++ L ∧ B.cells = P.cells + 1 ∧ B.slots = P.slots + cs.length) := by
  obtain ⟨A, K1, K2, K3, K4, K5, K6⟩ := K
  have e : A.slots.size = cs.length := K3.trans hlen
  have hat : ∀ (i : Nat) (hi : i < cs.length), A.slots[i]? = some (.int cs[i]) := fun i hi => by rw [K5 i (by omega)]; simp [List.getD_eq_getElem?_getD, hi]
  have hcv : ∀ (i : Nat) (hi : i < cs.length), cv A i = cs[i] := fun i hi => by unfold cv; rw [hat i hi]
  have hty : Typed .char A := fun i v hv => by
    have hi : i < A.slots.size := (Array.getElem?_eq_some_iff.mp hv).1
    have q := K5 i hi
    rw [hv] at q
    rw [Option.some.inj q]
    exact K6 i hi
  refine Back.mono (back hZ hw wi E V C K1 hty S hz (by omega) (by omega) (fun i hi => by rw [hcv i (by omega)]; exact hall _ (List.getElem_mem _)) hfr hlo) (fun P a hp => ⟨hp.1, hp.2.1, hp.2.2.1, by rw [e]; exact hp.2.2.2⟩) (fun P a v B hp hq => ?_)
  obtain ⟨L, ⟨q1, q2, q3, q4, q5, q6, q7, ⟨V', v1, v2, v3, v4, v5⟩, q9⟩, hl, hc, hs⟩ := hq
  refine ⟨L, ⟨q1, q2, q3, q4, q5, q6, q7, ⟨V'.cls, v3, V', v1, rfl, by rw [v4, e, hlen], K4, fun i hi => ?_, fun i hi => ?_⟩, q9⟩, hl, hc, by rw [hs, e]⟩
  · have hi' : i < cs.length := by omega
    rw [v5 i (by omega), hcv i hi']; simp [List.getD_eq_getElem?_getD, hi']
  · have hi' : i < cs.length := by omega
    simp only [List.getD_eq_getElem?_getD, List.getElem?_map, List.getElem?_eq_getElem hi', Option.map_some, Option.getD_some]
    exact fits_lo8 _
end StrChars.Road
namespace StrChars.Road
open Jvm Sem ClassFile Op Lib Jvm.Stand Jvm.Free Jvm.Free.XT
/-- WHAT COMES BACK, in the writer's own shape -/
def QV (Z : State) (x : Addr) (N : Int32) (bs : List Int32) (h : Heap) (n0 : Nat) (v : Option Value) (h' : Heap) (L : List Loc) : Prop := v = none ∧ RoadKit.Fr n0 L ∧ RoadKit.Keep h h' [x] ∧ RoadKit.Exa Z h' x ST ∧ RoadKit.Fld Z h' x ST "coder" "B" (.int 0) ∧
  ∃ (t : Addr) (kb : ClassId), n0 ≤ t ∧ h.size ≤ t ∧ ¬ t = x ∧ RoadKit.Fld Z h' x ST "value" "[B" (.ref t) ∧ RoadKit.Arv Z h' t kb .byte N (bs.map Value.int) (.int 0)
/-- **new String(chars) AT A CALL, FOR THE WRITER**: a char[] of n known ints, each 0 to 255 -/
theorem backV {p : Program} {l : Launch} {e : Env} {R : Room} {s : State} {args : Array Value} {below : List Frame} {len W : Nat} {Z : State} {a0 : Array Value} {h : Heap} (hZ : Z.Warmed39 s.vm) (hw : ∀ d ∈ words, d.before a0 Z = true) {kI : Nat} (wi : (Jvm.Cond.instantiable ST kI).before a0 Z = true)
    {x b : Addr} {kC : ClassId} {cs bs : List Int32} {d v0 c0 : Value} {z N : Int32} {n n0 : Nat} (hx0 : n0 ≤ x) (hh0 : n0 ≤ h.size) (E : RoadKit.Exa Z h x ST) (V : RoadKit.Fld Z h x ST "value" "[B" v0) (C : RoadKit.Fld Z h x ST "coder" "B" c0) (K : RoadKit.Arv Z h b kC .char N (cs.map Value.int) d) (S : RoadKit.Sta Z h ST "COMPACT_STRINGS" "Z" (.int z)) (hz : ¬ z = 0)
    (hn : cs.length = n) (hN : N = Int32.ofNat n) (l0 : 0 < n) (l2 : n ≤ 4000) (hp : ∀ c ∈ cs, ¬ c < 0 ∧ ¬ (255 : Int32) < c) (hb : bs = cs.map (fun c => c.toInt8.toInt32)) (hfr : 4 ≤ R.frames) (hlo : W + 65 ≤ R.locals) :
    Back l R p e below s args (⟨"java/lang/String", "<init>", "([C)V"⟩ : MethodName) len W (fun P a => a = #[.ref x, .ref b] ∧ P.U.heap = h ∧ P.cells + 1 ≤ R.cells ∧ P.slots + n ≤ R.slots)
      (fun P _ v B => ∃ L, QV Z x N bs h n0 v B.U.heap L ∧ B.locs = P.locs ++ L ∧ B.cells = P.cells + 1 ∧ B.slots = P.slots + n) := by
  subst hn hN hb
  refine Back.mono (backArv hZ hw wi E V C K S hz (n32 (by omega)) l0 (by omega) (fun c hc => (hp c hc).2) hfr hlo) (fun P a hp => hp) (fun P a v B hp hq => ?_)
  obtain ⟨L, ⟨q1, q2, q3, q4, q5, q6, q7, ⟨kb, v1, v2⟩, q9⟩, hl, hc, hs⟩ := hq
  exact ⟨L, ⟨q1, fun y hy => by rw [q2 y hy]; exact hx0, q3, q5, q7, h.size, kb, hh0, Nat.le_refl _, Nat.ne_of_gt E.lt, q6, by rw [List.map_map]; exact v2⟩, hl, hc, hs⟩
end StrChars.Road
end Jvm.Pilot.@@N@@
namespace Jvm.Pilot.@@N@@
open Jvm Jvm.ClassFile Sem Op Lib Jvm.Free Jvm.Stand Jvm.LawKit Jvm.RoadKit Bundle Jvm.Pilot.@@N@@.Jvm.D
theorem own_sa : ∀ a ∈ Bundle.stringAtoms, a ∈ tables_1 := by decide +kernel
def own_EL : List (String × Nat) := [("com/example/durable_dispatch/durabledispatch/cli/OptionByFlagPinLaw", 25), ("com/example/durable_dispatch/durabledispatch/cli/OptionByFlagPinLaw", 35), ("com/example/durable_dispatch/durabledispatch/cli/OptionByFlagPinLaw", 13)]
theorem own_EW {Z : State} {a0 : Array Value} (hw : ∀ d ∈ tables_1, d.before a0 Z = true) : EW Z a0 own_EL := (EW.cons (hw _ (own_i 80 rfl)) (by decide) (EW.cons (hw _ (own_i 111 rfl)) (by decide) (EW.cons (hw _ (own_i 113 rfl)) (by decide) EW.nil)))
theorem own_m (x : Int32) : (x &&& (255 : Int32)).toUInt32.toUInt16.toUInt32.toInt32 = x &&& (255 : Int32) := i2c_mask x
theorem own_255 (x : Int32) : ¬ (255 : Int32) < (x &&& (255 : Int32)) := by
  rw [Int32.lt_iff_toInt_lt]
  have h := c_mask x 255 8 (by decide) (by decide)
  have e : (255 : Int32).toInt = 255 := rfl
  omega
theorem own_c1 (x : Int32) : ¬ (255 : Int32) < (x &&& (255 : Int32)).toUInt32.toUInt16.toUInt32.toInt32 := by rw [own_m]; exact own_255 x
theorem own_c2 (x : Int32) : ¬ (255 : Int32) < ((x &&& (255 : Int32)).toUInt32.toUInt16.toUInt32.toInt32).toUInt32.toUInt16.toUInt32.toInt32 := by rw [own_m, own_m]; exact own_255 x
theorem own_al {Z : State} {h : Heap} {a : Addr} {C f d : String} {x y : Value} (F : Fld Z h a C f d x) (G : Fld Z h a C f d y) : x = y := by
  obtain ⟨c1, cf1, k1, i1, f1, h1, h2, -, -, -, -, h3⟩ := F
  obtain ⟨c2, cf2, k2, i2, f2, g1, g2, -, -, -, -, g3⟩ := G
  cases h1.symm.trans g1
  cases h2.symm.trans g2
  exact Option.some.inj (h3.symm.trans g3)
theorem own_av {Z : State} {h : Heap} {a : Addr} {k k' : ClassId} {ty ty' : FieldType} {n n' : Int32} {vs vs' : List Value} {d d' : Value} (V : Arv Z h a k ty n vs d) (W : Arv Z h a k' ty' n' vs' d') : n = n' ∧ ∀ i, i < n.toNatClampNeg → vs.getD i d = vs'.getD i d' := by
  obtain ⟨c1, A1, -, S1, M1, H1, -⟩ := V
  obtain ⟨c2, A2, -, S2, M2, H2, -⟩ := W
  cases A1.1.symm.trans A2.1
  refine ⟨?_, fun i hi => Option.some.inj ((H1 i (by omega)).symm.trans (H2 i (by omega)))⟩
  rw [Int32.lt_iff_toInt_lt] at M1 M2
  have h0 : (0 : Int32).toInt = 0 := rfl
  have e1 : n.toNatClampNeg = n.toInt.toNat := rfl
  have e2 : n'.toNatClampNeg = n'.toInt.toNat := rfl
  apply Int32.toInt_inj.mp
  omega
theorem own_sd {Z : State} {h : Heap} {a b v w : Addr} {C f d : String} {k k' : ClassId} {ty ty' : FieldType} {n n' : Int32} {vs vs' : List Value} {e e' : Value} (F : Fld Z h a C f d (.ref v)) (G : Fld Z h b C f d (.ref w)) (V : Arv Z h v k ty n vs e) (W : Arv Z h w k' ty' n' vs' e') (hd : ¬ n = n') : ¬ a = b := by
  rintro rfl
  cases own_al F G
  exact hd (own_av V W).1
theorem own_sl {Z : State} {h : Heap} {a b v w : Addr} {C f d : String} {k k' : ClassId} {ty ty' : FieldType} {n n' : Int32} {vs vs' : List Value} {e e' : Value} (F : Fld Z h a C f d (.ref v)) (G : Fld Z h b C f d (.ref w)) (V : Arv Z h v k ty n vs e) (W : Arv Z h w k' ty' n' vs' e') (hd : (∀ i, i < n.toNatClampNeg → vs.getD i e = vs'.getD i e') → False) : ¬ a = b := by
  rintro rfl
  cases own_al F G
  exact hd (own_av V W).2
theorem own_sw : ∀ a ∈ StrChars.Road.words, a ∈ tables_1 := by decide +kernel
theorem own_fa {P : Int32 → Prop} {a : Int32} {l : List Int32} (h : P a) (t : ∀ x ∈ l, P x) : ∀ x ∈ a :: l, P x := by
  intro x hx
  cases hx with
  | head => exact h
  | tail _ hx => exact t x hx
theorem own_f0 {P : Int32 → Prop} : ∀ x ∈ ([] : List Int32), P x := fun x hx => by cases hx
theorem own_k1 (x : Int32) : ¬ (x &&& (255 : Int32)).toUInt32.toUInt16.toUInt32.toInt32 < 0 ∧ ¬ (255 : Int32) < (x &&& (255 : Int32)).toUInt32.toUInt16.toUInt32.toInt32 := by
  refine ⟨?_, own_c1 x⟩
  rw [own_m, Int32.lt_iff_toInt_lt]
  have h := c_mask x 255 8 (by decide) (by decide)
  have e : (0 : Int32).toInt = 0 := rfl
  omega
theorem own_k2 (x : Int32) : ¬ ((x &&& (255 : Int32)).toUInt32.toUInt16.toUInt32.toInt32).toUInt32.toUInt16.toUInt32.toInt32 < 0 ∧ ¬ (255 : Int32) < ((x &&& (255 : Int32)).toUInt32.toUInt16.toUInt32.toInt32).toUInt32.toUInt16.toUInt32.toInt32 := by
  have h := own_k1 x
  rw [own_m] at h ⊢
  rw [own_m]
  exact h
theorem d17_0 : decode jdk_43_method_3_code 0 = .ok (.iload_n 0, 1) := by decide +kernel
theorem d17_1 : decode jdk_43_method_3_code 1 = .ok (.sipush 255, 3) := by decide +kernel
theorem d17_4 : decode jdk_43_method_3_code 4 = .ok (.if_icmp .gt 7, 3) := by decide +kernel
theorem d17_11 : decode jdk_43_method_3_code 11 = .ok (.iconst 0, 1) := by decide +kernel
theorem d17_12 : decode jdk_43_method_3_code 12 = .ok (.ireturn, 1) := by decide +kernel
theorem d17_7 : decode jdk_43_method_3_code 7 = .ok (.iconst 1, 1) := by decide +kernel
theorem d17_8 : decode jdk_43_method_3_code 8 = .ok (.goto 4, 3) := by decide +kernel
theorem pn_java_lang_StringLatin1 : plainName "java/lang/StringLatin1" = true := by first | (simp [plainName, overriddenIn]; done) | decide +kernel
theorem ef_rmCE (m : MethodId) (p0 : Int32)  : entryFrame m #[(.int p0)] 1 = mkF m 0 #[.val (.int p0)] [] := by first |  (simp [entryFrame, mkF, argsToLocals, Value.category]; done) | rfl
def f_rmCE (p0 : Int32) : Int32 := if (255 : Int32) < p0 then (0 : Int32) else (1 : Int32)
def Q_rmCE (Z : State) (p0 : Int32) (h0 : Heap) (n0 : Nat) (v : Option Value) (h : Heap) (L : List Loc) : Prop := v = some (.int (f_rmCE p0)) ∧ Fr n0 L ∧ h = h0
set_option maxRecDepth 65536 in
set_option maxHeartbeats 40000000 in
theorem rmCE (l : Launch) (Z : State) (a0 : Array Value) (hw : ∀ d ∈ tables_1, d.before a0 Z = true) (ws : List Jvm.Cond) (p0 : Int32) (h0 : Heap) (n0 : Nat) (Z0 : n0 ≤ h0.size) :
    MetFree l (⟨"java/lang/StringLatin1", "canEncode", "(C)Z"⟩ : MethodName) (head1 (Jvm.Cond.code (⟨"java/lang/StringLatin1", "canEncode", "(C)Z"⟩ : MethodName) jdk_43_method_3_code 1 (some .boolean) :: ws) ({ frames := 0, cells := 0, slots := 0, locals := 0 } : Room)) (fun a U => a = #[(.int p0)] ∧ Z.Warmed39 U.vm ∧ U.heap = h0) (fun _ _ _ _ _ => True) (fun _ U o U' => ∃ v L, o = .returned v ∧ Q_rmCE Z p0 h0 n0 v U'.heap L ∧ FrameEnd U o U' L ({ frames := 0, cells := 0, slots := 0, locals := 0 } : Room).cells ({ frames := 0, cells := 0, slots := 0, locals := 0 } : Room).slots) := by
  refine MetFree.of_bodySF (plainFor_of_name pn_java_lang_StringLatin1) hisR ?_
  intro p e s m args below meth c s₁ Bd hml0 hP hK
  obtain ⟨rfl, hZ, hh⟩ := hP
  have hx := Bd.exec
  have hby := Bd.bytes
  have hml : c.maxLocals = 1 := hml0
  have hown : s.vm.findClass "java/lang/StringLatin1" = some m.cls := findClass_of_methodNamed Bd.named
  have hnm := (name_of_methodNamed Bd.named Bd.method).1
  have hlk := Bd.notSynchronized
  have X0 : Stand p l e ({ frames := 0, cells := 0, slots := 0, locals := 0 } : Room) s m #[(.int p0)] below meth c s₁ [] 0 0 := Stand.of_body Bd
  have e0 : s₁.heap = h0 := by rw [← hh, Bd.state]; rfl
  have N0 := Fr.nil n0
  show own_G p.tables e below s (Q_rmCE Z p0 h0 n0) ({ frames := 0, cells := 0, slots := 0, locals := 0 } : Room).cells ({ frames := 0, cells := 0, slots := 0, locals := 0 } : Room).slots _
  refine own_thr (a := s₁.setTop (mkF m 0 #[.val (.int p0)] [])) (fun t kt => castTop (ef_rmCE m p0) kt) ?_
  refine own_thr (a := s₁.setTop (mkF m 4 #[.val (.int p0)] [(.int 255), (.int p0)])) (fun t kt => ?_) ?_
  · refine XS.iloadN X0.here hx rfl (hb hby d17_0) rfl ?_
    refine XS.sipush X0.here hx rfl (hb hby d17_1) ?_
    exact kt
  by_cases hc1 : (255 : Int32) < p0
  · refine own_thr (a := s₁.setTop (mkF m 12 #[.val (.int p0)] [(.int 0)])) (fun t kt => ?_) ?_
    · refine XS.icmpYes X0.here hx rfl (pc0 := 4) (pc' := 11) rfl (hb hby d17_4) rfl (tlt hc1).2.2.1 (by decide) (by decide) ?_
      refine XS.iconst X0.here hx rfl (hb hby d17_11) ?_
      exact kt
    exact own_end X0 hlk (v := some (.int 0)) (fun h => by rw [Bd.returns] at h; cases h) (fun fs hr => retN X0 hx (t := .boolean) Bd.returns (by simp) (hb hby d17_12) hr) (by rw [e0]; exact ⟨(by rw [f_rmCE, if_pos hc1]), N0, rfl⟩) (by decide : 0 ≤ _) (by decide : 0 ≤ _)
  · refine own_thr (a := s₁.setTop (mkF m 12 #[.val (.int p0)] [(.int 1)])) (fun t kt => ?_) ?_
    · refine XS.icmpNo X0.here hx rfl (hb hby d17_4) rfl (flt hc1).2.2.1 ?_
      refine XS.iconst X0.here hx rfl (hb hby d17_7) ?_
      refine XS.goto X0.here hx rfl (pc0 := 8) (pc' := 12) rfl (hb hby d17_8) (by decide) (by decide) ?_
      exact kt
    exact own_end X0 hlk (v := some (.int 1)) (fun h => by rw [Bd.returns] at h; cases h) (fun fs hr => retN X0 hx (t := .boolean) Bd.returns (by simp) (hb hby d17_12) hr) (by rw [e0]; exact ⟨(by rw [f_rmCE, if_neg hc1]), N0, rfl⟩) (by decide : 0 ≤ _) (by decide : 0 ≤ _)
theorem own_ce {c : Int32} (h : ¬ (255 : Int32) < c) : ¬ f_rmCE c = (0 : Int32) := by
  unfold f_rmCE; rw [if_neg h]; decide
theorem d18_0 : decode jdk_43_method_46_code 0 = .ok (.iconst 1, 1) := by decide +kernel
theorem d18_1 : decode jdk_43_method_46_code 1 = .ok (.newarray .byte, 2) := by decide +kernel
theorem d18_3 : decode jdk_43_method_46_code 3 = .ok (.dup, 1) := by decide +kernel
theorem d18_4 : decode jdk_43_method_46_code 4 = .ok (.iconst 0, 1) := by decide +kernel
theorem d18_5 : decode jdk_43_method_46_code 5 = .ok (.iload_n 0, 1) := by decide +kernel
theorem d18_6 : decode jdk_43_method_46_code 6 = .ok (.i2b, 1) := by decide +kernel
theorem d18_7 : decode jdk_43_method_46_code 7 = .ok (.bastore, 1) := by decide +kernel
theorem d18_8 : decode jdk_43_method_46_code 8 = .ok (.areturn, 1) := by decide +kernel
theorem ef_rmTB (m : MethodId) (p0 : Int32)  : entryFrame m #[(.int p0)] 1 = mkF m 0 #[.val (.int p0)] [] := by first |  (simp [entryFrame, mkF, argsToLocals, Value.category]; done) | rfl
def Q_rmTB (Z : State) (p0 : Int32) (h0 : Heap) (n0 : Nat) (v : Option Value) (h : Heap) (L : List Loc) : Prop := ∃ r : Addr, v = some (.ref r) ∧ Fr n0 L ∧ Keep h0 h [] ∧ (∃ k : ClassId, Arv Z h r k .byte (1 : Int32) [(.int ((p0.toInt8.toInt32).toInt8.toInt32))] (.int 0)) ∧ h0.size ≤ r
set_option maxRecDepth 65536 in
set_option maxHeartbeats 40000000 in
theorem rmTB (l : Launch) (Z : State) (a0 : Array Value) (hw : ∀ d ∈ tables_1, d.before a0 Z = true) (ws : List Jvm.Cond) (p0 : Int32) (h0 : Heap) (n0 : Nat) (Z0 : n0 ≤ h0.size) :
    MetFree l (⟨"java/lang/StringLatin1", "toBytes", "(C)[B"⟩ : MethodName) (head1 (Jvm.Cond.code (⟨"java/lang/StringLatin1", "toBytes", "(C)[B"⟩ : MethodName) jdk_43_method_46_code 1 (some (.array .byte)) :: ws) ({ frames := 0, cells := 1, slots := 1, locals := 0 } : Room)) (fun a U => a = #[(.int p0)] ∧ Z.Warmed39 U.vm ∧ U.heap = h0) (fun _ _ _ _ _ => True) (fun _ U o U' => ∃ v L, o = .returned v ∧ Q_rmTB Z p0 h0 n0 v U'.heap L ∧ FrameEnd U o U' L ({ frames := 0, cells := 1, slots := 1, locals := 0 } : Room).cells ({ frames := 0, cells := 1, slots := 1, locals := 0 } : Room).slots) := by
  refine MetFree.of_bodySF (plainFor_of_name pn_java_lang_StringLatin1) hisR ?_
  intro p e s m args below meth c s₁ Bd hml0 hP hK
  obtain ⟨rfl, hZ, hh⟩ := hP
  have hx := Bd.exec
  have hby := Bd.bytes
  have hml : c.maxLocals = 1 := hml0
  have hown : s.vm.findClass "java/lang/StringLatin1" = some m.cls := findClass_of_methodNamed Bd.named
  have hnm := (name_of_methodNamed Bd.named Bd.method).1
  have hlk := Bd.notSynchronized
  have X0 : Stand p l e ({ frames := 0, cells := 1, slots := 1, locals := 0 } : Room) s m #[(.int p0)] below meth c s₁ [] 0 0 := Stand.of_body Bd
  have e0 : s₁.heap = h0 := by rw [← hh, Bd.state]; rfl
  have N0 := Fr.nil n0
  show own_G p.tables e below s (Q_rmTB Z p0 h0 n0) ({ frames := 0, cells := 1, slots := 1, locals := 0 } : Room).cells ({ frames := 0, cells := 1, slots := 1, locals := 0 } : Room).slots _
  refine own_thr (a := s₁.setTop (mkF m 0 #[.val (.int p0)] [])) (fun t kt => castTop (ef_rmTB m p0) kt) ?_
  refine own_thr (a := s₁.setTop (mkF m 1 #[.val (.int p0)] [(.int 1)])) (fun t kt => ?_) ?_
  · refine XS.iconst X0.here hx rfl (hb hby d18_0) ?_
    exact kt
  obtain ⟨T1, h1, k1, X1, e1, E1, A1, st1⟩ := newP X0 hx hZ (hw _ (own_i 19 rfl)) e0 (g := (mkF m 1 #[.val (.int p0)] [(.int 1)])) rfl (hb hby d18_1) rfl (by decide) (cap := 1) (by decide) (by decide) (by decide : 0 + 1 ≤ _) (by decide : 0 + 1 ≤ _)
  obtain ⟨b1, g1⟩ : ∃ z, z = h0.size := ⟨_, rfl⟩
  rw [← g1] at A1 st1
  have g_b1 : n0 ≤ b1 := Nat.le_trans Z0 (Nat.le_of_eq g1.symm)
  have sz_b1 : h0.size ≤ b1 := Nat.le_trans (Nat.le_refl h0.size) (Nat.le_of_eq g1.symm)
  have V_b1 : Arv Z h1 b1 k1 .byte (1 : Int32) [(.int 0)] (.int 0) := (Arv.new A1 (by decide)).pad (pad_rep [] (.int 0) 1)
  have Z2 : n0 ≤ h1.size := Nat.le_trans Z0 E1.1
  have Z2h : h0.size ≤ h1.size := Nat.le_trans (Nat.le_refl h0.size) E1.1
  refine own_thr (a := T1.setTop (mkF m 3 #[.val (.int p0)] [(.ref b1)])) (fun t kt => st1 t kt) ?_
  refine own_thr (a := T1.setTop (mkF m 7 #[.val (.int p0)] [(.int (p0.toInt8.toInt32)), (.int 0), (.ref b1), (.ref b1)])) (fun t kt => ?_) ?_
  · refine XS.dup X1.here hx rfl (hb hby d18_3) rfl rfl ?_
    refine XS.iconst X1.here hx rfl (hb hby d18_4) ?_
    refine XS.iloadN X1.here hx rfl (hb hby d18_5) rfl ?_
    refine XS.i2b X1.here hx rfl (hb hby d18_6) rfl ?_
    exact kt
  obtain ⟨cl3, Ar3, q3, S3, M3, H3, G3⟩ := id V_b1
  have hin3 : ¬ ((0 : Int32) < 0 ∨ cl3.slots.size ≤ ((0 : Int32)).toNatClampNeg) := inb_of S3 ⟨by decide, by decide⟩
  obtain ⟨T3, h3, X3, e3, W3, st3⟩ := stB X1 hx hZ e1 Ar3 (j := (0 : Int32)) hin3 (g := (mkF m 7 #[.val (.int p0)] [(.int (p0.toInt8.toInt32)), (.int 0), (.ref b1), (.ref b1)])) rfl rfl (hb hby d18_7)
  have Z4 : n0 ≤ h3.size := Nat.le_trans Z2 (Nat.le_of_eq W3.size.symm)
  have Z4h : h0.size ≤ h3.size := Nat.le_trans Z2h (Nat.le_of_eq W3.size.symm)
  have V3 : Arv Z h3 b1 k1 .byte (1 : Int32) [(.int ((p0.toInt8.toInt32).toInt8.toInt32))] (.int 0) := Arv.set Ar3 q3 S3 M3 H3 G3 (fits_nar_byte _) W3 0 rfl (Nat.le_of_ble_eq_true rfl)
  obtain ⟨lc3, X3, N3⟩ := own_pack1 X3 N0 g_b1
  refine own_thr (a := T3.setTop (mkF m 8 #[.val (.int p0)] [(.ref b1)])) (fun t kt => st3 t kt) ?_
  exact own_end X3 hlk (v := some (.ref b1)) (fun h => by rw [Bd.returns] at h; cases h) (fun fs hr => retA X3 hx Bd.returns rfl rfl (hb hby d18_8) hr) (by rw [e3]; exact ⟨b1, rfl, N3, (((Keep.refl h0 []).ext E1).wr W3 (Or.inr sz_b1)), ⟨_, V3⟩, sz_b1⟩) (by decide : 1 ≤ _) (by decide : 1 ≤ _)
theorem d19_0 : decode jdk_42_method_151_code 0 = .ok (.aload_n 0, 1) := by decide +kernel
theorem d19_1 : decode jdk_42_method_151_code 1 = .ok (.invokespecial 1, 3) := by decide +kernel
theorem d19_4 : decode jdk_42_method_151_code 4 = .ok (.aload_n 0, 1) := by decide +kernel
theorem d19_5 : decode jdk_42_method_151_code 5 = .ok (.aload_n 1, 1) := by decide +kernel
theorem d19_6 : decode jdk_42_method_151_code 6 = .ok (.putfield 9, 3) := by decide +kernel
theorem d19_9 : decode jdk_42_method_151_code 9 = .ok (.aload_n 0, 1) := by decide +kernel
theorem d19_10 : decode jdk_42_method_151_code 10 = .ok (.iload_n 2, 1) := by decide +kernel
theorem d19_11 : decode jdk_42_method_151_code 11 = .ok (.putfield 15, 3) := by decide +kernel
theorem d19_14 : decode jdk_42_method_151_code 14 = .ok (.return_, 1) := by decide +kernel
theorem pn_java_lang_String : plainName "java/lang/String" = true := by first | (simp [plainName, overriddenIn]; done) | decide +kernel
theorem ef_rmSB (m : MethodId) (o0 : Addr) (o1 : Addr)  : entryFrame m #[(.ref o0), (.ref o1), (.int 0)] 3 = mkF m 0 #[.val (.ref o0), .val (.ref o1), .val (.int 0)] [] := by first |  (simp [entryFrame, mkF, argsToLocals, Value.category]; done) | rfl
def Q_rmSB (Z : State) (o0 : Addr) (o1 : Addr) (h0 : Heap) (n0 : Nat) (v : Option Value) (h : Heap) (L : List Loc) : Prop := v = none ∧ Fr n0 L ∧ Keep h0 h [o0] ∧ Exa Z h o0 "java/lang/String" ∧ Fld Z h o0 "java/lang/String" "value" "[B" (.ref o1) ∧ Fld Z h o0 "java/lang/String" "coder" "B" (.int 0)
set_option maxRecDepth 65536 in
set_option maxHeartbeats 40000000 in
theorem rmSB (l : Launch) (Z : State) (a0 : Array Value) (hw : ∀ d ∈ tables_1, d.before a0 Z = true) (ws : List Jvm.Cond) (o0 : Addr) (o1 : Addr) (h0 : Heap) (n0 : Nat) (Z0 : n0 ≤ h0.size) (E_o0 : Exa Z h0 o0 "java/lang/String") (F_value_o0 : Fld Z h0 o0 "java/lang/String" "value" "[B" .null) (F_coder_o0 : Fld Z h0 o0 "java/lang/String" "coder" "B" (.int 0)) (g_o0 : n0 ≤ o0) :
    MetFree l (⟨"java/lang/String", "<init>", "([BB)V"⟩ : MethodName) (head1 (Jvm.Cond.code (⟨"java/lang/String", "<init>", "([BB)V"⟩ : MethodName) jdk_42_method_151_code 3 none :: ws) ({ frames := 1, cells := 0, slots := 0, locals := 12 } : Room)) (fun a U => a = #[(.ref o0), (.ref o1), (.int 0)] ∧ Z.Warmed39 U.vm ∧ U.heap = h0) (fun _ _ _ _ _ => True) (fun _ U o U' => ∃ v L, o = .returned v ∧ Q_rmSB Z o0 o1 h0 n0 v U'.heap L ∧ FrameEnd U o U' L ({ frames := 1, cells := 0, slots := 0, locals := 12 } : Room).cells ({ frames := 1, cells := 0, slots := 0, locals := 12 } : Room).slots) := by
  refine MetFree.of_bodySF (plainFor_of_name pn_java_lang_String) hisR ?_
  intro p e s m args below meth c s₁ Bd hml0 hP hK
  obtain ⟨rfl, hZ, hh⟩ := hP
  have hx := Bd.exec
  have hby := Bd.bytes
  have hml : c.maxLocals = 3 := hml0
  have hown : s.vm.findClass "java/lang/String" = some m.cls := findClass_of_methodNamed Bd.named
  have hnm := (name_of_methodNamed Bd.named Bd.method).1
  have hlk := Bd.notSynchronized
  have X0 : Stand p l e ({ frames := 1, cells := 0, slots := 0, locals := 12 } : Room) s m #[(.ref o0), (.ref o1), (.int 0)] below meth c s₁ [] 0 0 := Stand.of_body Bd
  have e0 : s₁.heap = h0 := by rw [← hh, Bd.state]; rfl
  have N0 := Fr.nil n0
  show own_G p.tables e below s (Q_rmSB Z o0 o1 h0 n0) ({ frames := 1, cells := 0, slots := 0, locals := 12 } : Room).cells ({ frames := 1, cells := 0, slots := 0, locals := 12 } : Room).slots _
  refine own_thr (a := s₁.setTop (mkF m 0 #[.val (.ref o0), .val (.ref o1), .val (.int 0)] [])) (fun t kt => castTop (ef_rmSB m o0 o1) kt) ?_
  refine own_thr (a := s₁.setTop (mkF m 1 #[.val (.ref o0), .val (.ref o1), .val (.int 0)] [(.ref o0)])) (fun t kt => ?_) ?_
  · refine XS.aloadN X0.here hx rfl (hb hby d19_0) rfl rfl ?_
    exact kt
  obtain ⟨T1, X1, e1, st1⟩ := initO X0 hx hZ hown (hw _ (own_i 11 rfl)) (hw _ (own_i 12 rfl)) (hw _ (own_i 13 rfl)) e0 (g := (mkF m 1 #[.val (.ref o0), .val (.ref o1), .val (.int 0)] [(.ref o0)])) rfl (by rw [hml]; rfl) rfl (hb hby d19_1) (by decide) (W := 0) (by show 2 * 0 + _ ≤ _; exact Nat.le_of_eq rfl) (by decide)
  refine own_thr (a := T1.setTop (mkF m 4 #[.val (.ref o0), .val (.ref o1), .val (.int 0)] [])) (fun t kt => st1 t kt) ?_
  refine own_thr (a := T1.setTop (mkF m 6 #[.val (.ref o0), .val (.ref o1), .val (.int 0)] [(.ref o1), (.ref o0)])) (fun t kt => ?_) ?_
  · refine XS.aloadN X1.here hx rfl (hb hby d19_4) rfl rfl ?_
    refine XS.aloadN X1.here hx rfl (hb hby d19_5) rfl rfl ?_
    exact kt
  obtain ⟨T2, h2, X2, e2, W2, st2⟩ := putF X1 hx hZ hown (host := "") (Or.inl (hw _ (own_i 28 rfl))) Via.refl e1 F_value_o0 E_o0 (Or.inr ⟨(hw _ (own_i 29 rfl)), rfl, hnm⟩) (hw _ (own_i 1 rfl)) (ty := (.array .byte)) (by decide) rfl rfl (g := (mkF m 6 #[.val (.ref o0), .val (.ref o1), .val (.int 0)] [(.ref o1), (.ref o0)])) rfl rfl (hb hby d19_6)
  have Fw2 := F_value_o0.same W2
  have Z3 : n0 ≤ h2.size := Nat.le_trans Z0 (Nat.le_of_eq W2.size.symm)
  have Z3h : h0.size ≤ h2.size := Nat.le_trans (Nat.le_refl h0.size) (Nat.le_of_eq W2.size.symm)
  obtain ⟨lc2, X2, N2⟩ := own_pack1 X2 N0 g_o0
  refine own_thr (a := T2.setTop (mkF m 9 #[.val (.ref o0), .val (.ref o1), .val (.int 0)] [])) (fun t kt => st2 t kt) ?_
  refine own_thr (a := T2.setTop (mkF m 11 #[.val (.ref o0), .val (.ref o1), .val (.int 0)] [(.int 0), (.ref o0)])) (fun t kt => ?_) ?_
  · refine XS.aloadN X2.here hx rfl (hb hby d19_9) rfl rfl ?_
    refine XS.iloadN X2.here hx rfl (hb hby d19_10) rfl ?_
    exact kt
  have c4 := (F_coder_o0.other W2 (Or.inr (slot_ne (Or.inr (hw _ (own_i 27 rfl))) (Or.inr (hw _ (own_i 29 rfl))) (by decide) (t := .byte) (t' := (.array .byte)) (by decide) (by decide))))
  obtain ⟨T5, h5, X5, e5, W5, st5⟩ := putFN X2 hx hZ hown (hw _ (own_i 26 rfl)) Via.refl e2 c4 (E_o0.wr W2) (Or.inr ⟨(hw _ (own_i 27 rfl)), rfl, hnm⟩) (hw _ (own_i 1 rfl)) (ty := .byte) (v' := (.int 0)) (by decide) rfl rfl (g := (mkF m 11 #[.val (.ref o0), .val (.ref o1), .val (.int 0)] [(.int 0), (.ref o0)])) rfl rfl (hb hby d19_11)
  have Fw5 := c4.same W5
  have Z6 : n0 ≤ h5.size := Nat.le_trans Z3 (Nat.le_of_eq W5.size.symm)
  have Z6h : h0.size ≤ h5.size := Nat.le_trans Z3h (Nat.le_of_eq W5.size.symm)
  obtain ⟨lc5, X5, N5⟩ := own_pack1 X5 N2 g_o0
  refine own_thr (a := T5.setTop (mkF m 14 #[.val (.ref o0), .val (.ref o1), .val (.int 0)] [])) (fun t kt => st5 t kt) ?_
  have c7 := (Fw2.other W5 (Or.inr (slot_ne (Or.inr (hw _ (own_i 29 rfl))) (Or.inr (hw _ (own_i 27 rfl))) (by decide) (t := (.array .byte)) (t' := .byte) (by decide) (by decide))))
  exact own_end X5 hlk (v := none) (fun _ => rfl) (fun fs hr => X5.returnOut hx Bd.returns (hb hby d19_14) hr) (by rw [e5]; exact ⟨rfl, N5, (((Keep.refl h0 [o0]).wr W2 (Or.inl (own_i 0 rfl))).wr W5 (Or.inl (own_i 0 rfl))), ((E_o0.wr W2).wr W5), c7, Fw5⟩) (by decide : 0 ≤ _) (by decide : 0 ≤ _)
theorem d16_0 : decode jdk_42_method_139_code 0 = .ok (.getstatic 38, 3) := by decide +kernel
theorem d16_3 : decode jdk_42_method_139_code 3 = .ok (.ifCond .eq 23, 3) := by decide +kernel
theorem d16_6 : decode jdk_42_method_139_code 6 = .ok (.iload_n 0, 1) := by decide +kernel
theorem pd__28C_29Z : parseMethodDescriptor "(C)Z" = some ⟨[.char], some .boolean⟩ := by decide +kernel
theorem d16_7 : decode jdk_42_method_139_code 7 = .ok (.invokestatic 1015, 3) := by decide +kernel
theorem d16_10 : decode jdk_42_method_139_code 10 = .ok (.ifCond .eq 16, 3) := by decide +kernel
theorem d16_13 : decode jdk_42_method_139_code 13 = .ok (.new 10, 3) := by decide +kernel
theorem d16_16 : decode jdk_42_method_139_code 16 = .ok (.dup, 1) := by decide +kernel
theorem d16_17 : decode jdk_42_method_139_code 17 = .ok (.iload_n 0, 1) := by decide +kernel
theorem pd__28C_29_5bB : parseMethodDescriptor "(C)[B" = some ⟨[.char], some (.array .byte)⟩ := by decide +kernel
theorem d16_18 : decode jdk_42_method_139_code 18 = .ok (.invokestatic 1018, 3) := by decide +kernel
theorem d16_21 : decode jdk_42_method_139_code 21 = .ok (.iconst 0, 1) := by decide +kernel
theorem pd__28_5bBB_29V : parseMethodDescriptor "([BB)V" = some ⟨[(.array .byte), .byte], none⟩ := by decide +kernel
theorem d16_22 : decode jdk_42_method_139_code 22 = .ok (.invokespecial 209, 3) := by decide +kernel
theorem d16_25 : decode jdk_42_method_139_code 25 = .ok (.areturn, 1) := by decide +kernel
theorem ef_rmVO (m : MethodId) (p0 : Int32)  : entryFrame m #[(.int p0)] 1 = mkF m 0 #[.val (.int p0)] [] := by first |  (simp [entryFrame, mkF, argsToLocals, Value.category]; done) | rfl
def Q_rmVO (Z : State) (p0 : Int32) (cs : Int32) (h0 : Heap) (n0 : Nat) (v : Option Value) (h : Heap) (L : List Loc) : Prop := ∃ r : Addr, v = some (.ref r) ∧ Fr n0 L ∧ Keep h0 h [] ∧ Exa Z h r "java/lang/String" ∧ Fld Z h r "java/lang/String" "coder" "B" (.int 0) ∧ (∃ (b : Addr) (k : ClassId), Fld Z h r "java/lang/String" "value" "[B" (.ref b) ∧ Arv Z h b k .byte (1 : Int32) [(.int ((p0.toInt8.toInt32).toInt8.toInt32))] (.int 0))
set_option maxRecDepth 65536 in
set_option maxHeartbeats 40000000 in
theorem rmVO (l : Launch) (Z : State) (a0 : Array Value) (hw : ∀ d ∈ tables_1, d.before a0 Z = true) (ws : List Jvm.Cond) (p0 : Int32) (cs : Int32) (h0 : Heap) (n0 : Nat) (Z0 : n0 ≤ h0.size) (S_cs : Sta Z h0 "java/lang/String" "COMPACT_STRINGS" "Z" (.int cs)) (hcs : ¬ cs = (0 : Int32)) (hle : ¬ (255 : Int32) < p0) :
    MetFree l (⟨"java/lang/String", "valueOf", "(C)Ljava/lang/String;"⟩ : MethodName) (head1 (Jvm.Cond.code (⟨"java/lang/String", "valueOf", "(C)Ljava/lang/String;"⟩ : MethodName) jdk_42_method_139_code 1 (some (.object "java/lang/String")) :: ws) ({ frames := 2, cells := 2, slots := 5, locals := 27 } : Room)) (fun a U => a = #[(.int p0)] ∧ Z.Warmed39 U.vm ∧ U.heap = h0) (fun _ _ _ _ _ => True) (fun _ U o U' => ∃ v L, o = .returned v ∧ Q_rmVO Z p0 cs h0 n0 v U'.heap L ∧ FrameEnd U o U' L ({ frames := 2, cells := 2, slots := 5, locals := 27 } : Room).cells ({ frames := 2, cells := 2, slots := 5, locals := 27 } : Room).slots) := by
  refine MetFree.of_bodySF (plainFor_of_name pn_java_lang_String) hisR ?_
  intro p e s m args below meth c s₁ Bd hml0 hP hK
  obtain ⟨rfl, hZ, hh⟩ := hP
  have hx := Bd.exec
  have hby := Bd.bytes
  have hml : c.maxLocals = 1 := hml0
  have hown : s.vm.findClass "java/lang/String" = some m.cls := findClass_of_methodNamed Bd.named
  have hnm := (name_of_methodNamed Bd.named Bd.method).1
  have hlk := Bd.notSynchronized
  have X0 : Stand p l e ({ frames := 2, cells := 2, slots := 5, locals := 27 } : Room) s m #[(.int p0)] below meth c s₁ [] 0 0 := Stand.of_body Bd
  have e0 : s₁.heap = h0 := by rw [← hh, Bd.state]; rfl
  have N0 := Fr.nil n0
  show own_G p.tables e below s (Q_rmVO Z p0 cs h0 n0) ({ frames := 2, cells := 2, slots := 5, locals := 27 } : Room).cells ({ frames := 2, cells := 2, slots := 5, locals := 27 } : Room).slots _
  refine own_thr (a := s₁.setTop (mkF m 0 #[.val (.int p0)] [])) (fun t kt => castTop (ef_rmVO m p0) kt) ?_
  obtain ⟨T1, X1, e1, st1⟩ := getS2 X0 hx hZ hown (host := "") (Or.inl (hw _ (own_i 14 rfl))) Via.refl e0 S_cs (g := (mkF m 0 #[.val (.int p0)] [])) rfl (hb hby d16_0)
  refine own_thr (a := T1.setTop (mkF m 3 #[.val (.int p0)] [(.int cs)])) (fun t kt => st1 t kt) ?_
  refine own_thr (a := T1.setTop (mkF m 7 #[.val (.int p0)] [(.int p0)])) (fun t kt => ?_) ?_
  · refine XS.ifNo X1.here hx rfl (hb hby d16_3) rfl ((if0 _ _).trans (feq hcs).1) ?_
    refine XS.iloadN X1.here hx rfl (hb hby d16_6) rfl ?_
    exact kt
  obtain ⟨_, _, ⟨T2, L2, k2, n2⟩, -, X2, ⟨Lc2, hQ2, l2, y2, z2⟩, st2⟩ := Jvm.LawKit.callS X1 hx (y := (⟨"java/lang/StringLatin1", "canEncode", "(C)Z"⟩ : MethodName)) hown (mvT hZ (hw _ (own_i 98 rfl))) (mvT hZ (hw _ (own_i 99 rfl))) (mvT hZ (hw _ (own_i 61 rfl))) (mvT hZ (hw _ (own_i 100 rfl))) (by decide) (backOf (W := 0) (rmCE l Z a0 hw [] p0 h0 n0 Z0) hZ (hw _ (own_i 100 rfl)) (hw _ (own_i 61 rfl)) (by decide) (by decide)) (g := (mkF m 7 #[.val (.int p0)] [(.int p0)])) rfl (by rw [hml]; rfl) (argsL := [(.int p0)]) (rest := []) (lenOf pd__28C_29Z rfl) rfl (by show 2 * 0 + _ ≤ _; exact Nat.le_of_eq rfl) (hb hby d16_7) (fun _ _ => ⟨rfl, e1, (by decide : 0 + 0 ≤ _), (by decide : 0 + 0 ≤ _)⟩)
  dsimp only [Pt.U, Pt.locs, Pt.cells, Pt.slots] at X2 l2 y2 z2 st2 hQ2
  obtain ⟨rfl, N2q, e2⟩ := hQ2
  obtain ⟨lc2, X2, N2⟩ := own_pack X2 l2 y2 z2 N0 N2q (C := 0) (S' := 0) rfl rfl
  refine own_thr (a := T2.setTop (mkF m 10 #[.val (.int p0)] [(.int (f_rmCE p0))])) (fun t kt => st2 t kt) ?_
  refine own_thr (a := T2.setTop (mkF m 13 #[.val (.int p0)] [])) (fun t kt => ?_) ?_
  · refine XS.ifNo X2.here hx rfl (hb hby d16_10) rfl ((if0 _ _).trans (feq (own_ce hle)).1) ?_
    exact kt
  obtain ⟨T3, h3, X3, e3, E3, A3, D3, U3, st3⟩ := newO X2 hx hZ hown (hw _ (own_i 58 rfl)) (hw _ (own_i 1 rfl)) (hw _ (own_i 2 rfl)) e2 (g := (mkF m 13 #[.val (.int p0)] [])) rfl (hb hby d16_13) (by decide : 0 + 1 ≤ _) (by decide : 0 + 4 ≤ _)
  obtain ⟨b3, g3⟩ : ∃ z, z = h0.size := ⟨_, rfl⟩
  rw [← g3] at A3 D3 st3 U3
  have g_b3 : n0 ≤ b3 := Nat.le_trans Z0 (Nat.le_of_eq g3.symm)
  have sz_b3 : h0.size ≤ b3 := Nat.le_trans (Nat.le_refl h0.size) (Nat.le_of_eq g3.symm)
  have Z4 : n0 ≤ h3.size := Nat.le_trans Z0 E3.1
  have Z4h : h0.size ≤ h3.size := Nat.le_trans (Nat.le_refl h0.size) E3.1
  have F_coder_b3 : Fld Z h3 b3 "java/lang/String" "coder" "B" (.int 0) := D3 (Or.inr (hw _ (own_i 27 rfl))) (ty := .byte) (by decide)
  have F_value_b3 : Fld Z h3 b3 "java/lang/String" "value" "[B" .null := D3 (Or.inr (hw _ (own_i 29 rfl))) (ty := (.array .byte)) (by decide)
  refine own_thr (a := T3.setTop (mkF m 16 #[.val (.int p0)] [(.ref b3)])) (fun t kt => st3 t kt) ?_
  refine own_thr (a := T3.setTop (mkF m 18 #[.val (.int p0)] [(.int p0), (.ref b3), (.ref b3)])) (fun t kt => ?_) ?_
  · refine XS.dup X3.here hx rfl (hb hby d16_16) rfl rfl ?_
    refine XS.iloadN X3.here hx rfl (hb hby d16_17) rfl ?_
    exact kt
  obtain ⟨_, _, ⟨T5, L5, k5, n5⟩, -, X5, ⟨Lc5, hQ5, l5, y5, z5⟩, st5⟩ := Jvm.LawKit.callS X3 hx (y := (⟨"java/lang/StringLatin1", "toBytes", "(C)[B"⟩ : MethodName)) hown (mvT hZ (hw _ (own_i 101 rfl))) (mvT hZ (hw _ (own_i 102 rfl))) (mvT hZ (hw _ (own_i 61 rfl))) (mvT hZ (hw _ (own_i 103 rfl))) (by decide) (backOf (W := 2) (rmTB l Z a0 hw [] p0 h3 n0 Z4) hZ (hw _ (own_i 103 rfl)) (hw _ (own_i 61 rfl)) (by decide) (by decide)) (g := (mkF m 18 #[.val (.int p0)] [(.int p0), (.ref b3), (.ref b3)])) rfl (by rw [hml]; rfl) (argsL := [(.int p0)]) (rest := [(.ref b3), (.ref b3)]) (lenOf pd__28C_29_5bB rfl) rfl (by show 2 * 0 + _ ≤ _; exact Nat.le_of_eq rfl) (hb hby d16_18) (fun _ _ => ⟨rfl, e3, (by decide : 1 + 1 ≤ _), (by decide : 4 + 1 ≤ _)⟩)
  dsimp only [Pt.U, Pt.locs, Pt.cells, Pt.slots] at X5 l5 y5 z5 st5 hQ5
  obtain ⟨r5, rfl, N5q, K5, o5_0, o5_1⟩ := hQ5
  have Z6 : n0 ≤ T5.heap.size := Nat.le_trans Z4 K5.1
  have Z6h : h0.size ≤ T5.heap.size := Nat.le_trans Z4h K5.1
  obtain ⟨lc5, X5, N5⟩ := own_pack X5 l5 y5 z5 N2 N5q (C := 2) (S' := 5) rfl rfl
  refine own_thr (a := T5.setTop (mkF m 21 #[.val (.int p0)] [(.ref r5), (.ref b3), (.ref b3)])) (fun t kt => st5 t kt) ?_
  obtain ⟨kq5, Vq5⟩ := o5_0
  have ne_b3_r5 : b3 ≠ r5 := Nat.ne_of_lt (Nat.lt_of_lt_of_le A3.lt o5_1)
  refine own_thr (a := T5.setTop (mkF m 22 #[.val (.int p0)] [(.int 0), (.ref r5), (.ref b3), (.ref b3)])) (fun t kt => ?_) ?_
  · refine XS.iconst X5.here hx rfl (hb hby d16_21) ?_
    exact kt
  obtain ⟨_, _, ⟨T7, L7, k7, n7⟩, -, X7, ⟨Lc7, hQ7, l7, y7, z7⟩, st7⟩ := X5.specialBack hx (y := (⟨"java/lang/String", "<init>", "([BB)V"⟩ : MethodName)) rfl hown (mvT hZ (hw _ (own_i 104 rfl))) (mvT hZ (hw _ (own_i 105 rfl))) (mvT hZ (hw _ (own_i 106 rfl))) (by decide) (backOf (W := 1) (rmSB l Z a0 hw [] b3 r5 T5.heap n0 Z6 (A3.keep K5) (F_value_b3.keep K5 nin0) (F_coder_b3.keep K5 nin0) g_b3) hZ (hw _ (own_i 106 rfl)) (hw _ (own_i 2 rfl)) (by decide) (by decide)) (g := (mkF m 22 #[.val (.int p0)] [(.int 0), (.ref r5), (.ref b3), (.ref b3)])) rfl (by rw [hml]; rfl) (Steps.refl _) (a := b3) (argsL := [(.ref r5), (.int 0)]) (rest := [(.ref b3)]) (lenOf pd__28_5bBB_29V rfl) rfl (by show 2 * 0 + _ ≤ _; exact Nat.le_of_eq rfl) (hb hby d16_22) (fun _ _ => ⟨rfl, rfl, (by decide : 2 + 0 ≤ _), (by decide : 5 + 0 ≤ _)⟩)
  dsimp only [Pt.U, Pt.locs, Pt.cells, Pt.slots] at X7 l7 y7 z7 st7 hQ7
  obtain ⟨rfl, N7q, K7, o7_0, o7_1, o7_2⟩ := hQ7
  have Z8 : n0 ≤ T7.heap.size := Nat.le_trans Z6 K7.1
  have Z8h : h0.size ≤ T7.heap.size := Nat.le_trans Z6h K7.1
  obtain ⟨lc7, X7, N7⟩ := own_pack X7 l7 y7 z7 N5 N7q (C := 2) (S' := 5) rfl rfl
  refine own_thr (a := T7.setTop (mkF m 25 #[.val (.int p0)] [(.ref b3)])) (fun t kt => st7.trans kt) ?_
  exact own_end X7 hlk (v := some (.ref b3)) (fun h => by rw [Bd.returns] at h; cases h) (fun fs hr => retA X7 hx Bd.returns rfl rfl (hb hby d16_25) hr) ⟨b3, rfl, N7, ((((Keep.refl h0 []).ext E3).trans K5 all0).trans K7 (allS (Or.inr sz_b3) all0)), o7_0, o7_2, ⟨r5, _, o7_1, (Vq5.keep K7 (ninS (Ne.symm ne_b3_r5) nin0))⟩⟩ (by decide : 2 ≤ _) (by decide : 5 ≤ _)
theorem d10_0 : decode jdk_43_method_13_code 0 = .ok (.aload_n 0, 1) := by decide +kernel
theorem d10_1 : decode jdk_43_method_13_code 1 = .ok (.arraylength, 1) := by decide +kernel
theorem d10_2 : decode jdk_43_method_13_code 2 = .ok (.aload_n 1, 1) := by decide +kernel
theorem d10_3 : decode jdk_43_method_13_code 3 = .ok (.arraylength, 1) := by decide +kernel
theorem d10_4 : decode jdk_43_method_13_code 4 = .ok (.if_icmp .ne 30, 3) := by decide +kernel
theorem d10_34 : decode jdk_43_method_13_code 34 = .ok (.iconst 0, 1) := by decide +kernel
theorem d10_35 : decode jdk_43_method_13_code 35 = .ok (.ireturn, 1) := by decide +kernel
theorem ef_rmLED (m : MethodId) (o0 : Addr) (o1 : Addr)  : entryFrame m #[(.ref o0), (.ref o1)] 3 = mkF m 0 #[.val (.ref o0), .val (.ref o1), .unset] [] := by first |  (simp [entryFrame, mkF, argsToLocals, Value.category]; done) | rfl
def Q_rmLED (Z : State) (o0 : Addr) (o1 : Addr) (ln0 : Int32) (ln1 : Int32) (xs0 : List Value) (xs1 : List Value) (k0 : ClassId) (k1 : ClassId) (h0 : Heap) (n0 : Nat) (v : Option Value) (h : Heap) (L : List Loc) : Prop := v = some (.int 0) ∧ Fr n0 L ∧ h = h0
set_option maxRecDepth 65536 in
set_option maxHeartbeats 40000000 in
theorem rmLED (l : Launch) (Z : State) (a0 : Array Value) (hw : ∀ d ∈ tables_1, d.before a0 Z = true) (ws : List Jvm.Cond) (o0 : Addr) (o1 : Addr) (ln0 : Int32) (ln1 : Int32) (xs0 : List Value) (xs1 : List Value) (k0 : ClassId) (k1 : ClassId) (h0 : Heap) (n0 : Nat) (Z0 : n0 ≤ h0.size) (V_o0 : Arv Z h0 o0 k0 .byte ln0 xs0 (.int 0)) (V_o1 : Arv Z h0 o1 k1 .byte ln1 xs1 (.int 0)) (hne : ¬ ln0 = ln1) :
    MetFree l (⟨"java/lang/StringLatin1", "equals", "([B[B)Z"⟩ : MethodName) (head1 (Jvm.Cond.code (⟨"java/lang/StringLatin1", "equals", "([B[B)Z"⟩ : MethodName) jdk_43_method_13_code 3 (some .boolean) :: ws) ({ frames := 0, cells := 0, slots := 0, locals := 0 } : Room)) (fun a U => a = #[(.ref o0), (.ref o1)] ∧ Z.Warmed39 U.vm ∧ U.heap = h0) (fun _ _ _ _ _ => True) (fun _ U o U' => ∃ v L, o = .returned v ∧ Q_rmLED Z o0 o1 ln0 ln1 xs0 xs1 k0 k1 h0 n0 v U'.heap L ∧ FrameEnd U o U' L ({ frames := 0, cells := 0, slots := 0, locals := 0 } : Room).cells ({ frames := 0, cells := 0, slots := 0, locals := 0 } : Room).slots) := by
  refine MetFree.of_bodySF (plainFor_of_name pn_java_lang_StringLatin1) hisR ?_
  intro p e s m args below meth c s₁ Bd hml0 hP hK
  obtain ⟨rfl, hZ, hh⟩ := hP
  have hx := Bd.exec
  have hby := Bd.bytes
  have hml : c.maxLocals = 3 := hml0
  have hown : s.vm.findClass "java/lang/StringLatin1" = some m.cls := findClass_of_methodNamed Bd.named
  have hnm := (name_of_methodNamed Bd.named Bd.method).1
  have hlk := Bd.notSynchronized
  have X0 : Stand p l e ({ frames := 0, cells := 0, slots := 0, locals := 0 } : Room) s m #[(.ref o0), (.ref o1)] below meth c s₁ [] 0 0 := Stand.of_body Bd
  have e0 : s₁.heap = h0 := by rw [← hh, Bd.state]; rfl
  have N0 := Fr.nil n0
  show own_G p.tables e below s (Q_rmLED Z o0 o1 ln0 ln1 xs0 xs1 k0 k1 h0 n0) ({ frames := 0, cells := 0, slots := 0, locals := 0 } : Room).cells ({ frames := 0, cells := 0, slots := 0, locals := 0 } : Room).slots _
  refine own_thr (a := s₁.setTop (mkF m 0 #[.val (.ref o0), .val (.ref o1), .unset] [])) (fun t kt => castTop (ef_rmLED m o0 o1) kt) ?_
  refine own_thr (a := s₁.setTop (mkF m 1 #[.val (.ref o0), .val (.ref o1), .unset] [(.ref o0)])) (fun t kt => ?_) ?_
  · refine XS.aloadN X0.here hx rfl (hb hby d10_0) rfl rfl ?_
    exact kt
  obtain ⟨cl1, Ar1, -, S1, M1, -, -⟩ := id V_o0
  refine own_thr (a := s₁.setTop (mkF m 3 #[.val (.ref o0), .val (.ref o1), .unset] [(.ref o1), (.int ln0)])) (fun t kt => ?_) ?_
  · refine X0.arraylength hx (by rw [e0]; exact Ar1.1) (State.isArrayOf_alike hZ.alike Ar1.2.1) (g := (mkF m 1 #[.val (.ref o0), .val (.ref o1), .unset] [(.ref o0)])) rfl rfl (hb hby d10_1) _ ?_
    rw [len_of S1 M1]
    refine XS.aloadN X0.here hx rfl (hb hby d10_2) rfl rfl ?_
    exact kt
  obtain ⟨cl2, Ar2, -, S2, M2, -, -⟩ := id V_o1
  refine own_thr (a := s₁.setTop (mkF m 35 #[.val (.ref o0), .val (.ref o1), .unset] [(.int 0)])) (fun t kt => ?_) ?_
  · refine X0.arraylength hx (by rw [e0]; exact Ar2.1) (State.isArrayOf_alike hZ.alike Ar2.2.1) (g := (mkF m 3 #[.val (.ref o0), .val (.ref o1), .unset] [(.ref o1), (.int ln0)])) rfl rfl (hb hby d10_3) _ ?_
    rw [len_of S2 M2]
    refine XS.icmpYes X0.here hx rfl (pc0 := 4) (pc' := 34) rfl (hb hby d10_4) rfl (feq hne).2 (by decide) (by decide) ?_
    refine XS.iconst X0.here hx rfl (hb hby d10_34) ?_
    exact kt
  exact own_end X0 hlk (v := some (.int 0)) (fun h => by rw [Bd.returns] at h; cases h) (fun fs hr => retN X0 hx (t := .boolean) Bd.returns (by simp) (hb hby d10_35) hr) (by rw [e0]; exact ⟨rfl, N0, rfl⟩) (by decide : 0 ≤ _) (by decide : 0 ≤ _)
theorem d9_0 : decode jdk_42_method_66_code 0 = .ok (.aload_n 0, 1) := by decide +kernel
theorem d9_1 : decode jdk_42_method_66_code 1 = .ok (.aload_n 1, 1) := by decide +kernel
theorem d9_2 : decode jdk_42_method_66_code 2 = .ok (.if_acmp .ne 5, 3) := by decide +kernel
theorem d9_7 : decode jdk_42_method_66_code 7 = .ok (.aload_n 1, 1) := by decide +kernel
theorem d9_8 : decode jdk_42_method_66_code 8 = .ok (.instanceof 10, 3) := by decide +kernel
theorem d9_11 : decode jdk_42_method_66_code 11 = .ok (.ifCond .eq 43, 3) := by decide +kernel
theorem d9_14 : decode jdk_42_method_66_code 14 = .ok (.aload_n 1, 1) := by decide +kernel
theorem d9_15 : decode jdk_42_method_66_code 15 = .ok (.checkcast 10, 3) := by decide +kernel
theorem d9_18 : decode jdk_42_method_66_code 18 = .ok (.astore_n 2, 1) := by decide +kernel
theorem d9_19 : decode jdk_42_method_66_code 19 = .ok (.getstatic 38, 3) := by decide +kernel
theorem d9_22 : decode jdk_42_method_66_code 22 = .ok (.ifCond .eq 14, 3) := by decide +kernel
theorem d9_25 : decode jdk_42_method_66_code 25 = .ok (.aload_n 0, 1) := by decide +kernel
theorem d9_26 : decode jdk_42_method_66_code 26 = .ok (.getfield 15, 3) := by decide +kernel
theorem d9_29 : decode jdk_42_method_66_code 29 = .ok (.aload_n 2, 1) := by decide +kernel
theorem d9_30 : decode jdk_42_method_66_code 30 = .ok (.getfield 15, 3) := by decide +kernel
theorem d9_33 : decode jdk_42_method_66_code 33 = .ok (.if_icmp .ne 21, 3) := by decide +kernel
theorem d9_36 : decode jdk_42_method_66_code 36 = .ok (.aload_n 0, 1) := by decide +kernel
theorem d9_37 : decode jdk_42_method_66_code 37 = .ok (.getfield 9, 3) := by decide +kernel
theorem d9_40 : decode jdk_42_method_66_code 40 = .ok (.aload_n 2, 1) := by decide +kernel
theorem d9_41 : decode jdk_42_method_66_code 41 = .ok (.getfield 9, 3) := by decide +kernel
theorem pd__28_5bB_5bB_29Z : parseMethodDescriptor "([B[B)Z" = some ⟨[(.array .byte), (.array .byte)], some .boolean⟩ := by decide +kernel
theorem d9_44 : decode jdk_42_method_66_code 44 = .ok (.invokestatic 541, 3) := by decide +kernel
theorem d9_47 : decode jdk_42_method_66_code 47 = .ok (.ifCond .eq 7, 3) := by decide +kernel
theorem d9_54 : decode jdk_42_method_66_code 54 = .ok (.iconst 0, 1) := by decide +kernel
theorem d9_55 : decode jdk_42_method_66_code 55 = .ok (.ireturn, 1) := by decide +kernel
theorem ef_rmEQD (m : MethodId) (o0 : Addr) (o1 : Addr)  : entryFrame m #[(.ref o0), (.ref o1)] 3 = mkF m 0 #[.val (.ref o0), .val (.ref o1), .unset] [] := by first |  (simp [entryFrame, mkF, argsToLocals, Value.category]; done) | rfl
def Q_rmEQD (Z : State) (o0 : Addr) (o1 : Addr) (v0 : Addr) (v1 : Addr) (ln0 : Int32) (ln1 : Int32) (xs0 : List Value) (xs1 : List Value) (k0 : ClassId) (k1 : ClassId) (cs : Int32) (h0 : Heap) (n0 : Nat) (v : Option Value) (h : Heap) (L : List Loc) : Prop := v = some (.int 0) ∧ Fr n0 L ∧ h = h0
set_option maxRecDepth 65536 in
set_option maxHeartbeats 40000000 in
theorem rmEQD (l : Launch) (Z : State) (a0 : Array Value) (hw : ∀ d ∈ tables_1, d.before a0 Z = true) (ws : List Jvm.Cond) (o0 : Addr) (o1 : Addr) (v0 : Addr) (v1 : Addr) (ln0 : Int32) (ln1 : Int32) (xs0 : List Value) (xs1 : List Value) (k0 : ClassId) (k1 : ClassId) (cs : Int32) (h0 : Heap) (n0 : Nat) (Z0 : n0 ≤ h0.size) (E_o0 : Exa Z h0 o0 "java/lang/String") (F_value_o0 : Fld Z h0 o0 "java/lang/String" "value" "[B" (.ref v0)) (F_coder_o0 : Fld Z h0 o0 "java/lang/String" "coder" "B" (.int 0)) (E_o1 : Exa Z h0 o1 "java/lang/String") (F_value_o1 : Fld Z h0 o1 "java/lang/String" "value" "[B" (.ref v1)) (F_coder_o1 : Fld Z h0 o1 "java/lang/String" "coder" "B" (.int 0)) (V_v0 : Arv Z h0 v0 k0 .byte ln0 xs0 (.int 0)) (V_v1 : Arv Z h0 v1 k1 .byte ln1 xs1 (.int 0)) (S_COMPACT_STRINGS : Sta Z h0 "java/lang/String" "COMPACT_STRINGS" "Z" (.int cs)) (hcs : ¬ cs = (0 : Int32)) (hneo : ¬ o0 = o1) (hne : ¬ ln0 = ln1) :
    MetFree l (⟨"java/lang/String", "equals", "(Ljava/lang/Object;)Z"⟩ : MethodName) (head1 (Jvm.Cond.code (⟨"java/lang/String", "equals", "(Ljava/lang/Object;)Z"⟩ : MethodName) jdk_42_method_66_code 3 (some .boolean) :: ws) ({ frames := 1, cells := 0, slots := 0, locals := 14 } : Room)) (fun a U => a = #[(.ref o0), (.ref o1)] ∧ Z.Warmed39 U.vm ∧ U.heap = h0) (fun _ _ _ _ _ => True) (fun _ U o U' => ∃ v L, o = .returned v ∧ Q_rmEQD Z o0 o1 v0 v1 ln0 ln1 xs0 xs1 k0 k1 cs h0 n0 v U'.heap L ∧ FrameEnd U o U' L ({ frames := 1, cells := 0, slots := 0, locals := 14 } : Room).cells ({ frames := 1, cells := 0, slots := 0, locals := 14 } : Room).slots) := by
  refine MetFree.of_bodySF (plainFor_of_name pn_java_lang_String) hisR ?_
  intro p e s m args below meth c s₁ Bd hml0 hP hK
  obtain ⟨rfl, hZ, hh⟩ := hP
  have hx := Bd.exec
  have hby := Bd.bytes
  have hml : c.maxLocals = 3 := hml0
  have hown : s.vm.findClass "java/lang/String" = some m.cls := findClass_of_methodNamed Bd.named
  have hnm := (name_of_methodNamed Bd.named Bd.method).1
  have hlk := Bd.notSynchronized
  have X0 : Stand p l e ({ frames := 1, cells := 0, slots := 0, locals := 14 } : Room) s m #[(.ref o0), (.ref o1)] below meth c s₁ [] 0 0 := Stand.of_body Bd
  have e0 : s₁.heap = h0 := by rw [← hh, Bd.state]; rfl
  have N0 := Fr.nil n0
  show own_G p.tables e below s (Q_rmEQD Z o0 o1 v0 v1 ln0 ln1 xs0 xs1 k0 k1 cs h0 n0) ({ frames := 1, cells := 0, slots := 0, locals := 14 } : Room).cells ({ frames := 1, cells := 0, slots := 0, locals := 14 } : Room).slots _
  refine own_thr (a := s₁.setTop (mkF m 0 #[.val (.ref o0), .val (.ref o1), .unset] [])) (fun t kt => castTop (ef_rmEQD m o0 o1) kt) ?_
  refine own_thr (a := s₁.setTop (mkF m 2 #[.val (.ref o0), .val (.ref o1), .unset] [(.ref o1), (.ref o0)])) (fun t kt => ?_) ?_
  · refine XS.aloadN X0.here hx rfl (hb hby d9_0) rfl rfl ?_
    refine XS.aloadN X0.here hx rfl (hb hby d9_1) rfl rfl ?_
    exact kt
  refine own_thr (a := s₁.setTop (mkF m 8 #[.val (.ref o0), .val (.ref o1), .unset] [(.ref o1)])) (fun t kt => ?_) ?_
  · refine Jvm.RoadKit.acmp (g := (mkF m 2 #[.val (.ref o0), .val (.ref o1), .unset] [(.ref o1), (.ref o0)])) X0 hx rfl rfl rfl (pc0 := 2) (pc' := 7) (same := false) rfl (hb hby d9_2) rfl (decide_eq_false (fun q => hneo (Value.ref.inj q))) (by decide) (by decide) ?_
    refine XS.aloadN X0.here hx rfl (hb hby d9_7) rfl rfl ?_
    exact kt
  obtain ⟨T1, X1, e1, st1⟩ := instY X0 hx hZ hown (hw _ (own_i 58 rfl)) e0 (Ins.self E_o1) (g := (mkF m 8 #[.val (.ref o0), .val (.ref o1), .unset] [(.ref o1)])) rfl rfl (hb hby d9_8)
  refine own_thr (a := T1.setTop (mkF m 11 #[.val (.ref o0), .val (.ref o1), .unset] [(.int 1)])) (fun t kt => st1 t kt) ?_
  refine own_thr (a := T1.setTop (mkF m 15 #[.val (.ref o0), .val (.ref o1), .unset] [(.ref o1)])) (fun t kt => ?_) ?_
  · refine XS.ifNo X1.here hx rfl (hb hby d9_11) rfl ((if0 _ _).trans (feq (by decide)).1) ?_
    refine XS.aloadN X1.here hx rfl (hb hby d9_14) rfl rfl ?_
    exact kt
  obtain ⟨T2, X2, e2, st2⟩ := castY X1 hx hZ hown (hw _ (own_i 58 rfl)) e1 (Ins.self E_o1) (g := (mkF m 15 #[.val (.ref o0), .val (.ref o1), .unset] [(.ref o1)])) rfl rfl (hb hby d9_15)
  refine own_thr (a := T2.setTop (mkF m 18 #[.val (.ref o0), .val (.ref o1), .unset] [(.ref o1)])) (fun t kt => st2 t kt) ?_
  refine own_thr (a := T2.setTop (mkF m 19 #[.val (.ref o0), .val (.ref o1), .val (.ref o1)] [])) (fun t kt => ?_) ?_
  · refine XS.astoreN X2.here hx rfl (hb hby d9_18) rfl rfl (l' := #[.val (.ref o0), .val (.ref o1), .val (.ref o1)]) rfl ?_
    exact kt
  obtain ⟨T3, X3, e3, st3⟩ := getS2 X2 hx hZ hown (host := "") (Or.inl (hw _ (own_i 14 rfl))) Via.refl e2 S_COMPACT_STRINGS (g := (mkF m 19 #[.val (.ref o0), .val (.ref o1), .val (.ref o1)] [])) rfl (hb hby d9_19)
  refine own_thr (a := T3.setTop (mkF m 22 #[.val (.ref o0), .val (.ref o1), .val (.ref o1)] [(.int cs)])) (fun t kt => st3 t kt) ?_
  refine own_thr (a := T3.setTop (mkF m 26 #[.val (.ref o0), .val (.ref o1), .val (.ref o1)] [(.ref o0)])) (fun t kt => ?_) ?_
  · refine XS.ifNo X3.here hx rfl (hb hby d9_22) rfl ((if0 _ _).trans (feq hcs).1) ?_
    refine XS.aloadN X3.here hx rfl (hb hby d9_25) rfl rfl ?_
    exact kt
  obtain ⟨T4, X4, e4, st4⟩ := getF X3 hx hZ hown (host := "") (Or.inl (hw _ (own_i 26 rfl))) Via.refl e3 F_coder_o0 (g := (mkF m 26 #[.val (.ref o0), .val (.ref o1), .val (.ref o1)] [(.ref o0)])) rfl rfl (hb hby d9_26)
  refine own_thr (a := T4.setTop (mkF m 29 #[.val (.ref o0), .val (.ref o1), .val (.ref o1)] [(.int 0)])) (fun t kt => st4 t kt) ?_
  refine own_thr (a := T4.setTop (mkF m 30 #[.val (.ref o0), .val (.ref o1), .val (.ref o1)] [(.ref o1), (.int 0)])) (fun t kt => ?_) ?_
  · refine XS.aloadN X4.here hx rfl (hb hby d9_29) rfl rfl ?_
    exact kt
  obtain ⟨T5, X5, e5, st5⟩ := getF X4 hx hZ hown (host := "") (Or.inl (hw _ (own_i 26 rfl))) Via.refl e4 F_coder_o1 (g := (mkF m 30 #[.val (.ref o0), .val (.ref o1), .val (.ref o1)] [(.ref o1), (.int 0)])) rfl rfl (hb hby d9_30)
  refine own_thr (a := T5.setTop (mkF m 33 #[.val (.ref o0), .val (.ref o1), .val (.ref o1)] [(.int 0), (.int 0)])) (fun t kt => st5 t kt) ?_
  refine own_thr (a := T5.setTop (mkF m 37 #[.val (.ref o0), .val (.ref o1), .val (.ref o1)] [(.ref o0)])) (fun t kt => ?_) ?_
  · refine XS.icmpNo X5.here hx rfl (hb hby d9_33) rfl (teq rfl).2 ?_
    refine XS.aloadN X5.here hx rfl (hb hby d9_36) rfl rfl ?_
    exact kt
  obtain ⟨T6, X6, e6, st6⟩ := getF X5 hx hZ hown (host := "") (Or.inl (hw _ (own_i 28 rfl))) Via.refl e5 F_value_o0 (g := (mkF m 37 #[.val (.ref o0), .val (.ref o1), .val (.ref o1)] [(.ref o0)])) rfl rfl (hb hby d9_37)
  refine own_thr (a := T6.setTop (mkF m 40 #[.val (.ref o0), .val (.ref o1), .val (.ref o1)] [(.ref v0)])) (fun t kt => st6 t kt) ?_
  refine own_thr (a := T6.setTop (mkF m 41 #[.val (.ref o0), .val (.ref o1), .val (.ref o1)] [(.ref o1), (.ref v0)])) (fun t kt => ?_) ?_
  · refine XS.aloadN X6.here hx rfl (hb hby d9_40) rfl rfl ?_
    exact kt
  obtain ⟨T7, X7, e7, st7⟩ := getF X6 hx hZ hown (host := "") (Or.inl (hw _ (own_i 28 rfl))) Via.refl e6 F_value_o1 (g := (mkF m 41 #[.val (.ref o0), .val (.ref o1), .val (.ref o1)] [(.ref o1), (.ref v0)])) rfl rfl (hb hby d9_41)
  refine own_thr (a := T7.setTop (mkF m 44 #[.val (.ref o0), .val (.ref o1), .val (.ref o1)] [(.ref v1), (.ref v0)])) (fun t kt => st7 t kt) ?_
  obtain ⟨_, _, ⟨T8, L8, k8, n8⟩, -, X8, ⟨Lc8, hQ8, l8, y8, z8⟩, st8⟩ := Jvm.LawKit.callS X7 hx (y := (⟨"java/lang/StringLatin1", "equals", "([B[B)Z"⟩ : MethodName)) hown (mvT hZ (hw _ (own_i 59 rfl))) (mvT hZ (hw _ (own_i 60 rfl))) (mvT hZ (hw _ (own_i 61 rfl))) (mvT hZ (hw _ (own_i 62 rfl))) (by decide) (backOf (W := 0) (rmLED l Z a0 hw [] v0 v1 ln0 ln1 xs0 xs1 k0 k1 h0 n0 Z0 V_v0 V_v1 hne) hZ (hw _ (own_i 62 rfl)) (hw _ (own_i 61 rfl)) (by decide) (by decide)) (g := (mkF m 44 #[.val (.ref o0), .val (.ref o1), .val (.ref o1)] [(.ref v1), (.ref v0)])) rfl (by rw [hml]; rfl) (argsL := [(.ref v0), (.ref v1)]) (rest := []) (lenOf pd__28_5bB_5bB_29Z rfl) rfl (by show 2 * 0 + _ ≤ _; exact Nat.le_of_eq rfl) (hb hby d9_44) (fun _ _ => ⟨rfl, e7, (by decide : 0 + 0 ≤ _), (by decide : 0 + 0 ≤ _)⟩)
  dsimp only [Pt.U, Pt.locs, Pt.cells, Pt.slots] at X8 l8 y8 z8 st8 hQ8
  obtain ⟨rfl, N8q, e8⟩ := hQ8
  obtain ⟨lc8, X8, N8⟩ := own_pack X8 l8 y8 z8 N0 N8q (C := 0) (S' := 0) rfl rfl
  refine own_thr (a := T8.setTop (mkF m 47 #[.val (.ref o0), .val (.ref o1), .val (.ref o1)] [(.int 0)])) (fun t kt => st8 t kt) ?_
  refine own_thr (a := T8.setTop (mkF m 55 #[.val (.ref o0), .val (.ref o1), .val (.ref o1)] [(.int 0)])) (fun t kt => ?_) ?_
  · refine XS.ifYes X8.here hx rfl (pc0 := 47) (pc' := 54) rfl (hb hby d9_47) rfl ((if0 _ _).trans (teq rfl).1) (by decide) (by decide) ?_
    refine XS.iconst X8.here hx rfl (hb hby d9_54) ?_
    exact kt
  exact own_end X8 hlk (v := some (.int 0)) (fun h => by rw [Bd.returns] at h; cases h) (fun fs hr => retN X8 hx (t := .boolean) Bd.returns (by simp) (hb hby d9_55) hr) (by rw [e8]; exact ⟨rfl, N8, rfl⟩) (by decide : 0 ≤ _) (by decide : 0 ≤ _)
theorem ef_rmEQN (m : MethodId) (o0 : Addr)  : entryFrame m #[(.ref o0), .null] 3 = mkF m 0 #[.val (.ref o0), .val .null, .unset] [] := by first |  (simp [entryFrame, mkF, argsToLocals, Value.category]; done) | rfl
def Q_rmEQN (Z : State) (o0 : Addr) (h0 : Heap) (n0 : Nat) (v : Option Value) (h : Heap) (L : List Loc) : Prop := v = some (.int 0) ∧ Fr n0 L ∧ h = h0
set_option maxRecDepth 65536 in
set_option maxHeartbeats 40000000 in
theorem rmEQN (l : Launch) (Z : State) (a0 : Array Value) (hw : ∀ d ∈ tables_1, d.before a0 Z = true) (ws : List Jvm.Cond) (o0 : Addr) (h0 : Heap) (n0 : Nat) (Z0 : n0 ≤ h0.size) :
    MetFree l (⟨"java/lang/String", "equals", "(Ljava/lang/Object;)Z"⟩ : MethodName) (head1 (Jvm.Cond.code (⟨"java/lang/String", "equals", "(Ljava/lang/Object;)Z"⟩ : MethodName) jdk_42_method_66_code 3 (some .boolean) :: ws) ({ frames := 0, cells := 0, slots := 0, locals := 0 } : Room)) (fun a U => a = #[(.ref o0), .null] ∧ Z.Warmed39 U.vm ∧ U.heap = h0) (fun _ _ _ _ _ => True) (fun _ U o U' => ∃ v L, o = .returned v ∧ Q_rmEQN Z o0 h0 n0 v U'.heap L ∧ FrameEnd U o U' L ({ frames := 0, cells := 0, slots := 0, locals := 0 } : Room).cells ({ frames := 0, cells := 0, slots := 0, locals := 0 } : Room).slots) := by
  refine MetFree.of_bodySF (plainFor_of_name pn_java_lang_String) hisR ?_
  intro p e s m args below meth c s₁ Bd hml0 hP hK
  obtain ⟨rfl, hZ, hh⟩ := hP
  have hx := Bd.exec
  have hby := Bd.bytes
  have hml : c.maxLocals = 3 := hml0
  have hown : s.vm.findClass "java/lang/String" = some m.cls := findClass_of_methodNamed Bd.named
  have hnm := (name_of_methodNamed Bd.named Bd.method).1
  have hlk := Bd.notSynchronized
  have X0 : Stand p l e ({ frames := 0, cells := 0, slots := 0, locals := 0 } : Room) s m #[(.ref o0), .null] below meth c s₁ [] 0 0 := Stand.of_body Bd
  have e0 : s₁.heap = h0 := by rw [← hh, Bd.state]; rfl
  have N0 := Fr.nil n0
  show own_G p.tables e below s (Q_rmEQN Z o0 h0 n0) ({ frames := 0, cells := 0, slots := 0, locals := 0 } : Room).cells ({ frames := 0, cells := 0, slots := 0, locals := 0 } : Room).slots _
  refine own_thr (a := s₁.setTop (mkF m 0 #[.val (.ref o0), .val .null, .unset] [])) (fun t kt => castTop (ef_rmEQN m o0) kt) ?_
  refine own_thr (a := s₁.setTop (mkF m 2 #[.val (.ref o0), .val .null, .unset] [.null, (.ref o0)])) (fun t kt => ?_) ?_
  · refine XS.aloadN X0.here hx rfl (hb hby d9_0) rfl rfl ?_
    refine XS.aloadN X0.here hx rfl (hb hby d9_1) rfl rfl ?_
    exact kt
  refine own_thr (a := s₁.setTop (mkF m 8 #[.val (.ref o0), .val .null, .unset] [.null])) (fun t kt => ?_) ?_
  · refine Jvm.RoadKit.acmp (g := (mkF m 2 #[.val (.ref o0), .val .null, .unset] [.null, (.ref o0)])) X0 hx rfl rfl rfl (pc0 := 2) (pc' := 7) (same := false) rfl (hb hby d9_2) rfl (decide_eq_false nofun) (by decide) (by decide) ?_
    refine XS.aloadN X0.here hx rfl (hb hby d9_7) rfl rfl ?_
    exact kt
  refine own_thr (a := s₁.setTop (mkF m 55 #[.val (.ref o0), .val .null, .unset] [(.int 0)])) (fun t kt => ?_) ?_
  · refine X0.instanceofNull hx (g := (mkF m 8 #[.val (.ref o0), .val .null, .unset] [.null])) rfl rfl (hb hby d9_8) _ ?_
    refine XS.ifYes X0.here hx rfl (pc0 := 11) (pc' := 54) rfl (hb hby d9_11) rfl ((if0 _ _).trans (teq rfl).1) (by decide) (by decide) ?_
    refine XS.iconst X0.here hx rfl (hb hby d9_54) ?_
    exact kt
  exact own_end X0 hlk (v := some (.int 0)) (fun h => by rw [Bd.returns] at h; cases h) (fun fs hr => retN X0 hx (t := .boolean) Bd.returns (by simp) (hb hby d9_55) hr) (by rw [e0]; exact ⟨rfl, N0, rfl⟩) (by decide : 0 ≤ _) (by decide : 0 ≤ _)
theorem d10_7 : decode jdk_43_method_13_code 7 = .ok (.iconst 0, 1) := by decide +kernel
theorem d10_8 : decode jdk_43_method_13_code 8 = .ok (.istore_n 2, 1) := by decide +kernel
theorem d10_9 : decode jdk_43_method_13_code 9 = .ok (.iload_n 2, 1) := by decide +kernel
theorem d10_10 : decode jdk_43_method_13_code 10 = .ok (.aload_n 0, 1) := by decide +kernel
theorem d10_11 : decode jdk_43_method_13_code 11 = .ok (.arraylength, 1) := by decide +kernel
theorem d10_12 : decode jdk_43_method_13_code 12 = .ok (.if_icmp .ge 20, 3) := by decide +kernel
theorem d10_15 : decode jdk_43_method_13_code 15 = .ok (.aload_n 0, 1) := by decide +kernel
theorem d10_16 : decode jdk_43_method_13_code 16 = .ok (.iload_n 2, 1) := by decide +kernel
theorem d10_17 : decode jdk_43_method_13_code 17 = .ok (.baload, 1) := by decide +kernel
theorem d10_18 : decode jdk_43_method_13_code 18 = .ok (.aload_n 1, 1) := by decide +kernel
theorem d10_19 : decode jdk_43_method_13_code 19 = .ok (.iload_n 2, 1) := by decide +kernel
theorem d10_20 : decode jdk_43_method_13_code 20 = .ok (.baload, 1) := by decide +kernel
theorem d10_21 : decode jdk_43_method_13_code 21 = .ok (.if_icmp .eq 5, 3) := by decide +kernel
theorem d10_26 : decode jdk_43_method_13_code 26 = .ok (.iinc 2 1, 3) := by decide +kernel
theorem d10_29 : decode jdk_43_method_13_code 29 = .ok (.goto (-20), 3) := by decide +kernel
theorem d10_32 : decode jdk_43_method_13_code 32 = .ok (.iconst 1, 1) := by decide +kernel
theorem d10_33 : decode jdk_43_method_13_code 33 = .ok (.ireturn, 1) := by decide +kernel
theorem ef_rmLEH5 (m : MethodId) (o0 : Addr) (o1 : Addr)  : entryFrame m #[(.ref o0), (.ref o1)] 3 = mkF m 0 #[.val (.ref o0), .val (.ref o1), .unset] [] := by first |  (simp [entryFrame, mkF, argsToLocals, Value.category]; done) | rfl
def Q_rmLEH5 (Z : State) (o0 : Addr) (o1 : Addr) (k0 : ClassId) (k1 : ClassId) (h0 : Heap) (n0 : Nat) (v : Option Value) (h : Heap) (L : List Loc) : Prop := v = some (.int 1) ∧ Fr n0 L ∧ h = h0
set_option maxRecDepth 65536 in
set_option maxHeartbeats 40000000 in
theorem rmLEH5 (l : Launch) (Z : State) (a0 : Array Value) (hw : ∀ d ∈ tables_1, d.before a0 Z = true) (ws : List Jvm.Cond) (o0 : Addr) (o1 : Addr) (k0 : ClassId) (k1 : ClassId) (h0 : Heap) (n0 : Nat) (Z0 : n0 ≤ h0.size) (V_o0 : Arv Z h0 o0 k0 .byte (5 : Int32) [(.int 45), (.int 45), (.int 117), (.int 114), (.int 108)] (.int 0)) (V_o1 : Arv Z h0 o1 k1 .byte (5 : Int32) [(.int 45), (.int 45), (.int 117), (.int 114), (.int 108)] (.int 0)) :
    MetFree l (⟨"java/lang/StringLatin1", "equals", "([B[B)Z"⟩ : MethodName) (head1 (Jvm.Cond.code (⟨"java/lang/StringLatin1", "equals", "([B[B)Z"⟩ : MethodName) jdk_43_method_13_code 3 (some .boolean) :: ws) ({ frames := 0, cells := 0, slots := 0, locals := 0 } : Room)) (fun a U => a = #[(.ref o0), (.ref o1)] ∧ Z.Warmed39 U.vm ∧ U.heap = h0) (fun _ _ _ _ _ => True) (fun _ U o U' => ∃ v L, o = .returned v ∧ Q_rmLEH5 Z o0 o1 k0 k1 h0 n0 v U'.heap L ∧ FrameEnd U o U' L ({ frames := 0, cells := 0, slots := 0, locals := 0 } : Room).cells ({ frames := 0, cells := 0, slots := 0, locals := 0 } : Room).slots) := by
  refine MetFree.of_bodySF (plainFor_of_name pn_java_lang_StringLatin1) hisR ?_
  intro p e s m args below meth c s₁ Bd hml0 hP hK
  obtain ⟨rfl, hZ, hh⟩ := hP
  have hx := Bd.exec
  have hby := Bd.bytes
  have hml : c.maxLocals = 3 := hml0
  have hown : s.vm.findClass "java/lang/StringLatin1" = some m.cls := findClass_of_methodNamed Bd.named
  have hnm := (name_of_methodNamed Bd.named Bd.method).1
  have hlk := Bd.notSynchronized
  have X0 : Stand p l e ({ frames := 0, cells := 0, slots := 0, locals := 0 } : Room) s m #[(.ref o0), (.ref o1)] below meth c s₁ [] 0 0 := Stand.of_body Bd
  have e0 : s₁.heap = h0 := by rw [← hh, Bd.state]; rfl
  have N0 := Fr.nil n0
  show own_G p.tables e below s (Q_rmLEH5 Z o0 o1 k0 k1 h0 n0) ({ frames := 0, cells := 0, slots := 0, locals := 0 } : Room).cells ({ frames := 0, cells := 0, slots := 0, locals := 0 } : Room).slots _
  refine own_thr (a := s₁.setTop (mkF m 0 #[.val (.ref o0), .val (.ref o1), .unset] [])) (fun t kt => castTop (ef_rmLEH5 m o0 o1) kt) ?_
  refine own_thr (a := s₁.setTop (mkF m 1 #[.val (.ref o0), .val (.ref o1), .unset] [(.ref o0)])) (fun t kt => ?_) ?_
  · refine XS.aloadN X0.here hx rfl (hb hby d10_0) rfl rfl ?_
    exact kt
  obtain ⟨cl1, Ar1, -, S1, M1, -, -⟩ := id V_o0
  refine own_thr (a := s₁.setTop (mkF m 3 #[.val (.ref o0), .val (.ref o1), .unset] [(.ref o1), (.int 5)])) (fun t kt => ?_) ?_
  · refine X0.arraylength hx (by rw [e0]; exact Ar1.1) (State.isArrayOf_alike hZ.alike Ar1.2.1) (g := (mkF m 1 #[.val (.ref o0), .val (.ref o1), .unset] [(.ref o0)])) rfl rfl (hb hby d10_1) _ ?_
    rw [len_of S1 M1]
    refine XS.aloadN X0.here hx rfl (hb hby d10_2) rfl rfl ?_
    exact kt
  obtain ⟨cl2, Ar2, -, S2, M2, -, -⟩ := id V_o1
  refine own_thr (a := s₁.setTop (mkF m 11 #[.val (.ref o0), .val (.ref o1), .val (.int 0)] [(.ref o0), (.int 0)])) (fun t kt => ?_) ?_
  · refine X0.arraylength hx (by rw [e0]; exact Ar2.1) (State.isArrayOf_alike hZ.alike Ar2.2.1) (g := (mkF m 3 #[.val (.ref o0), .val (.ref o1), .unset] [(.ref o1), (.int 5)])) rfl rfl (hb hby d10_3) _ ?_
    rw [len_of S2 M2]
    refine XS.icmpNo X0.here hx rfl (hb hby d10_4) rfl (teq rfl).2 ?_
    refine XS.iconst X0.here hx rfl (hb hby d10_7) ?_
    refine XS.istoreN X0.here hx rfl (hb hby d10_8) rfl (l' := #[.val (.ref o0), .val (.ref o1), .val (.int 0)]) rfl ?_
    refine XS.iloadN X0.here hx rfl (hb hby d10_9) rfl ?_
    refine XS.aloadN X0.here hx rfl (hb hby d10_10) rfl rfl ?_
    exact kt
  obtain ⟨cl3, Ar3, -, S3, M3, -, -⟩ := id V_o0
  refine own_thr (a := s₁.setTop (mkF m 17 #[.val (.ref o0), .val (.ref o1), .val (.int 0)] [(.int 0), (.ref o0)])) (fun t kt => ?_) ?_
  · refine X0.arraylength hx (by rw [e0]; exact Ar3.1) (State.isArrayOf_alike hZ.alike Ar3.2.1) (g := (mkF m 11 #[.val (.ref o0), .val (.ref o1), .val (.int 0)] [(.ref o0), (.int 0)])) rfl rfl (hb hby d10_11) _ ?_
    rw [len_of S3 M3]
    refine XS.icmpNo X0.here hx rfl (hb hby d10_12) rfl (tlt (by decide)).2.1 ?_
    refine XS.aloadN X0.here hx rfl (hb hby d10_15) rfl rfl ?_
    refine XS.iloadN X0.here hx rfl (hb hby d10_16) rfl ?_
    exact kt
  obtain ⟨cl4, Ar4, -, S4, M4, H4, -⟩ := id V_o0
  have hin4 : ¬ ((0 : Int32) < 0 ∨ cl4.slots.size ≤ ((0 : Int32)).toNatClampNeg) := inb_of S4 ⟨by decide, by decide⟩
  have hat4 : cl4.slots[((0 : Int32)).toNatClampNeg]? = some (.int 45) := Has.at H4 hin4 rfl
  refine own_thr (a := s₁.setTop (mkF m 20 #[.val (.ref o0), .val (.ref o1), .val (.int 0)] [(.int 0), (.ref o1), (.int 45)])) (fun t kt => ?_) ?_
  · refine X0.baloadBytes hx (j := (0 : Int32)) (v := (.int 45)) (by rw [e0]; exact Ar4.1) (State.isArrayOf_alike hZ.alike Ar4.2.1) Ar4.2.2 hin4 hat4 (g := (mkF m 17 #[.val (.ref o0), .val (.ref o1), .val (.int 0)] [(.int 0), (.ref o0)])) rfl rfl (hb hby d10_17) _ ?_
    refine XS.aloadN X0.here hx rfl (hb hby d10_18) rfl rfl ?_
    refine XS.iloadN X0.here hx rfl (hb hby d10_19) rfl ?_
    exact kt
  obtain ⟨cl5, Ar5, -, S5, M5, H5, -⟩ := id V_o1
  have hin5 : ¬ ((0 : Int32) < 0 ∨ cl5.slots.size ≤ ((0 : Int32)).toNatClampNeg) := inb_of S5 ⟨by decide, by decide⟩
  have hat5 : cl5.slots[((0 : Int32)).toNatClampNeg]? = some (.int 45) := Has.at H5 hin5 rfl
  refine own_thr (a := s₁.setTop (mkF m 11 #[.val (.ref o0), .val (.ref o1), .val (.int 1)] [(.ref o0), (.int 1)])) (fun t kt => ?_) ?_
  · refine X0.baloadBytes hx (j := (0 : Int32)) (v := (.int 45)) (by rw [e0]; exact Ar5.1) (State.isArrayOf_alike hZ.alike Ar5.2.1) Ar5.2.2 hin5 hat5 (g := (mkF m 20 #[.val (.ref o0), .val (.ref o1), .val (.int 0)] [(.int 0), (.ref o1), (.int 45)])) rfl rfl (hb hby d10_20) _ ?_
    refine XS.icmpYes X0.here hx rfl (pc0 := 21) (pc' := 26) rfl (hb hby d10_21) rfl (teq rfl).1 (by decide) (by decide) ?_
    refine XS.iinc X0.here hx rfl (hb hby d10_26) rfl (l' := #[.val (.ref o0), .val (.ref o1), .val (.int 1)]) rfl ?_
    refine XS.goto X0.here hx rfl (pc0 := 29) (pc' := 9) rfl (hb hby d10_29) (by decide) (by decide) ?_
    refine XS.iloadN X0.here hx rfl (hb hby d10_9) rfl ?_
    refine XS.aloadN X0.here hx rfl (hb hby d10_10) rfl rfl ?_
    exact kt
  obtain ⟨cl6, Ar6, -, S6, M6, -, -⟩ := id V_o0
  refine own_thr (a := s₁.setTop (mkF m 17 #[.val (.ref o0), .val (.ref o1), .val (.int 1)] [(.int 1), (.ref o0)])) (fun t kt => ?_) ?_
  · refine X0.arraylength hx (by rw [e0]; exact Ar6.1) (State.isArrayOf_alike hZ.alike Ar6.2.1) (g := (mkF m 11 #[.val (.ref o0), .val (.ref o1), .val (.int 1)] [(.ref o0), (.int 1)])) rfl rfl (hb hby d10_11) _ ?_
    rw [len_of S6 M6]
    refine XS.icmpNo X0.here hx rfl (hb hby d10_12) rfl (tlt (by decide)).2.1 ?_
    refine XS.aloadN X0.here hx rfl (hb hby d10_15) rfl rfl ?_
    refine XS.iloadN X0.here hx rfl (hb hby d10_16) rfl ?_
    exact kt
  obtain ⟨cl7, Ar7, -, S7, M7, H7, -⟩ := id V_o0
  have hin7 : ¬ ((1 : Int32) < 0 ∨ cl7.slots.size ≤ ((1 : Int32)).toNatClampNeg) := inb_of S7 ⟨by decide, by decide⟩
  have hat7 : cl7.slots[((1 : Int32)).toNatClampNeg]? = some (.int 45) := Has.at H7 hin7 rfl
  refine own_thr (a := s₁.setTop (mkF m 20 #[.val (.ref o0), .val (.ref o1), .val (.int 1)] [(.int 1), (.ref o1), (.int 45)])) (fun t kt => ?_) ?_
  · refine X0.baloadBytes hx (j := (1 : Int32)) (v := (.int 45)) (by rw [e0]; exact Ar7.1) (State.isArrayOf_alike hZ.alike Ar7.2.1) Ar7.2.2 hin7 hat7 (g := (mkF m 17 #[.val (.ref o0), .val (.ref o1), .val (.int 1)] [(.int 1), (.ref o0)])) rfl rfl (hb hby d10_17) _ ?_
    refine XS.aloadN X0.here hx rfl (hb hby d10_18) rfl rfl ?_
    refine XS.iloadN X0.here hx rfl (hb hby d10_19) rfl ?_
    exact kt
  obtain ⟨cl8, Ar8, -, S8, M8, H8, -⟩ := id V_o1
  have hin8 : ¬ ((1 : Int32) < 0 ∨ cl8.slots.size ≤ ((1 : Int32)).toNatClampNeg) := inb_of S8 ⟨by decide, by decide⟩
  have hat8 : cl8.slots[((1 : Int32)).toNatClampNeg]? = some (.int 45) := Has.at H8 hin8 rfl
  refine own_thr (a := s₁.setTop (mkF m 11 #[.val (.ref o0), .val (.ref o1), .val (.int 2)] [(.ref o0), (.int 2)])) (fun t kt => ?_) ?_
  · refine X0.baloadBytes hx (j := (1 : Int32)) (v := (.int 45)) (by rw [e0]; exact Ar8.1) (State.isArrayOf_alike hZ.alike Ar8.2.1) Ar8.2.2 hin8 hat8 (g := (mkF m 20 #[.val (.ref o0), .val (.ref o1), .val (.int 1)] [(.int 1), (.ref o1), (.int 45)])) rfl rfl (hb hby d10_20) _ ?_
    refine XS.icmpYes X0.here hx rfl (pc0 := 21) (pc' := 26) rfl (hb hby d10_21) rfl (teq rfl).1 (by decide) (by decide) ?_
    refine XS.iinc X0.here hx rfl (hb hby d10_26) rfl (l' := #[.val (.ref o0), .val (.ref o1), .val (.int 2)]) rfl ?_
    refine XS.goto X0.here hx rfl (pc0 := 29) (pc' := 9) rfl (hb hby d10_29) (by decide) (by decide) ?_
    refine XS.iloadN X0.here hx rfl (hb hby d10_9) rfl ?_
    refine XS.aloadN X0.here hx rfl (hb hby d10_10) rfl rfl ?_
    exact kt
  obtain ⟨cl9, Ar9, -, S9, M9, -, -⟩ := id V_o0
  refine own_thr (a := s₁.setTop (mkF m 17 #[.val (.ref o0), .val (.ref o1), .val (.int 2)] [(.int 2), (.ref o0)])) (fun t kt => ?_) ?_
  · refine X0.arraylength hx (by rw [e0]; exact Ar9.1) (State.isArrayOf_alike hZ.alike Ar9.2.1) (g := (mkF m 11 #[.val (.ref o0), .val (.ref o1), .val (.int 2)] [(.ref o0), (.int 2)])) rfl rfl (hb hby d10_11) _ ?_
    rw [len_of S9 M9]
    refine XS.icmpNo X0.here hx rfl (hb hby d10_12) rfl (tlt (by decide)).2.1 ?_
    refine XS.aloadN X0.here hx rfl (hb hby d10_15) rfl rfl ?_
    refine XS.iloadN X0.here hx rfl (hb hby d10_16) rfl ?_
    exact kt
  obtain ⟨cl10, Ar10, -, S10, M10, H10, -⟩ := id V_o0
  have hin10 : ¬ ((2 : Int32) < 0 ∨ cl10.slots.size ≤ ((2 : Int32)).toNatClampNeg) := inb_of S10 ⟨by decide, by decide⟩
  have hat10 : cl10.slots[((2 : Int32)).toNatClampNeg]? = some (.int 117) := Has.at H10 hin10 rfl
  refine own_thr (a := s₁.setTop (mkF m 20 #[.val (.ref o0), .val (.ref o1), .val (.int 2)] [(.int 2), (.ref o1), (.int 117)])) (fun t kt => ?_) ?_
  · refine X0.baloadBytes hx (j := (2 : Int32)) (v := (.int 117)) (by rw [e0]; exact Ar10.1) (State.isArrayOf_alike hZ.alike Ar10.2.1) Ar10.2.2 hin10 hat10 (g := (mkF m 17 #[.val (.ref o0), .val (.ref o1), .val (.int 2)] [(.int 2), (.ref o0)])) rfl rfl (hb hby d10_17) _ ?_
    refine XS.aloadN X0.here hx rfl (hb hby d10_18) rfl rfl ?_
    refine XS.iloadN X0.here hx rfl (hb hby d10_19) rfl ?_
    exact kt
  obtain ⟨cl11, Ar11, -, S11, M11, H11, -⟩ := id V_o1
  have hin11 : ¬ ((2 : Int32) < 0 ∨ cl11.slots.size ≤ ((2 : Int32)).toNatClampNeg) := inb_of S11 ⟨by decide, by decide⟩
  have hat11 : cl11.slots[((2 : Int32)).toNatClampNeg]? = some (.int 117) := Has.at H11 hin11 rfl
  refine own_thr (a := s₁.setTop (mkF m 11 #[.val (.ref o0), .val (.ref o1), .val (.int 3)] [(.ref o0), (.int 3)])) (fun t kt => ?_) ?_
  · refine X0.baloadBytes hx (j := (2 : Int32)) (v := (.int 117)) (by rw [e0]; exact Ar11.1) (State.isArrayOf_alike hZ.alike Ar11.2.1) Ar11.2.2 hin11 hat11 (g := (mkF m 20 #[.val (.ref o0), .val (.ref o1), .val (.int 2)] [(.int 2), (.ref o1), (.int 117)])) rfl rfl (hb hby d10_20) _ ?_
    refine XS.icmpYes X0.here hx rfl (pc0 := 21) (pc' := 26) rfl (hb hby d10_21) rfl (teq rfl).1 (by decide) (by decide) ?_
    refine XS.iinc X0.here hx rfl (hb hby d10_26) rfl (l' := #[.val (.ref o0), .val (.ref o1), .val (.int 3)]) rfl ?_
    refine XS.goto X0.here hx rfl (pc0 := 29) (pc' := 9) rfl (hb hby d10_29) (by decide) (by decide) ?_
    refine XS.iloadN X0.here hx rfl (hb hby d10_9) rfl ?_
    refine XS.aloadN X0.here hx rfl (hb hby d10_10) rfl rfl ?_
    exact kt
  obtain ⟨cl12, Ar12, -, S12, M12, -, -⟩ := id V_o0
  refine own_thr (a := s₁.setTop (mkF m 17 #[.val (.ref o0), .val (.ref o1), .val (.int 3)] [(.int 3), (.ref o0)])) (fun t kt => ?_) ?_
  · refine X0.arraylength hx (by rw [e0]; exact Ar12.1) (State.isArrayOf_alike hZ.alike Ar12.2.1) (g := (mkF m 11 #[.val (.ref o0), .val (.ref o1), .val (.int 3)] [(.ref o0), (.int 3)])) rfl rfl (hb hby d10_11) _ ?_
    rw [len_of S12 M12]
    refine XS.icmpNo X0.here hx rfl (hb hby d10_12) rfl (tlt (by decide)).2.1 ?_
    refine XS.aloadN X0.here hx rfl (hb hby d10_15) rfl rfl ?_
    refine XS.iloadN X0.here hx rfl (hb hby d10_16) rfl ?_
    exact kt
  obtain ⟨cl13, Ar13, -, S13, M13, H13, -⟩ := id V_o0
  have hin13 : ¬ ((3 : Int32) < 0 ∨ cl13.slots.size ≤ ((3 : Int32)).toNatClampNeg) := inb_of S13 ⟨by decide, by decide⟩
  have hat13 : cl13.slots[((3 : Int32)).toNatClampNeg]? = some (.int 114) := Has.at H13 hin13 rfl
  refine own_thr (a := s₁.setTop (mkF m 20 #[.val (.ref o0), .val (.ref o1), .val (.int 3)] [(.int 3), (.ref o1), (.int 114)])) (fun t kt => ?_) ?_
  · refine X0.baloadBytes hx (j := (3 : Int32)) (v := (.int 114)) (by rw [e0]; exact Ar13.1) (State.isArrayOf_alike hZ.alike Ar13.2.1) Ar13.2.2 hin13 hat13 (g := (mkF m 17 #[.val (.ref o0), .val (.ref o1), .val (.int 3)] [(.int 3), (.ref o0)])) rfl rfl (hb hby d10_17) _ ?_
    refine XS.aloadN X0.here hx rfl (hb hby d10_18) rfl rfl ?_
    refine XS.iloadN X0.here hx rfl (hb hby d10_19) rfl ?_
    exact kt
  obtain ⟨cl14, Ar14, -, S14, M14, H14, -⟩ := id V_o1
  have hin14 : ¬ ((3 : Int32) < 0 ∨ cl14.slots.size ≤ ((3 : Int32)).toNatClampNeg) := inb_of S14 ⟨by decide, by decide⟩
  have hat14 : cl14.slots[((3 : Int32)).toNatClampNeg]? = some (.int 114) := Has.at H14 hin14 rfl
  refine own_thr (a := s₁.setTop (mkF m 11 #[.val (.ref o0), .val (.ref o1), .val (.int 4)] [(.ref o0), (.int 4)])) (fun t kt => ?_) ?_
  · refine X0.baloadBytes hx (j := (3 : Int32)) (v := (.int 114)) (by rw [e0]; exact Ar14.1) (State.isArrayOf_alike hZ.alike Ar14.2.1) Ar14.2.2 hin14 hat14 (g := (mkF m 20 #[.val (.ref o0), .val (.ref o1), .val (.int 3)] [(.int 3), (.ref o1), (.int 114)])) rfl rfl (hb hby d10_20) _ ?_
    refine XS.icmpYes X0.here hx rfl (pc0 := 21) (pc' := 26) rfl (hb hby d10_21) rfl (teq rfl).1 (by decide) (by decide) ?_
    refine XS.iinc X0.here hx rfl (hb hby d10_26) rfl (l' := #[.val (.ref o0), .val (.ref o1), .val (.int 4)]) rfl ?_
    refine XS.goto X0.here hx rfl (pc0 := 29) (pc' := 9) rfl (hb hby d10_29) (by decide) (by decide) ?_
    refine XS.iloadN X0.here hx rfl (hb hby d10_9) rfl ?_
    refine XS.aloadN X0.here hx rfl (hb hby d10_10) rfl rfl ?_
    exact kt
  obtain ⟨cl15, Ar15, -, S15, M15, -, -⟩ := id V_o0
  refine own_thr (a := s₁.setTop (mkF m 17 #[.val (.ref o0), .val (.ref o1), .val (.int 4)] [(.int 4), (.ref o0)])) (fun t kt => ?_) ?_
  · refine X0.arraylength hx (by rw [e0]; exact Ar15.1) (State.isArrayOf_alike hZ.alike Ar15.2.1) (g := (mkF m 11 #[.val (.ref o0), .val (.ref o1), .val (.int 4)] [(.ref o0), (.int 4)])) rfl rfl (hb hby d10_11) _ ?_
    rw [len_of S15 M15]
    refine XS.icmpNo X0.here hx rfl (hb hby d10_12) rfl (tlt (by decide)).2.1 ?_
    refine XS.aloadN X0.here hx rfl (hb hby d10_15) rfl rfl ?_
    refine XS.iloadN X0.here hx rfl (hb hby d10_16) rfl ?_
    exact kt
  obtain ⟨cl16, Ar16, -, S16, M16, H16, -⟩ := id V_o0
  have hin16 : ¬ ((4 : Int32) < 0 ∨ cl16.slots.size ≤ ((4 : Int32)).toNatClampNeg) := inb_of S16 ⟨by decide, by decide⟩
  have hat16 : cl16.slots[((4 : Int32)).toNatClampNeg]? = some (.int 108) := Has.at H16 hin16 rfl
  refine own_thr (a := s₁.setTop (mkF m 20 #[.val (.ref o0), .val (.ref o1), .val (.int 4)] [(.int 4), (.ref o1), (.int 108)])) (fun t kt => ?_) ?_
  · refine X0.baloadBytes hx (j := (4 : Int32)) (v := (.int 108)) (by rw [e0]; exact Ar16.1) (State.isArrayOf_alike hZ.alike Ar16.2.1) Ar16.2.2 hin16 hat16 (g := (mkF m 17 #[.val (.ref o0), .val (.ref o1), .val (.int 4)] [(.int 4), (.ref o0)])) rfl rfl (hb hby d10_17) _ ?_
    refine XS.aloadN X0.here hx rfl (hb hby d10_18) rfl rfl ?_
    refine XS.iloadN X0.here hx rfl (hb hby d10_19) rfl ?_
    exact kt
  obtain ⟨cl17, Ar17, -, S17, M17, H17, -⟩ := id V_o1
  have hin17 : ¬ ((4 : Int32) < 0 ∨ cl17.slots.size ≤ ((4 : Int32)).toNatClampNeg) := inb_of S17 ⟨by decide, by decide⟩
  have hat17 : cl17.slots[((4 : Int32)).toNatClampNeg]? = some (.int 108) := Has.at H17 hin17 rfl
  refine own_thr (a := s₁.setTop (mkF m 11 #[.val (.ref o0), .val (.ref o1), .val (.int 5)] [(.ref o0), (.int 5)])) (fun t kt => ?_) ?_
  · refine X0.baloadBytes hx (j := (4 : Int32)) (v := (.int 108)) (by rw [e0]; exact Ar17.1) (State.isArrayOf_alike hZ.alike Ar17.2.1) Ar17.2.2 hin17 hat17 (g := (mkF m 20 #[.val (.ref o0), .val (.ref o1), .val (.int 4)] [(.int 4), (.ref o1), (.int 108)])) rfl rfl (hb hby d10_20) _ ?_
    refine XS.icmpYes X0.here hx rfl (pc0 := 21) (pc' := 26) rfl (hb hby d10_21) rfl (teq rfl).1 (by decide) (by decide) ?_
    refine XS.iinc X0.here hx rfl (hb hby d10_26) rfl (l' := #[.val (.ref o0), .val (.ref o1), .val (.int 5)]) rfl ?_
    refine XS.goto X0.here hx rfl (pc0 := 29) (pc' := 9) rfl (hb hby d10_29) (by decide) (by decide) ?_
    refine XS.iloadN X0.here hx rfl (hb hby d10_9) rfl ?_
    refine XS.aloadN X0.here hx rfl (hb hby d10_10) rfl rfl ?_
    exact kt
  obtain ⟨cl18, Ar18, -, S18, M18, -, -⟩ := id V_o0
  refine own_thr (a := s₁.setTop (mkF m 33 #[.val (.ref o0), .val (.ref o1), .val (.int 5)] [(.int 1)])) (fun t kt => ?_) ?_
  · refine X0.arraylength hx (by rw [e0]; exact Ar18.1) (State.isArrayOf_alike hZ.alike Ar18.2.1) (g := (mkF m 11 #[.val (.ref o0), .val (.ref o1), .val (.int 5)] [(.ref o0), (.int 5)])) rfl rfl (hb hby d10_11) _ ?_
    rw [len_of S18 M18]
    refine XS.icmpYes X0.here hx rfl (pc0 := 12) (pc' := 32) rfl (hb hby d10_12) rfl (flt (by decide)).2.1 (by decide) (by decide) ?_
    refine XS.iconst X0.here hx rfl (hb hby d10_32) ?_
    exact kt
  exact own_end X0 hlk (v := some (.int 1)) (fun h => by rw [Bd.returns] at h; cases h) (fun fs hr => retN X0 hx (t := .boolean) Bd.returns (by simp) (hb hby d10_33) hr) (by rw [e0]; exact ⟨rfl, N0, rfl⟩) (by decide : 0 ≤ _) (by decide : 0 ≤ _)
theorem d9_5 : decode jdk_42_method_66_code 5 = .ok (.iconst 1, 1) := by decide +kernel
theorem d9_6 : decode jdk_42_method_66_code 6 = .ok (.ireturn, 1) := by decide +kernel
theorem d9_50 : decode jdk_42_method_66_code 50 = .ok (.iconst 1, 1) := by decide +kernel
theorem d9_51 : decode jdk_42_method_66_code 51 = .ok (.goto 4, 3) := by decide +kernel
theorem ef_rmEQH5 (m : MethodId) (o0 : Addr) (o1 : Addr)  : entryFrame m #[(.ref o0), (.ref o1)] 3 = mkF m 0 #[.val (.ref o0), .val (.ref o1), .unset] [] := by first |  (simp [entryFrame, mkF, argsToLocals, Value.category]; done) | rfl
def Q_rmEQH5 (Z : State) (o0 : Addr) (o1 : Addr) (v0 : Addr) (v1 : Addr) (k0 : ClassId) (k1 : ClassId) (cs : Int32) (h0 : Heap) (n0 : Nat) (v : Option Value) (h : Heap) (L : List Loc) : Prop := v = some (.int 1) ∧ Fr n0 L ∧ h = h0
set_option maxRecDepth 65536 in
set_option maxHeartbeats 40000000 in
theorem rmEQH5 (l : Launch) (Z : State) (a0 : Array Value) (hw : ∀ d ∈ tables_1, d.before a0 Z = true) (ws : List Jvm.Cond) (o0 : Addr) (o1 : Addr) (v0 : Addr) (v1 : Addr) (k0 : ClassId) (k1 : ClassId) (cs : Int32) (h0 : Heap) (n0 : Nat) (Z0 : n0 ≤ h0.size) (E_o0 : Exa Z h0 o0 "java/lang/String") (F_value_o0 : Fld Z h0 o0 "java/lang/String" "value" "[B" (.ref v0)) (F_coder_o0 : Fld Z h0 o0 "java/lang/String" "coder" "B" (.int 0)) (E_o1 : Exa Z h0 o1 "java/lang/String") (F_value_o1 : Fld Z h0 o1 "java/lang/String" "value" "[B" (.ref v1)) (F_coder_o1 : Fld Z h0 o1 "java/lang/String" "coder" "B" (.int 0)) (V_v0 : Arv Z h0 v0 k0 .byte (5 : Int32) [(.int 45), (.int 45), (.int 117), (.int 114), (.int 108)] (.int 0)) (V_v1 : Arv Z h0 v1 k1 .byte (5 : Int32) [(.int 45), (.int 45), (.int 117), (.int 114), (.int 108)] (.int 0)) (S_COMPACT_STRINGS : Sta Z h0 "java/lang/String" "COMPACT_STRINGS" "Z" (.int cs)) (hcs : ¬ cs = (0 : Int32)) :
    MetFree l (⟨"java/lang/String", "equals", "(Ljava/lang/Object;)Z"⟩ : MethodName) (head1 (Jvm.Cond.code (⟨"java/lang/String", "equals", "(Ljava/lang/Object;)Z"⟩ : MethodName) jdk_42_method_66_code 3 (some .boolean) :: ws) ({ frames := 1, cells := 0, slots := 0, locals := 14 } : Room)) (fun a U => a = #[(.ref o0), (.ref o1)] ∧ Z.Warmed39 U.vm ∧ U.heap = h0) (fun _ _ _ _ _ => True) (fun _ U o U' => ∃ v L, o = .returned v ∧ Q_rmEQH5 Z o0 o1 v0 v1 k0 k1 cs h0 n0 v U'.heap L ∧ FrameEnd U o U' L ({ frames := 1, cells := 0, slots := 0, locals := 14 } : Room).cells ({ frames := 1, cells := 0, slots := 0, locals := 14 } : Room).slots) := by
  refine MetFree.of_bodySF (plainFor_of_name pn_java_lang_String) hisR ?_
  intro p e s m args below meth c s₁ Bd hml0 hP hK
  obtain ⟨rfl, hZ, hh⟩ := hP
  have hx := Bd.exec
  have hby := Bd.bytes
  have hml : c.maxLocals = 3 := hml0
  have hown : s.vm.findClass "java/lang/String" = some m.cls := findClass_of_methodNamed Bd.named
  have hnm := (name_of_methodNamed Bd.named Bd.method).1
  have hlk := Bd.notSynchronized
  have X0 : Stand p l e ({ frames := 1, cells := 0, slots := 0, locals := 14 } : Room) s m #[(.ref o0), (.ref o1)] below meth c s₁ [] 0 0 := Stand.of_body Bd
  have e0 : s₁.heap = h0 := by rw [← hh, Bd.state]; rfl
  have N0 := Fr.nil n0
  show own_G p.tables e below s (Q_rmEQH5 Z o0 o1 v0 v1 k0 k1 cs h0 n0) ({ frames := 1, cells := 0, slots := 0, locals := 14 } : Room).cells ({ frames := 1, cells := 0, slots := 0, locals := 14 } : Room).slots _
  refine own_thr (a := s₁.setTop (mkF m 0 #[.val (.ref o0), .val (.ref o1), .unset] [])) (fun t kt => castTop (ef_rmEQH5 m o0 o1) kt) ?_
  refine own_thr (a := s₁.setTop (mkF m 2 #[.val (.ref o0), .val (.ref o1), .unset] [(.ref o1), (.ref o0)])) (fun t kt => ?_) ?_
  · refine XS.aloadN X0.here hx rfl (hb hby d9_0) rfl rfl ?_
    refine XS.aloadN X0.here hx rfl (hb hby d9_1) rfl rfl ?_
    exact kt
  by_cases hc1 : ((.ref o0) : Value) = (.ref o1)
  · refine own_thr (a := s₁.setTop (mkF m 6 #[.val (.ref o0), .val (.ref o1), .unset] [(.int 1)])) (fun t kt => ?_) ?_
    · refine Jvm.RoadKit.acmp (g := (mkF m 2 #[.val (.ref o0), .val (.ref o1), .unset] [(.ref o1), (.ref o0)])) X0 hx rfl rfl rfl (pc0 := 2) (pc' := 5) (same := true) rfl (hb hby d9_2) rfl (decide_eq_true hc1) (by decide) (by decide) ?_
      refine XS.iconst X0.here hx rfl (hb hby d9_5) ?_
      exact kt
    exact own_end X0 hlk (v := some (.int 1)) (fun h => by rw [Bd.returns] at h; cases h) (fun fs hr => retN X0 hx (t := .boolean) Bd.returns (by simp) (hb hby d9_6) hr) (by rw [e0]; exact ⟨rfl, N0, rfl⟩) (by decide : 0 ≤ _) (by decide : 0 ≤ _)
  · refine own_thr (a := s₁.setTop (mkF m 8 #[.val (.ref o0), .val (.ref o1), .unset] [(.ref o1)])) (fun t kt => ?_) ?_
    · refine Jvm.RoadKit.acmp (g := (mkF m 2 #[.val (.ref o0), .val (.ref o1), .unset] [(.ref o1), (.ref o0)])) X0 hx rfl rfl rfl (pc0 := 2) (pc' := 7) (same := false) rfl (hb hby d9_2) rfl (decide_eq_false hc1) (by decide) (by decide) ?_
      refine XS.aloadN X0.here hx rfl (hb hby d9_7) rfl rfl ?_
      exact kt
    obtain ⟨T2, X2, e2, st2⟩ := instY X0 hx hZ hown (hw _ (own_i 58 rfl)) e0 (Ins.self E_o1) (g := (mkF m 8 #[.val (.ref o0), .val (.ref o1), .unset] [(.ref o1)])) rfl rfl (hb hby d9_8)
    refine own_thr (a := T2.setTop (mkF m 11 #[.val (.ref o0), .val (.ref o1), .unset] [(.int 1)])) (fun t kt => st2 t kt) ?_
    refine own_thr (a := T2.setTop (mkF m 15 #[.val (.ref o0), .val (.ref o1), .unset] [(.ref o1)])) (fun t kt => ?_) ?_
    · refine XS.ifNo X2.here hx rfl (hb hby d9_11) rfl ((if0 _ _).trans (feq (by decide)).1) ?_
      refine XS.aloadN X2.here hx rfl (hb hby d9_14) rfl rfl ?_
      exact kt
    obtain ⟨T3, X3, e3, st3⟩ := castY X2 hx hZ hown (hw _ (own_i 58 rfl)) e2 (Ins.self E_o1) (g := (mkF m 15 #[.val (.ref o0), .val (.ref o1), .unset] [(.ref o1)])) rfl rfl (hb hby d9_15)
    refine own_thr (a := T3.setTop (mkF m 18 #[.val (.ref o0), .val (.ref o1), .unset] [(.ref o1)])) (fun t kt => st3 t kt) ?_
    refine own_thr (a := T3.setTop (mkF m 19 #[.val (.ref o0), .val (.ref o1), .val (.ref o1)] [])) (fun t kt => ?_) ?_
    · refine XS.astoreN X3.here hx rfl (hb hby d9_18) rfl rfl (l' := #[.val (.ref o0), .val (.ref o1), .val (.ref o1)]) rfl ?_
      exact kt
    obtain ⟨T4, X4, e4, st4⟩ := getS2 X3 hx hZ hown (host := "") (Or.inl (hw _ (own_i 14 rfl))) Via.refl e3 S_COMPACT_STRINGS (g := (mkF m 19 #[.val (.ref o0), .val (.ref o1), .val (.ref o1)] [])) rfl (hb hby d9_19)
    refine own_thr (a := T4.setTop (mkF m 22 #[.val (.ref o0), .val (.ref o1), .val (.ref o1)] [(.int cs)])) (fun t kt => st4 t kt) ?_
    refine own_thr (a := T4.setTop (mkF m 26 #[.val (.ref o0), .val (.ref o1), .val (.ref o1)] [(.ref o0)])) (fun t kt => ?_) ?_
    · refine XS.ifNo X4.here hx rfl (hb hby d9_22) rfl ((if0 _ _).trans (feq hcs).1) ?_
      refine XS.aloadN X4.here hx rfl (hb hby d9_25) rfl rfl ?_
      exact kt
    obtain ⟨T5, X5, e5, st5⟩ := getF X4 hx hZ hown (host := "") (Or.inl (hw _ (own_i 26 rfl))) Via.refl e4 F_coder_o0 (g := (mkF m 26 #[.val (.ref o0), .val (.ref o1), .val (.ref o1)] [(.ref o0)])) rfl rfl (hb hby d9_26)
    refine own_thr (a := T5.setTop (mkF m 29 #[.val (.ref o0), .val (.ref o1), .val (.ref o1)] [(.int 0)])) (fun t kt => st5 t kt) ?_
    refine own_thr (a := T5.setTop (mkF m 30 #[.val (.ref o0), .val (.ref o1), .val (.ref o1)] [(.ref o1), (.int 0)])) (fun t kt => ?_) ?_
    · refine XS.aloadN X5.here hx rfl (hb hby d9_29) rfl rfl ?_
      exact kt
    obtain ⟨T6, X6, e6, st6⟩ := getF X5 hx hZ hown (host := "") (Or.inl (hw _ (own_i 26 rfl))) Via.refl e5 F_coder_o1 (g := (mkF m 30 #[.val (.ref o0), .val (.ref o1), .val (.ref o1)] [(.ref o1), (.int 0)])) rfl rfl (hb hby d9_30)
    refine own_thr (a := T6.setTop (mkF m 33 #[.val (.ref o0), .val (.ref o1), .val (.ref o1)] [(.int 0), (.int 0)])) (fun t kt => st6 t kt) ?_
    refine own_thr (a := T6.setTop (mkF m 37 #[.val (.ref o0), .val (.ref o1), .val (.ref o1)] [(.ref o0)])) (fun t kt => ?_) ?_
    · refine XS.icmpNo X6.here hx rfl (hb hby d9_33) rfl (teq rfl).2 ?_
      refine XS.aloadN X6.here hx rfl (hb hby d9_36) rfl rfl ?_
      exact kt
    obtain ⟨T7, X7, e7, st7⟩ := getF X6 hx hZ hown (host := "") (Or.inl (hw _ (own_i 28 rfl))) Via.refl e6 F_value_o0 (g := (mkF m 37 #[.val (.ref o0), .val (.ref o1), .val (.ref o1)] [(.ref o0)])) rfl rfl (hb hby d9_37)
    refine own_thr (a := T7.setTop (mkF m 40 #[.val (.ref o0), .val (.ref o1), .val (.ref o1)] [(.ref v0)])) (fun t kt => st7 t kt) ?_
    refine own_thr (a := T7.setTop (mkF m 41 #[.val (.ref o0), .val (.ref o1), .val (.ref o1)] [(.ref o1), (.ref v0)])) (fun t kt => ?_) ?_
    · refine XS.aloadN X7.here hx rfl (hb hby d9_40) rfl rfl ?_
      exact kt
    obtain ⟨T8, X8, e8, st8⟩ := getF X7 hx hZ hown (host := "") (Or.inl (hw _ (own_i 28 rfl))) Via.refl e7 F_value_o1 (g := (mkF m 41 #[.val (.ref o0), .val (.ref o1), .val (.ref o1)] [(.ref o1), (.ref v0)])) rfl rfl (hb hby d9_41)
    refine own_thr (a := T8.setTop (mkF m 44 #[.val (.ref o0), .val (.ref o1), .val (.ref o1)] [(.ref v1), (.ref v0)])) (fun t kt => st8 t kt) ?_
    obtain ⟨_, _, ⟨T9, L9, k9, n9⟩, -, X9, ⟨Lc9, hQ9, l9, y9, z9⟩, st9⟩ := Jvm.LawKit.callS X8 hx (y := (⟨"java/lang/StringLatin1", "equals", "([B[B)Z"⟩ : MethodName)) hown (mvT hZ (hw _ (own_i 59 rfl))) (mvT hZ (hw _ (own_i 60 rfl))) (mvT hZ (hw _ (own_i 61 rfl))) (mvT hZ (hw _ (own_i 62 rfl))) (by decide) (backOf (W := 0) (rmLEH5 l Z a0 hw [] v0 v1 k0 k1 h0 n0 Z0 V_v0 V_v1) hZ (hw _ (own_i 62 rfl)) (hw _ (own_i 61 rfl)) (by decide) (by decide)) (g := (mkF m 44 #[.val (.ref o0), .val (.ref o1), .val (.ref o1)] [(.ref v1), (.ref v0)])) rfl (by rw [hml]; rfl) (argsL := [(.ref v0), (.ref v1)]) (rest := []) (lenOf pd__28_5bB_5bB_29Z rfl) rfl (by show 2 * 0 + _ ≤ _; exact Nat.le_of_eq rfl) (hb hby d9_44) (fun _ _ => ⟨rfl, e8, (by decide : 0 + 0 ≤ _), (by decide : 0 + 0 ≤ _)⟩)
    dsimp only [Pt.U, Pt.locs, Pt.cells, Pt.slots] at X9 l9 y9 z9 st9 hQ9
    obtain ⟨rfl, N9q, e9⟩ := hQ9
    obtain ⟨lc9, X9, N9⟩ := own_pack X9 l9 y9 z9 N0 N9q (C := 0) (S' := 0) rfl rfl
    refine own_thr (a := T9.setTop (mkF m 47 #[.val (.ref o0), .val (.ref o1), .val (.ref o1)] [(.int 1)])) (fun t kt => st9 t kt) ?_
    refine own_thr (a := T9.setTop (mkF m 55 #[.val (.ref o0), .val (.ref o1), .val (.ref o1)] [(.int 1)])) (fun t kt => ?_) ?_
    · refine XS.ifNo X9.here hx rfl (hb hby d9_47) rfl ((if0 _ _).trans (feq (by decide)).1) ?_
      refine XS.iconst X9.here hx rfl (hb hby d9_50) ?_
      refine XS.goto X9.here hx rfl (pc0 := 51) (pc' := 55) rfl (hb hby d9_51) (by decide) (by decide) ?_
      exact kt
    exact own_end X9 hlk (v := some (.int 1)) (fun h => by rw [Bd.returns] at h; cases h) (fun fs hr => retN X9 hx (t := .boolean) Bd.returns (by simp) (hb hby d9_55) hr) (by rw [e9]; exact ⟨rfl, N9, rfl⟩) (by decide : 0 ≤ _) (by decide : 0 ≤ _)
theorem d10_24 : decode jdk_43_method_13_code 24 = .ok (.iconst 0, 1) := by decide +kernel
theorem d10_25 : decode jdk_43_method_13_code 25 = .ok (.ireturn, 1) := by decide +kernel
theorem ef_rmLEM5 (m : MethodId) (o0 : Addr) (o1 : Addr)  : entryFrame m #[(.ref o0), (.ref o1)] 3 = mkF m 0 #[.val (.ref o0), .val (.ref o1), .unset] [] := by first |  (simp [entryFrame, mkF, argsToLocals, Value.category]; done) | rfl
def Q_rmLEM5 (Z : State) (o0 : Addr) (o1 : Addr) (x0 : Int32) (x1 : Int32) (x2 : Int32) (x3 : Int32) (x4 : Int32) (y0 : Int32) (y1 : Int32) (y2 : Int32) (y3 : Int32) (y4 : Int32) (k0 : ClassId) (k1 : ClassId) (h0 : Heap) (n0 : Nat) (v : Option Value) (h : Heap) (L : List Loc) : Prop := v = some (.int 0) ∧ Fr n0 L ∧ h = h0
set_option maxRecDepth 65536 in
set_option maxHeartbeats 40000000 in
theorem rmLEM5 (l : Launch) (Z : State) (a0 : Array Value) (hw : ∀ d ∈ tables_1, d.before a0 Z = true) (ws : List Jvm.Cond) (o0 : Addr) (o1 : Addr) (x0 : Int32) (x1 : Int32) (x2 : Int32) (x3 : Int32) (x4 : Int32) (y0 : Int32) (y1 : Int32) (y2 : Int32) (y3 : Int32) (y4 : Int32) (k0 : ClassId) (k1 : ClassId) (h0 : Heap) (n0 : Nat) (Z0 : n0 ≤ h0.size) (V_o0 : Arv Z h0 o0 k0 .byte (5 : Int32) [(.int x0), (.int x1), (.int x2), (.int x3), (.int x4)] (.int 0)) (V_o1 : Arv Z h0 o1 k1 .byte (5 : Int32) [(.int y0), (.int y1), (.int y2), (.int y3), (.int y4)] (.int 0)) (hm : ¬ (x0 = y0 ∧ x1 = y1 ∧ x2 = y2 ∧ x3 = y3 ∧ x4 = y4)) :
    MetFree l (⟨"java/lang/StringLatin1", "equals", "([B[B)Z"⟩ : MethodName) (head1 (Jvm.Cond.code (⟨"java/lang/StringLatin1", "equals", "([B[B)Z"⟩ : MethodName) jdk_43_method_13_code 3 (some .boolean) :: ws) ({ frames := 0, cells := 0, slots := 0, locals := 0 } : Room)) (fun a U => a = #[(.ref o0), (.ref o1)] ∧ Z.Warmed39 U.vm ∧ U.heap = h0) (fun _ _ _ _ _ => True) (fun _ U o U' => ∃ v L, o = .returned v ∧ Q_rmLEM5 Z o0 o1 x0 x1 x2 x3 x4 y0 y1 y2 y3 y4 k0 k1 h0 n0 v U'.heap L ∧ FrameEnd U o U' L ({ frames := 0, cells := 0, slots := 0, locals := 0 } : Room).cells ({ frames := 0, cells := 0, slots := 0, locals := 0 } : Room).slots) := by
  refine MetFree.of_bodySF (plainFor_of_name pn_java_lang_StringLatin1) hisR ?_
  intro p e s m args below meth c s₁ Bd hml0 hP hK
  obtain ⟨rfl, hZ, hh⟩ := hP
  have hx := Bd.exec
  have hby := Bd.bytes
  have hml : c.maxLocals = 3 := hml0
  have hown : s.vm.findClass "java/lang/StringLatin1" = some m.cls := findClass_of_methodNamed Bd.named
  have hnm := (name_of_methodNamed Bd.named Bd.method).1
  have hlk := Bd.notSynchronized
  have X0 : Stand p l e ({ frames := 0, cells := 0, slots := 0, locals := 0 } : Room) s m #[(.ref o0), (.ref o1)] below meth c s₁ [] 0 0 := Stand.of_body Bd
  have e0 : s₁.heap = h0 := by rw [← hh, Bd.state]; rfl
  have N0 := Fr.nil n0
  show own_G p.tables e below s (Q_rmLEM5 Z o0 o1 x0 x1 x2 x3 x4 y0 y1 y2 y3 y4 k0 k1 h0 n0) ({ frames := 0, cells := 0, slots := 0, locals := 0 } : Room).cells ({ frames := 0, cells := 0, slots := 0, locals := 0 } : Room).slots _
  refine own_thr (a := s₁.setTop (mkF m 0 #[.val (.ref o0), .val (.ref o1), .unset] [])) (fun t kt => castTop (ef_rmLEM5 m o0 o1) kt) ?_
  refine own_thr (a := s₁.setTop (mkF m 1 #[.val (.ref o0), .val (.ref o1), .unset] [(.ref o0)])) (fun t kt => ?_) ?_
  · refine XS.aloadN X0.here hx rfl (hb hby d10_0) rfl rfl ?_
    exact kt
  obtain ⟨cl1, Ar1, -, S1, M1, -, -⟩ := id V_o0
  refine own_thr (a := s₁.setTop (mkF m 3 #[.val (.ref o0), .val (.ref o1), .unset] [(.ref o1), (.int 5)])) (fun t kt => ?_) ?_
  · refine X0.arraylength hx (by rw [e0]; exact Ar1.1) (State.isArrayOf_alike hZ.alike Ar1.2.1) (g := (mkF m 1 #[.val (.ref o0), .val (.ref o1), .unset] [(.ref o0)])) rfl rfl (hb hby d10_1) _ ?_
    rw [len_of S1 M1]
    refine XS.aloadN X0.here hx rfl (hb hby d10_2) rfl rfl ?_
    exact kt
  obtain ⟨cl2, Ar2, -, S2, M2, -, -⟩ := id V_o1
  refine own_thr (a := s₁.setTop (mkF m 11 #[.val (.ref o0), .val (.ref o1), .val (.int 0)] [(.ref o0), (.int 0)])) (fun t kt => ?_) ?_
  · refine X0.arraylength hx (by rw [e0]; exact Ar2.1) (State.isArrayOf_alike hZ.alike Ar2.2.1) (g := (mkF m 3 #[.val (.ref o0), .val (.ref o1), .unset] [(.ref o1), (.int 5)])) rfl rfl (hb hby d10_3) _ ?_
    rw [len_of S2 M2]
    refine XS.icmpNo X0.here hx rfl (hb hby d10_4) rfl (teq rfl).2 ?_
    refine XS.iconst X0.here hx rfl (hb hby d10_7) ?_
    refine XS.istoreN X0.here hx rfl (hb hby d10_8) rfl (l' := #[.val (.ref o0), .val (.ref o1), .val (.int 0)]) rfl ?_
    refine XS.iloadN X0.here hx rfl (hb hby d10_9) rfl ?_
    refine XS.aloadN X0.here hx rfl (hb hby d10_10) rfl rfl ?_
    exact kt
  obtain ⟨cl3, Ar3, -, S3, M3, -, -⟩ := id V_o0
  refine own_thr (a := s₁.setTop (mkF m 17 #[.val (.ref o0), .val (.ref o1), .val (.int 0)] [(.int 0), (.ref o0)])) (fun t kt => ?_) ?_
  · refine X0.arraylength hx (by rw [e0]; exact Ar3.1) (State.isArrayOf_alike hZ.alike Ar3.2.1) (g := (mkF m 11 #[.val (.ref o0), .val (.ref o1), .val (.int 0)] [(.ref o0), (.int 0)])) rfl rfl (hb hby d10_11) _ ?_
    rw [len_of S3 M3]
    refine XS.icmpNo X0.here hx rfl (hb hby d10_12) rfl (tlt (by decide)).2.1 ?_
    refine XS.aloadN X0.here hx rfl (hb hby d10_15) rfl rfl ?_
    refine XS.iloadN X0.here hx rfl (hb hby d10_16) rfl ?_
    exact kt
  obtain ⟨cl4, Ar4, -, S4, M4, H4, -⟩ := id V_o0
  have hin4 : ¬ ((0 : Int32) < 0 ∨ cl4.slots.size ≤ ((0 : Int32)).toNatClampNeg) := inb_of S4 ⟨by decide, by decide⟩
  have hat4 : cl4.slots[((0 : Int32)).toNatClampNeg]? = some (.int x0) := Has.at H4 hin4 rfl
  refine own_thr (a := s₁.setTop (mkF m 20 #[.val (.ref o0), .val (.ref o1), .val (.int 0)] [(.int 0), (.ref o1), (.int x0)])) (fun t kt => ?_) ?_
  · refine X0.baloadBytes hx (j := (0 : Int32)) (v := (.int x0)) (by rw [e0]; exact Ar4.1) (State.isArrayOf_alike hZ.alike Ar4.2.1) Ar4.2.2 hin4 hat4 (g := (mkF m 17 #[.val (.ref o0), .val (.ref o1), .val (.int 0)] [(.int 0), (.ref o0)])) rfl rfl (hb hby d10_17) _ ?_
    refine XS.aloadN X0.here hx rfl (hb hby d10_18) rfl rfl ?_
    refine XS.iloadN X0.here hx rfl (hb hby d10_19) rfl ?_
    exact kt
  obtain ⟨cl5, Ar5, -, S5, M5, H5, -⟩ := id V_o1
  have hin5 : ¬ ((0 : Int32) < 0 ∨ cl5.slots.size ≤ ((0 : Int32)).toNatClampNeg) := inb_of S5 ⟨by decide, by decide⟩
  have hat5 : cl5.slots[((0 : Int32)).toNatClampNeg]? = some (.int y0) := Has.at H5 hin5 rfl
  refine own_thr (a := s₁.setTop (mkF m 21 #[.val (.ref o0), .val (.ref o1), .val (.int 0)] [(.int y0), (.int x0)])) (fun t kt => ?_) ?_
  · refine X0.baloadBytes hx (j := (0 : Int32)) (v := (.int y0)) (by rw [e0]; exact Ar5.1) (State.isArrayOf_alike hZ.alike Ar5.2.1) Ar5.2.2 hin5 hat5 (g := (mkF m 20 #[.val (.ref o0), .val (.ref o1), .val (.int 0)] [(.int 0), (.ref o1), (.int x0)])) rfl rfl (hb hby d10_20) _ ?_
    exact kt
  by_cases hc6 : x0 = y0
  · refine own_thr (a := s₁.setTop (mkF m 11 #[.val (.ref o0), .val (.ref o1), .val (.int 1)] [(.ref o0), (.int 1)])) (fun t kt => ?_) ?_
    · refine XS.icmpYes X0.here hx rfl (pc0 := 21) (pc' := 26) rfl (hb hby d10_21) rfl (teq hc6).1 (by decide) (by decide) ?_
      refine XS.iinc X0.here hx rfl (hb hby d10_26) rfl (l' := #[.val (.ref o0), .val (.ref o1), .val (.int 1)]) rfl ?_
      refine XS.goto X0.here hx rfl (pc0 := 29) (pc' := 9) rfl (hb hby d10_29) (by decide) (by decide) ?_
      refine XS.iloadN X0.here hx rfl (hb hby d10_9) rfl ?_
      refine XS.aloadN X0.here hx rfl (hb hby d10_10) rfl rfl ?_
      exact kt
    obtain ⟨cl7, Ar7, -, S7, M7, -, -⟩ := id V_o0
    refine own_thr (a := s₁.setTop (mkF m 17 #[.val (.ref o0), .val (.ref o1), .val (.int 1)] [(.int 1), (.ref o0)])) (fun t kt => ?_) ?_
    · refine X0.arraylength hx (by rw [e0]; exact Ar7.1) (State.isArrayOf_alike hZ.alike Ar7.2.1) (g := (mkF m 11 #[.val (.ref o0), .val (.ref o1), .val (.int 1)] [(.ref o0), (.int 1)])) rfl rfl (hb hby d10_11) _ ?_
      rw [len_of S7 M7]
      refine XS.icmpNo X0.here hx rfl (hb hby d10_12) rfl (tlt (by decide)).2.1 ?_
      refine XS.aloadN X0.here hx rfl (hb hby d10_15) rfl rfl ?_
      refine XS.iloadN X0.here hx rfl (hb hby d10_16) rfl ?_
      exact kt
    obtain ⟨cl8, Ar8, -, S8, M8, H8, -⟩ := id V_o0
    have hin8 : ¬ ((1 : Int32) < 0 ∨ cl8.slots.size ≤ ((1 : Int32)).toNatClampNeg) := inb_of S8 ⟨by decide, by decide⟩
    have hat8 : cl8.slots[((1 : Int32)).toNatClampNeg]? = some (.int x1) := Has.at H8 hin8 rfl
    refine own_thr (a := s₁.setTop (mkF m 20 #[.val (.ref o0), .val (.ref o1), .val (.int 1)] [(.int 1), (.ref o1), (.int x1)])) (fun t kt => ?_) ?_
    · refine X0.baloadBytes hx (j := (1 : Int32)) (v := (.int x1)) (by rw [e0]; exact Ar8.1) (State.isArrayOf_alike hZ.alike Ar8.2.1) Ar8.2.2 hin8 hat8 (g := (mkF m 17 #[.val (.ref o0), .val (.ref o1), .val (.int 1)] [(.int 1), (.ref o0)])) rfl rfl (hb hby d10_17) _ ?_
      refine XS.aloadN X0.here hx rfl (hb hby d10_18) rfl rfl ?_
      refine XS.iloadN X0.here hx rfl (hb hby d10_19) rfl ?_
      exact kt
    obtain ⟨cl9, Ar9, -, S9, M9, H9, -⟩ := id V_o1
    have hin9 : ¬ ((1 : Int32) < 0 ∨ cl9.slots.size ≤ ((1 : Int32)).toNatClampNeg) := inb_of S9 ⟨by decide, by decide⟩
    have hat9 : cl9.slots[((1 : Int32)).toNatClampNeg]? = some (.int y1) := Has.at H9 hin9 rfl
    refine own_thr (a := s₁.setTop (mkF m 21 #[.val (.ref o0), .val (.ref o1), .val (.int 1)] [(.int y1), (.int x1)])) (fun t kt => ?_) ?_
    · refine X0.baloadBytes hx (j := (1 : Int32)) (v := (.int y1)) (by rw [e0]; exact Ar9.1) (State.isArrayOf_alike hZ.alike Ar9.2.1) Ar9.2.2 hin9 hat9 (g := (mkF m 20 #[.val (.ref o0), .val (.ref o1), .val (.int 1)] [(.int 1), (.ref o1), (.int x1)])) rfl rfl (hb hby d10_20) _ ?_
      exact kt
    by_cases hc10 : x1 = y1
    · refine own_thr (a := s₁.setTop (mkF m 11 #[.val (.ref o0), .val (.ref o1), .val (.int 2)] [(.ref o0), (.int 2)])) (fun t kt => ?_) ?_
      · refine XS.icmpYes X0.here hx rfl (pc0 := 21) (pc' := 26) rfl (hb hby d10_21) rfl (teq hc10).1 (by decide) (by decide) ?_
        refine XS.iinc X0.here hx rfl (hb hby d10_26) rfl (l' := #[.val (.ref o0), .val (.ref o1), .val (.int 2)]) rfl ?_
        refine XS.goto X0.here hx rfl (pc0 := 29) (pc' := 9) rfl (hb hby d10_29) (by decide) (by decide) ?_
        refine XS.iloadN X0.here hx rfl (hb hby d10_9) rfl ?_
        refine XS.aloadN X0.here hx rfl (hb hby d10_10) rfl rfl ?_
        exact kt
      obtain ⟨cl11, Ar11, -, S11, M11, -, -⟩ := id V_o0
      refine own_thr (a := s₁.setTop (mkF m 17 #[.val (.ref o0), .val (.ref o1), .val (.int 2)] [(.int 2), (.ref o0)])) (fun t kt => ?_) ?_
      · refine X0.arraylength hx (by rw [e0]; exact Ar11.1) (State.isArrayOf_alike hZ.alike Ar11.2.1) (g := (mkF m 11 #[.val (.ref o0), .val (.ref o1), .val (.int 2)] [(.ref o0), (.int 2)])) rfl rfl (hb hby d10_11) _ ?_
        rw [len_of S11 M11]
        refine XS.icmpNo X0.here hx rfl (hb hby d10_12) rfl (tlt (by decide)).2.1 ?_
        refine XS.aloadN X0.here hx rfl (hb hby d10_15) rfl rfl ?_
        refine XS.iloadN X0.here hx rfl (hb hby d10_16) rfl ?_
        exact kt
      obtain ⟨cl12, Ar12, -, S12, M12, H12, -⟩ := id V_o0
      have hin12 : ¬ ((2 : Int32) < 0 ∨ cl12.slots.size ≤ ((2 : Int32)).toNatClampNeg) := inb_of S12 ⟨by decide, by decide⟩
      have hat12 : cl12.slots[((2 : Int32)).toNatClampNeg]? = some (.int x2) := Has.at H12 hin12 rfl
      refine own_thr (a := s₁.setTop (mkF m 20 #[.val (.ref o0), .val (.ref o1), .val (.int 2)] [(.int 2), (.ref o1), (.int x2)])) (fun t kt => ?_) ?_
      · refine X0.baloadBytes hx (j := (2 : Int32)) (v := (.int x2)) (by rw [e0]; exact Ar12.1) (State.isArrayOf_alike hZ.alike Ar12.2.1) Ar12.2.2 hin12 hat12 (g := (mkF m 17 #[.val (.ref o0), .val (.ref o1), .val (.int 2)] [(.int 2), (.ref o0)])) rfl rfl (hb hby d10_17) _ ?_
        refine XS.aloadN X0.here hx rfl (hb hby d10_18) rfl rfl ?_
        refine XS.iloadN X0.here hx rfl (hb hby d10_19) rfl ?_
        exact kt
      obtain ⟨cl13, Ar13, -, S13, M13, H13, -⟩ := id V_o1
      have hin13 : ¬ ((2 : Int32) < 0 ∨ cl13.slots.size ≤ ((2 : Int32)).toNatClampNeg) := inb_of S13 ⟨by decide, by decide⟩
      have hat13 : cl13.slots[((2 : Int32)).toNatClampNeg]? = some (.int y2) := Has.at H13 hin13 rfl
      refine own_thr (a := s₁.setTop (mkF m 21 #[.val (.ref o0), .val (.ref o1), .val (.int 2)] [(.int y2), (.int x2)])) (fun t kt => ?_) ?_
      · refine X0.baloadBytes hx (j := (2 : Int32)) (v := (.int y2)) (by rw [e0]; exact Ar13.1) (State.isArrayOf_alike hZ.alike Ar13.2.1) Ar13.2.2 hin13 hat13 (g := (mkF m 20 #[.val (.ref o0), .val (.ref o1), .val (.int 2)] [(.int 2), (.ref o1), (.int x2)])) rfl rfl (hb hby d10_20) _ ?_
        exact kt
      by_cases hc14 : x2 = y2
      · refine own_thr (a := s₁.setTop (mkF m 11 #[.val (.ref o0), .val (.ref o1), .val (.int 3)] [(.ref o0), (.int 3)])) (fun t kt => ?_) ?_
        · refine XS.icmpYes X0.here hx rfl (pc0 := 21) (pc' := 26) rfl (hb hby d10_21) rfl (teq hc14).1 (by decide) (by decide) ?_
          refine XS.iinc X0.here hx rfl (hb hby d10_26) rfl (l' := #[.val (.ref o0), .val (.ref o1), .val (.int 3)]) rfl ?_
          refine XS.goto X0.here hx rfl (pc0 := 29) (pc' := 9) rfl (hb hby d10_29) (by decide) (by decide) ?_
          refine XS.iloadN X0.here hx rfl (hb hby d10_9) rfl ?_
          refine XS.aloadN X0.here hx rfl (hb hby d10_10) rfl rfl ?_
          exact kt
        obtain ⟨cl15, Ar15, -, S15, M15, -, -⟩ := id V_o0
        refine own_thr (a := s₁.setTop (mkF m 17 #[.val (.ref o0), .val (.ref o1), .val (.int 3)] [(.int 3), (.ref o0)])) (fun t kt => ?_) ?_
        · refine X0.arraylength hx (by rw [e0]; exact Ar15.1) (State.isArrayOf_alike hZ.alike Ar15.2.1) (g := (mkF m 11 #[.val (.ref o0), .val (.ref o1), .val (.int 3)] [(.ref o0), (.int 3)])) rfl rfl (hb hby d10_11) _ ?_
          rw [len_of S15 M15]
          refine XS.icmpNo X0.here hx rfl (hb hby d10_12) rfl (tlt (by decide)).2.1 ?_
          refine XS.aloadN X0.here hx rfl (hb hby d10_15) rfl rfl ?_
          refine XS.iloadN X0.here hx rfl (hb hby d10_16) rfl ?_
          exact kt
        obtain ⟨cl16, Ar16, -, S16, M16, H16, -⟩ := id V_o0
        have hin16 : ¬ ((3 : Int32) < 0 ∨ cl16.slots.size ≤ ((3 : Int32)).toNatClampNeg) := inb_of S16 ⟨by decide, by decide⟩
        have hat16 : cl16.slots[((3 : Int32)).toNatClampNeg]? = some (.int x3) := Has.at H16 hin16 rfl
        refine own_thr (a := s₁.setTop (mkF m 20 #[.val (.ref o0), .val (.ref o1), .val (.int 3)] [(.int 3), (.ref o1), (.int x3)])) (fun t kt => ?_) ?_
        · refine X0.baloadBytes hx (j := (3 : Int32)) (v := (.int x3)) (by rw [e0]; exact Ar16.1) (State.isArrayOf_alike hZ.alike Ar16.2.1) Ar16.2.2 hin16 hat16 (g := (mkF m 17 #[.val (.ref o0), .val (.ref o1), .val (.int 3)] [(.int 3), (.ref o0)])) rfl rfl (hb hby d10_17) _ ?_
          refine XS.aloadN X0.here hx rfl (hb hby d10_18) rfl rfl ?_
          refine XS.iloadN X0.here hx rfl (hb hby d10_19) rfl ?_
          exact kt
        obtain ⟨cl17, Ar17, -, S17, M17, H17, -⟩ := id V_o1
        have hin17 : ¬ ((3 : Int32) < 0 ∨ cl17.slots.size ≤ ((3 : Int32)).toNatClampNeg) := inb_of S17 ⟨by decide, by decide⟩
        have hat17 : cl17.slots[((3 : Int32)).toNatClampNeg]? = some (.int y3) := Has.at H17 hin17 rfl
        refine own_thr (a := s₁.setTop (mkF m 21 #[.val (.ref o0), .val (.ref o1), .val (.int 3)] [(.int y3), (.int x3)])) (fun t kt => ?_) ?_
        · refine X0.baloadBytes hx (j := (3 : Int32)) (v := (.int y3)) (by rw [e0]; exact Ar17.1) (State.isArrayOf_alike hZ.alike Ar17.2.1) Ar17.2.2 hin17 hat17 (g := (mkF m 20 #[.val (.ref o0), .val (.ref o1), .val (.int 3)] [(.int 3), (.ref o1), (.int x3)])) rfl rfl (hb hby d10_20) _ ?_
          exact kt
        by_cases hc18 : x3 = y3
        · refine own_thr (a := s₁.setTop (mkF m 11 #[.val (.ref o0), .val (.ref o1), .val (.int 4)] [(.ref o0), (.int 4)])) (fun t kt => ?_) ?_
          · refine XS.icmpYes X0.here hx rfl (pc0 := 21) (pc' := 26) rfl (hb hby d10_21) rfl (teq hc18).1 (by decide) (by decide) ?_
            refine XS.iinc X0.here hx rfl (hb hby d10_26) rfl (l' := #[.val (.ref o0), .val (.ref o1), .val (.int 4)]) rfl ?_
            refine XS.goto X0.here hx rfl (pc0 := 29) (pc' := 9) rfl (hb hby d10_29) (by decide) (by decide) ?_
            refine XS.iloadN X0.here hx rfl (hb hby d10_9) rfl ?_
            refine XS.aloadN X0.here hx rfl (hb hby d10_10) rfl rfl ?_
            exact kt
          obtain ⟨cl19, Ar19, -, S19, M19, -, -⟩ := id V_o0
          refine own_thr (a := s₁.setTop (mkF m 17 #[.val (.ref o0), .val (.ref o1), .val (.int 4)] [(.int 4), (.ref o0)])) (fun t kt => ?_) ?_
          · refine X0.arraylength hx (by rw [e0]; exact Ar19.1) (State.isArrayOf_alike hZ.alike Ar19.2.1) (g := (mkF m 11 #[.val (.ref o0), .val (.ref o1), .val (.int 4)] [(.ref o0), (.int 4)])) rfl rfl (hb hby d10_11) _ ?_
            rw [len_of S19 M19]
            refine XS.icmpNo X0.here hx rfl (hb hby d10_12) rfl (tlt (by decide)).2.1 ?_
            refine XS.aloadN X0.here hx rfl (hb hby d10_15) rfl rfl ?_
            refine XS.iloadN X0.here hx rfl (hb hby d10_16) rfl ?_
            exact kt
          obtain ⟨cl20, Ar20, -, S20, M20, H20, -⟩ := id V_o0
          have hin20 : ¬ ((4 : Int32) < 0 ∨ cl20.slots.size ≤ ((4 : Int32)).toNatClampNeg) := inb_of S20 ⟨by decide, by decide⟩
          have hat20 : cl20.slots[((4 : Int32)).toNatClampNeg]? = some (.int x4) := Has.at H20 hin20 rfl
          refine own_thr (a := s₁.setTop (mkF m 20 #[.val (.ref o0), .val (.ref o1), .val (.int 4)] [(.int 4), (.ref o1), (.int x4)])) (fun t kt => ?_) ?_
          · refine X0.baloadBytes hx (j := (4 : Int32)) (v := (.int x4)) (by rw [e0]; exact Ar20.1) (State.isArrayOf_alike hZ.alike Ar20.2.1) Ar20.2.2 hin20 hat20 (g := (mkF m 17 #[.val (.ref o0), .val (.ref o1), .val (.int 4)] [(.int 4), (.ref o0)])) rfl rfl (hb hby d10_17) _ ?_
            refine XS.aloadN X0.here hx rfl (hb hby d10_18) rfl rfl ?_
            refine XS.iloadN X0.here hx rfl (hb hby d10_19) rfl ?_
            exact kt
          obtain ⟨cl21, Ar21, -, S21, M21, H21, -⟩ := id V_o1
          have hin21 : ¬ ((4 : Int32) < 0 ∨ cl21.slots.size ≤ ((4 : Int32)).toNatClampNeg) := inb_of S21 ⟨by decide, by decide⟩
          have hat21 : cl21.slots[((4 : Int32)).toNatClampNeg]? = some (.int y4) := Has.at H21 hin21 rfl
          refine own_thr (a := s₁.setTop (mkF m 25 #[.val (.ref o0), .val (.ref o1), .val (.int 4)] [(.int 0)])) (fun t kt => ?_) ?_
          · refine X0.baloadBytes hx (j := (4 : Int32)) (v := (.int y4)) (by rw [e0]; exact Ar21.1) (State.isArrayOf_alike hZ.alike Ar21.2.1) Ar21.2.2 hin21 hat21 (g := (mkF m 20 #[.val (.ref o0), .val (.ref o1), .val (.int 4)] [(.int 4), (.ref o1), (.int x4)])) rfl rfl (hb hby d10_20) _ ?_
            refine XS.icmpNo X0.here hx rfl (hb hby d10_21) rfl (feq (fun q => hm ⟨hc6, hc10, hc14, hc18, q⟩)).1 ?_
            refine XS.iconst X0.here hx rfl (hb hby d10_24) ?_
            exact kt
          exact own_end X0 hlk (v := some (.int 0)) (fun h => by rw [Bd.returns] at h; cases h) (fun fs hr => retN X0 hx (t := .boolean) Bd.returns (by simp) (hb hby d10_25) hr) (by rw [e0]; exact ⟨rfl, N0, rfl⟩) (by decide : 0 ≤ _) (by decide : 0 ≤ _)
        · refine own_thr (a := s₁.setTop (mkF m 25 #[.val (.ref o0), .val (.ref o1), .val (.int 3)] [(.int 0)])) (fun t kt => ?_) ?_
          · refine XS.icmpNo X0.here hx rfl (hb hby d10_21) rfl (feq hc18).1 ?_
            refine XS.iconst X0.here hx rfl (hb hby d10_24) ?_
            exact kt
          exact own_end X0 hlk (v := some (.int 0)) (fun h => by rw [Bd.returns] at h; cases h) (fun fs hr => retN X0 hx (t := .boolean) Bd.returns (by simp) (hb hby d10_25) hr) (by rw [e0]; exact ⟨rfl, N0, rfl⟩) (by decide : 0 ≤ _) (by decide : 0 ≤ _)
      · refine own_thr (a := s₁.setTop (mkF m 25 #[.val (.ref o0), .val (.ref o1), .val (.int 2)] [(.int 0)])) (fun t kt => ?_) ?_
        · refine XS.icmpNo X0.here hx rfl (hb hby d10_21) rfl (feq hc14).1 ?_
          refine XS.iconst X0.here hx rfl (hb hby d10_24) ?_
          exact kt
        exact own_end X0 hlk (v := some (.int 0)) (fun h => by rw [Bd.returns] at h; cases h) (fun fs hr => retN X0 hx (t := .boolean) Bd.returns (by simp) (hb hby d10_25) hr) (by rw [e0]; exact ⟨rfl, N0, rfl⟩) (by decide : 0 ≤ _) (by decide : 0 ≤ _)
    · refine own_thr (a := s₁.setTop (mkF m 25 #[.val (.ref o0), .val (.ref o1), .val (.int 1)] [(.int 0)])) (fun t kt => ?_) ?_
      · refine XS.icmpNo X0.here hx rfl (hb hby d10_21) rfl (feq hc10).1 ?_
        refine XS.iconst X0.here hx rfl (hb hby d10_24) ?_
        exact kt
      exact own_end X0 hlk (v := some (.int 0)) (fun h => by rw [Bd.returns] at h; cases h) (fun fs hr => retN X0 hx (t := .boolean) Bd.returns (by simp) (hb hby d10_25) hr) (by rw [e0]; exact ⟨rfl, N0, rfl⟩) (by decide : 0 ≤ _) (by decide : 0 ≤ _)
  · refine own_thr (a := s₁.setTop (mkF m 25 #[.val (.ref o0), .val (.ref o1), .val (.int 0)] [(.int 0)])) (fun t kt => ?_) ?_
    · refine XS.icmpNo X0.here hx rfl (hb hby d10_21) rfl (feq hc6).1 ?_
      refine XS.iconst X0.here hx rfl (hb hby d10_24) ?_
      exact kt
    exact own_end X0 hlk (v := some (.int 0)) (fun h => by rw [Bd.returns] at h; cases h) (fun fs hr => retN X0 hx (t := .boolean) Bd.returns (by simp) (hb hby d10_25) hr) (by rw [e0]; exact ⟨rfl, N0, rfl⟩) (by decide : 0 ≤ _) (by decide : 0 ≤ _)
theorem ef_rmEQM5 (m : MethodId) (o0 : Addr) (o1 : Addr)  : entryFrame m #[(.ref o0), (.ref o1)] 3 = mkF m 0 #[.val (.ref o0), .val (.ref o1), .unset] [] := by first |  (simp [entryFrame, mkF, argsToLocals, Value.category]; done) | rfl
def Q_rmEQM5 (Z : State) (o0 : Addr) (o1 : Addr) (v0 : Addr) (v1 : Addr) (x0 : Int32) (x1 : Int32) (x2 : Int32) (x3 : Int32) (x4 : Int32) (y0 : Int32) (y1 : Int32) (y2 : Int32) (y3 : Int32) (y4 : Int32) (k0 : ClassId) (k1 : ClassId) (cs : Int32) (h0 : Heap) (n0 : Nat) (v : Option Value) (h : Heap) (L : List Loc) : Prop := v = some (.int 0) ∧ Fr n0 L ∧ h = h0
set_option maxRecDepth 65536 in
set_option maxHeartbeats 40000000 in
theorem rmEQM5 (l : Launch) (Z : State) (a0 : Array Value) (hw : ∀ d ∈ tables_1, d.before a0 Z = true) (ws : List Jvm.Cond) (o0 : Addr) (o1 : Addr) (v0 : Addr) (v1 : Addr) (x0 : Int32) (x1 : Int32) (x2 : Int32) (x3 : Int32) (x4 : Int32) (y0 : Int32) (y1 : Int32) (y2 : Int32) (y3 : Int32) (y4 : Int32) (k0 : ClassId) (k1 : ClassId) (cs : Int32) (h0 : Heap) (n0 : Nat) (Z0 : n0 ≤ h0.size) (E_o0 : Exa Z h0 o0 "java/lang/String") (F_value_o0 : Fld Z h0 o0 "java/lang/String" "value" "[B" (.ref v0)) (F_coder_o0 : Fld Z h0 o0 "java/lang/String" "coder" "B" (.int 0)) (E_o1 : Exa Z h0 o1 "java/lang/String") (F_value_o1 : Fld Z h0 o1 "java/lang/String" "value" "[B" (.ref v1)) (F_coder_o1 : Fld Z h0 o1 "java/lang/String" "coder" "B" (.int 0)) (V_v0 : Arv Z h0 v0 k0 .byte (5 : Int32) [(.int x0), (.int x1), (.int x2), (.int x3), (.int x4)] (.int 0)) (V_v1 : Arv Z h0 v1 k1 .byte (5 : Int32) [(.int y0), (.int y1), (.int y2), (.int y3), (.int y4)] (.int 0)) (S_COMPACT_STRINGS : Sta Z h0 "java/lang/String" "COMPACT_STRINGS" "Z" (.int cs)) (hcs : ¬ cs = (0 : Int32)) (hneo : ¬ o0 = o1) (hm : ¬ (x0 = y0 ∧ x1 = y1 ∧ x2 = y2 ∧ x3 = y3 ∧ x4 = y4)) :
    MetFree l (⟨"java/lang/String", "equals", "(Ljava/lang/Object;)Z"⟩ : MethodName) (head1 (Jvm.Cond.code (⟨"java/lang/String", "equals", "(Ljava/lang/Object;)Z"⟩ : MethodName) jdk_42_method_66_code 3 (some .boolean) :: ws) ({ frames := 1, cells := 0, slots := 0, locals := 14 } : Room)) (fun a U => a = #[(.ref o0), (.ref o1)] ∧ Z.Warmed39 U.vm ∧ U.heap = h0) (fun _ _ _ _ _ => True) (fun _ U o U' => ∃ v L, o = .returned v ∧ Q_rmEQM5 Z o0 o1 v0 v1 x0 x1 x2 x3 x4 y0 y1 y2 y3 y4 k0 k1 cs h0 n0 v U'.heap L ∧ FrameEnd U o U' L ({ frames := 1, cells := 0, slots := 0, locals := 14 } : Room).cells ({ frames := 1, cells := 0, slots := 0, locals := 14 } : Room).slots) := by
  refine MetFree.of_bodySF (plainFor_of_name pn_java_lang_String) hisR ?_
  intro p e s m args below meth c s₁ Bd hml0 hP hK
  obtain ⟨rfl, hZ, hh⟩ := hP
  have hx := Bd.exec
  have hby := Bd.bytes
  have hml : c.maxLocals = 3 := hml0
  have hown : s.vm.findClass "java/lang/String" = some m.cls := findClass_of_methodNamed Bd.named
  have hnm := (name_of_methodNamed Bd.named Bd.method).1
  have hlk := Bd.notSynchronized
  have X0 : Stand p l e ({ frames := 1, cells := 0, slots := 0, locals := 14 } : Room) s m #[(.ref o0), (.ref o1)] below meth c s₁ [] 0 0 := Stand.of_body Bd
  have e0 : s₁.heap = h0 := by rw [← hh, Bd.state]; rfl
  have N0 := Fr.nil n0
  show own_G p.tables e below s (Q_rmEQM5 Z o0 o1 v0 v1 x0 x1 x2 x3 x4 y0 y1 y2 y3 y4 k0 k1 cs h0 n0) ({ frames := 1, cells := 0, slots := 0, locals := 14 } : Room).cells ({ frames := 1, cells := 0, slots := 0, locals := 14 } : Room).slots _
  refine own_thr (a := s₁.setTop (mkF m 0 #[.val (.ref o0), .val (.ref o1), .unset] [])) (fun t kt => castTop (ef_rmEQM5 m o0 o1) kt) ?_
  refine own_thr (a := s₁.setTop (mkF m 2 #[.val (.ref o0), .val (.ref o1), .unset] [(.ref o1), (.ref o0)])) (fun t kt => ?_) ?_
  · refine XS.aloadN X0.here hx rfl (hb hby d9_0) rfl rfl ?_
    refine XS.aloadN X0.here hx rfl (hb hby d9_1) rfl rfl ?_
    exact kt
  refine own_thr (a := s₁.setTop (mkF m 8 #[.val (.ref o0), .val (.ref o1), .unset] [(.ref o1)])) (fun t kt => ?_) ?_
  · refine Jvm.RoadKit.acmp (g := (mkF m 2 #[.val (.ref o0), .val (.ref o1), .unset] [(.ref o1), (.ref o0)])) X0 hx rfl rfl rfl (pc0 := 2) (pc' := 7) (same := false) rfl (hb hby d9_2) rfl (decide_eq_false (fun q => hneo (Value.ref.inj q))) (by decide) (by decide) ?_
    refine XS.aloadN X0.here hx rfl (hb hby d9_7) rfl rfl ?_
    exact kt
  obtain ⟨T1, X1, e1, st1⟩ := instY X0 hx hZ hown (hw _ (own_i 58 rfl)) e0 (Ins.self E_o1) (g := (mkF m 8 #[.val (.ref o0), .val (.ref o1), .unset] [(.ref o1)])) rfl rfl (hb hby d9_8)
  refine own_thr (a := T1.setTop (mkF m 11 #[.val (.ref o0), .val (.ref o1), .unset] [(.int 1)])) (fun t kt => st1 t kt) ?_
  refine own_thr (a := T1.setTop (mkF m 15 #[.val (.ref o0), .val (.ref o1), .unset] [(.ref o1)])) (fun t kt => ?_) ?_
  · refine XS.ifNo X1.here hx rfl (hb hby d9_11) rfl ((if0 _ _).trans (feq (by decide)).1) ?_
    refine XS.aloadN X1.here hx rfl (hb hby d9_14) rfl rfl ?_
    exact kt
  obtain ⟨T2, X2, e2, st2⟩ := castY X1 hx hZ hown (hw _ (own_i 58 rfl)) e1 (Ins.self E_o1) (g := (mkF m 15 #[.val (.ref o0), .val (.ref o1), .unset] [(.ref o1)])) rfl rfl (hb hby d9_15)
  refine own_thr (a := T2.setTop (mkF m 18 #[.val (.ref o0), .val (.ref o1), .unset] [(.ref o1)])) (fun t kt => st2 t kt) ?_
  refine own_thr (a := T2.setTop (mkF m 19 #[.val (.ref o0), .val (.ref o1), .val (.ref o1)] [])) (fun t kt => ?_) ?_
  · refine XS.astoreN X2.here hx rfl (hb hby d9_18) rfl rfl (l' := #[.val (.ref o0), .val (.ref o1), .val (.ref o1)]) rfl ?_
    exact kt
  obtain ⟨T3, X3, e3, st3⟩ := getS2 X2 hx hZ hown (host := "") (Or.inl (hw _ (own_i 14 rfl))) Via.refl e2 S_COMPACT_STRINGS (g := (mkF m 19 #[.val (.ref o0), .val (.ref o1), .val (.ref o1)] [])) rfl (hb hby d9_19)
  refine own_thr (a := T3.setTop (mkF m 22 #[.val (.ref o0), .val (.ref o1), .val (.ref o1)] [(.int cs)])) (fun t kt => st3 t kt) ?_
  refine own_thr (a := T3.setTop (mkF m 26 #[.val (.ref o0), .val (.ref o1), .val (.ref o1)] [(.ref o0)])) (fun t kt => ?_) ?_
  · refine XS.ifNo X3.here hx rfl (hb hby d9_22) rfl ((if0 _ _).trans (feq hcs).1) ?_
    refine XS.aloadN X3.here hx rfl (hb hby d9_25) rfl rfl ?_
    exact kt
  obtain ⟨T4, X4, e4, st4⟩ := getF X3 hx hZ hown (host := "") (Or.inl (hw _ (own_i 26 rfl))) Via.refl e3 F_coder_o0 (g := (mkF m 26 #[.val (.ref o0), .val (.ref o1), .val (.ref o1)] [(.ref o0)])) rfl rfl (hb hby d9_26)
  refine own_thr (a := T4.setTop (mkF m 29 #[.val (.ref o0), .val (.ref o1), .val (.ref o1)] [(.int 0)])) (fun t kt => st4 t kt) ?_
  refine own_thr (a := T4.setTop (mkF m 30 #[.val (.ref o0), .val (.ref o1), .val (.ref o1)] [(.ref o1), (.int 0)])) (fun t kt => ?_) ?_
  · refine XS.aloadN X4.here hx rfl (hb hby d9_29) rfl rfl ?_
    exact kt
  obtain ⟨T5, X5, e5, st5⟩ := getF X4 hx hZ hown (host := "") (Or.inl (hw _ (own_i 26 rfl))) Via.refl e4 F_coder_o1 (g := (mkF m 30 #[.val (.ref o0), .val (.ref o1), .val (.ref o1)] [(.ref o1), (.int 0)])) rfl rfl (hb hby d9_30)
  refine own_thr (a := T5.setTop (mkF m 33 #[.val (.ref o0), .val (.ref o1), .val (.ref o1)] [(.int 0), (.int 0)])) (fun t kt => st5 t kt) ?_
  refine own_thr (a := T5.setTop (mkF m 37 #[.val (.ref o0), .val (.ref o1), .val (.ref o1)] [(.ref o0)])) (fun t kt => ?_) ?_
  · refine XS.icmpNo X5.here hx rfl (hb hby d9_33) rfl (teq rfl).2 ?_
    refine XS.aloadN X5.here hx rfl (hb hby d9_36) rfl rfl ?_
    exact kt
  obtain ⟨T6, X6, e6, st6⟩ := getF X5 hx hZ hown (host := "") (Or.inl (hw _ (own_i 28 rfl))) Via.refl e5 F_value_o0 (g := (mkF m 37 #[.val (.ref o0), .val (.ref o1), .val (.ref o1)] [(.ref o0)])) rfl rfl (hb hby d9_37)
  refine own_thr (a := T6.setTop (mkF m 40 #[.val (.ref o0), .val (.ref o1), .val (.ref o1)] [(.ref v0)])) (fun t kt => st6 t kt) ?_
  refine own_thr (a := T6.setTop (mkF m 41 #[.val (.ref o0), .val (.ref o1), .val (.ref o1)] [(.ref o1), (.ref v0)])) (fun t kt => ?_) ?_
  · refine XS.aloadN X6.here hx rfl (hb hby d9_40) rfl rfl ?_
    exact kt
  obtain ⟨T7, X7, e7, st7⟩ := getF X6 hx hZ hown (host := "") (Or.inl (hw _ (own_i 28 rfl))) Via.refl e6 F_value_o1 (g := (mkF m 41 #[.val (.ref o0), .val (.ref o1), .val (.ref o1)] [(.ref o1), (.ref v0)])) rfl rfl (hb hby d9_41)
  refine own_thr (a := T7.setTop (mkF m 44 #[.val (.ref o0), .val (.ref o1), .val (.ref o1)] [(.ref v1), (.ref v0)])) (fun t kt => st7 t kt) ?_
  obtain ⟨_, _, ⟨T8, L8, k8, n8⟩, -, X8, ⟨Lc8, hQ8, l8, y8, z8⟩, st8⟩ := Jvm.LawKit.callS X7 hx (y := (⟨"java/lang/StringLatin1", "equals", "([B[B)Z"⟩ : MethodName)) hown (mvT hZ (hw _ (own_i 59 rfl))) (mvT hZ (hw _ (own_i 60 rfl))) (mvT hZ (hw _ (own_i 61 rfl))) (mvT hZ (hw _ (own_i 62 rfl))) (by decide) (backOf (W := 0) (rmLEM5 l Z a0 hw [] v0 v1 x0 x1 x2 x3 x4 y0 y1 y2 y3 y4 k0 k1 h0 n0 Z0 V_v0 V_v1 hm) hZ (hw _ (own_i 62 rfl)) (hw _ (own_i 61 rfl)) (by decide) (by decide)) (g := (mkF m 44 #[.val (.ref o0), .val (.ref o1), .val (.ref o1)] [(.ref v1), (.ref v0)])) rfl (by rw [hml]; rfl) (argsL := [(.ref v0), (.ref v1)]) (rest := []) (lenOf pd__28_5bB_5bB_29Z rfl) rfl (by show 2 * 0 + _ ≤ _; exact Nat.le_of_eq rfl) (hb hby d9_44) (fun _ _ => ⟨rfl, e7, (by decide : 0 + 0 ≤ _), (by decide : 0 + 0 ≤ _)⟩)
  dsimp only [Pt.U, Pt.locs, Pt.cells, Pt.slots] at X8 l8 y8 z8 st8 hQ8
  obtain ⟨rfl, N8q, e8⟩ := hQ8
  obtain ⟨lc8, X8, N8⟩ := own_pack X8 l8 y8 z8 N0 N8q (C := 0) (S' := 0) rfl rfl
  refine own_thr (a := T8.setTop (mkF m 47 #[.val (.ref o0), .val (.ref o1), .val (.ref o1)] [(.int 0)])) (fun t kt => st8 t kt) ?_
  refine own_thr (a := T8.setTop (mkF m 55 #[.val (.ref o0), .val (.ref o1), .val (.ref o1)] [(.int 0)])) (fun t kt => ?_) ?_
  · refine XS.ifYes X8.here hx rfl (pc0 := 47) (pc' := 54) rfl (hb hby d9_47) rfl ((if0 _ _).trans (teq rfl).1) (by decide) (by decide) ?_
    refine XS.iconst X8.here hx rfl (hb hby d9_54) ?_
    exact kt
  exact own_end X8 hlk (v := some (.int 0)) (fun h => by rw [Bd.returns] at h; cases h) (fun fs hr => retN X8 hx (t := .boolean) Bd.returns (by simp) (hb hby d9_55) hr) (by rw [e8]; exact ⟨rfl, N8, rfl⟩) (by decide : 0 ≤ _) (by decide : 0 ≤ _)
theorem ef_rmLEH7 (m : MethodId) (o0 : Addr) (o1 : Addr)  : entryFrame m #[(.ref o0), (.ref o1)] 3 = mkF m 0 #[.val (.ref o0), .val (.ref o1), .unset] [] := by first |  (simp [entryFrame, mkF, argsToLocals, Value.category]; done) | rfl
def Q_rmLEH7 (Z : State) (o0 : Addr) (o1 : Addr) (k0 : ClassId) (k1 : ClassId) (h0 : Heap) (n0 : Nat) (v : Option Value) (h : Heap) (L : List Loc) : Prop := v = some (.int 1) ∧ Fr n0 L ∧ h = h0
set_option maxRecDepth 65536 in
set_option maxHeartbeats 40000000 in
theorem rmLEH7 (l : Launch) (Z : State) (a0 : Array Value) (hw : ∀ d ∈ tables_1, d.before a0 Z = true) (ws : List Jvm.Cond) (o0 : Addr) (o1 : Addr) (k0 : ClassId) (k1 : ClassId) (h0 : Heap) (n0 : Nat) (Z0 : n0 ≤ h0.size) (V_o0 : Arv Z h0 o0 k0 .byte (7 : Int32) [(.int 45), (.int 45), (.int 113), (.int 117), (.int 101), (.int 117), (.int 101)] (.int 0)) (V_o1 : Arv Z h0 o1 k1 .byte (7 : Int32) [(.int 45), (.int 45), (.int 113), (.int 117), (.int 101), (.int 117), (.int 101)] (.int 0)) :
    MetFree l (⟨"java/lang/StringLatin1", "equals", "([B[B)Z"⟩ : MethodName) (head1 (Jvm.Cond.code (⟨"java/lang/StringLatin1", "equals", "([B[B)Z"⟩ : MethodName) jdk_43_method_13_code 3 (some .boolean) :: ws) ({ frames := 0, cells := 0, slots := 0, locals := 0 } : Room)) (fun a U => a = #[(.ref o0), (.ref o1)] ∧ Z.Warmed39 U.vm ∧ U.heap = h0) (fun _ _ _ _ _ => True) (fun _ U o U' => ∃ v L, o = .returned v ∧ Q_rmLEH7 Z o0 o1 k0 k1 h0 n0 v U'.heap L ∧ FrameEnd U o U' L ({ frames := 0, cells := 0, slots := 0, locals := 0 } : Room).cells ({ frames := 0, cells := 0, slots := 0, locals := 0 } : Room).slots) := by
  refine MetFree.of_bodySF (plainFor_of_name pn_java_lang_StringLatin1) hisR ?_
  intro p e s m args below meth c s₁ Bd hml0 hP hK
  obtain ⟨rfl, hZ, hh⟩ := hP
  have hx := Bd.exec
  have hby := Bd.bytes
  have hml : c.maxLocals = 3 := hml0
  have hown : s.vm.findClass "java/lang/StringLatin1" = some m.cls := findClass_of_methodNamed Bd.named
  have hnm := (name_of_methodNamed Bd.named Bd.method).1
  have hlk := Bd.notSynchronized
  have X0 : Stand p l e ({ frames := 0, cells := 0, slots := 0, locals := 0 } : Room) s m #[(.ref o0), (.ref o1)] below meth c s₁ [] 0 0 := Stand.of_body Bd
  have e0 : s₁.heap = h0 := by rw [← hh, Bd.state]; rfl
  have N0 := Fr.nil n0
  show own_G p.tables e below s (Q_rmLEH7 Z o0 o1 k0 k1 h0 n0) ({ frames := 0, cells := 0, slots := 0, locals := 0 } : Room).cells ({ frames := 0, cells := 0, slots := 0, locals := 0 } : Room).slots _
  refine own_thr (a := s₁.setTop (mkF m 0 #[.val (.ref o0), .val (.ref o1), .unset] [])) (fun t kt => castTop (ef_rmLEH7 m o0 o1) kt) ?_
  refine own_thr (a := s₁.setTop (mkF m 1 #[.val (.ref o0), .val (.ref o1), .unset] [(.ref o0)])) (fun t kt => ?_) ?_
  · refine XS.aloadN X0.here hx rfl (hb hby d10_0) rfl rfl ?_
    exact kt
  obtain ⟨cl1, Ar1, -, S1, M1, -, -⟩ := id V_o0
  refine own_thr (a := s₁.setTop (mkF m 3 #[.val (.ref o0), .val (.ref o1), .unset] [(.ref o1), (.int 7)])) (fun t kt => ?_) ?_
  · refine X0.arraylength hx (by rw [e0]; exact Ar1.1) (State.isArrayOf_alike hZ.alike Ar1.2.1) (g := (mkF m 1 #[.val (.ref o0), .val (.ref o1), .unset] [(.ref o0)])) rfl rfl (hb hby d10_1) _ ?_
    rw [len_of S1 M1]
    refine XS.aloadN X0.here hx rfl (hb hby d10_2) rfl rfl ?_
    exact kt
  obtain ⟨cl2, Ar2, -, S2, M2, -, -⟩ := id V_o1
  refine own_thr (a := s₁.setTop (mkF m 11 #[.val (.ref o0), .val (.ref o1), .val (.int 0)] [(.ref o0), (.int 0)])) (fun t kt => ?_) ?_
  · refine X0.arraylength hx (by rw [e0]; exact Ar2.1) (State.isArrayOf_alike hZ.alike Ar2.2.1) (g := (mkF m 3 #[.val (.ref o0), .val (.ref o1), .unset] [(.ref o1), (.int 7)])) rfl rfl (hb hby d10_3) _ ?_
    rw [len_of S2 M2]
    refine XS.icmpNo X0.here hx rfl (hb hby d10_4) rfl (teq rfl).2 ?_
    refine XS.iconst X0.here hx rfl (hb hby d10_7) ?_
    refine XS.istoreN X0.here hx rfl (hb hby d10_8) rfl (l' := #[.val (.ref o0), .val (.ref o1), .val (.int 0)]) rfl ?_
    refine XS.iloadN X0.here hx rfl (hb hby d10_9) rfl ?_
    refine XS.aloadN X0.here hx rfl (hb hby d10_10) rfl rfl ?_
    exact kt
  obtain ⟨cl3, Ar3, -, S3, M3, -, -⟩ := id V_o0
  refine own_thr (a := s₁.setTop (mkF m 17 #[.val (.ref o0), .val (.ref o1), .val (.int 0)] [(.int 0), (.ref o0)])) (fun t kt => ?_) ?_
  · refine X0.arraylength hx (by rw [e0]; exact Ar3.1) (State.isArrayOf_alike hZ.alike Ar3.2.1) (g := (mkF m 11 #[.val (.ref o0), .val (.ref o1), .val (.int 0)] [(.ref o0), (.int 0)])) rfl rfl (hb hby d10_11) _ ?_
    rw [len_of S3 M3]
    refine XS.icmpNo X0.here hx rfl (hb hby d10_12) rfl (tlt (by decide)).2.1 ?_
    refine XS.aloadN X0.here hx rfl (hb hby d10_15) rfl rfl ?_
    refine XS.iloadN X0.here hx rfl (hb hby d10_16) rfl ?_
    exact kt
  obtain ⟨cl4, Ar4, -, S4, M4, H4, -⟩ := id V_o0
  have hin4 : ¬ ((0 : Int32) < 0 ∨ cl4.slots.size ≤ ((0 : Int32)).toNatClampNeg) := inb_of S4 ⟨by decide, by decide⟩
  have hat4 : cl4.slots[((0 : Int32)).toNatClampNeg]? = some (.int 45) := Has.at H4 hin4 rfl
  refine own_thr (a := s₁.setTop (mkF m 20 #[.val (.ref o0), .val (.ref o1), .val (.int 0)] [(.int 0), (.ref o1), (.int 45)])) (fun t kt => ?_) ?_
  · refine X0.baloadBytes hx (j := (0 : Int32)) (v := (.int 45)) (by rw [e0]; exact Ar4.1) (State.isArrayOf_alike hZ.alike Ar4.2.1) Ar4.2.2 hin4 hat4 (g := (mkF m 17 #[.val (.ref o0), .val (.ref o1), .val (.int 0)] [(.int 0), (.ref o0)])) rfl rfl (hb hby d10_17) _ ?_
    refine XS.aloadN X0.here hx rfl (hb hby d10_18) rfl rfl ?_
    refine XS.iloadN X0.here hx rfl (hb hby d10_19) rfl ?_
    exact kt
  obtain ⟨cl5, Ar5, -, S5, M5, H5, -⟩ := id V_o1
  have hin5 : ¬ ((0 : Int32) < 0 ∨ cl5.slots.size ≤ ((0 : Int32)).toNatClampNeg) := inb_of S5 ⟨by decide, by decide⟩
  have hat5 : cl5.slots[((0 : Int32)).toNatClampNeg]? = some (.int 45) := Has.at H5 hin5 rfl
  refine own_thr (a := s₁.setTop (mkF m 11 #[.val (.ref o0), .val (.ref o1), .val (.int 1)] [(.ref o0), (.int 1)])) (fun t kt => ?_) ?_
  · refine X0.baloadBytes hx (j := (0 : Int32)) (v := (.int 45)) (by rw [e0]; exact Ar5.1) (State.isArrayOf_alike hZ.alike Ar5.2.1) Ar5.2.2 hin5 hat5 (g := (mkF m 20 #[.val (.ref o0), .val (.ref o1), .val (.int 0)] [(.int 0), (.ref o1), (.int 45)])) rfl rfl (hb hby d10_20) _ ?_
    refine XS.icmpYes X0.here hx rfl (pc0 := 21) (pc' := 26) rfl (hb hby d10_21) rfl (teq rfl).1 (by decide) (by decide) ?_
    refine XS.iinc X0.here hx rfl (hb hby d10_26) rfl (l' := #[.val (.ref o0), .val (.ref o1), .val (.int 1)]) rfl ?_
    refine XS.goto X0.here hx rfl (pc0 := 29) (pc' := 9) rfl (hb hby d10_29) (by decide) (by decide) ?_
    refine XS.iloadN X0.here hx rfl (hb hby d10_9) rfl ?_
    refine XS.aloadN X0.here hx rfl (hb hby d10_10) rfl rfl ?_
    exact kt
  obtain ⟨cl6, Ar6, -, S6, M6, -, -⟩ := id V_o0
  refine own_thr (a := s₁.setTop (mkF m 17 #[.val (.ref o0), .val (.ref o1), .val (.int 1)] [(.int 1), (.ref o0)])) (fun t kt => ?_) ?_
  · refine X0.arraylength hx (by rw [e0]; exact Ar6.1) (State.isArrayOf_alike hZ.alike Ar6.2.1) (g := (mkF m 11 #[.val (.ref o0), .val (.ref o1), .val (.int 1)] [(.ref o0), (.int 1)])) rfl rfl (hb hby d10_11) _ ?_
    rw [len_of S6 M6]
    refine XS.icmpNo X0.here hx rfl (hb hby d10_12) rfl (tlt (by decide)).2.1 ?_
    refine XS.aloadN X0.here hx rfl (hb hby d10_15) rfl rfl ?_
    refine XS.iloadN X0.here hx rfl (hb hby d10_16) rfl ?_
    exact kt
  obtain ⟨cl7, Ar7, -, S7, M7, H7, -⟩ := id V_o0
  have hin7 : ¬ ((1 : Int32) < 0 ∨ cl7.slots.size ≤ ((1 : Int32)).toNatClampNeg) := inb_of S7 ⟨by decide, by decide⟩
  have hat7 : cl7.slots[((1 : Int32)).toNatClampNeg]? = some (.int 45) := Has.at H7 hin7 rfl
  refine own_thr (a := s₁.setTop (mkF m 20 #[.val (.ref o0), .val (.ref o1), .val (.int 1)] [(.int 1), (.ref o1), (.int 45)])) (fun t kt => ?_) ?_
  · refine X0.baloadBytes hx (j := (1 : Int32)) (v := (.int 45)) (by rw [e0]; exact Ar7.1) (State.isArrayOf_alike hZ.alike Ar7.2.1) Ar7.2.2 hin7 hat7 (g := (mkF m 17 #[.val (.ref o0), .val (.ref o1), .val (.int 1)] [(.int 1), (.ref o0)])) rfl rfl (hb hby d10_17) _ ?_
    refine XS.aloadN X0.here hx rfl (hb hby d10_18) rfl rfl ?_
    refine XS.iloadN X0.here hx rfl (hb hby d10_19) rfl ?_
    exact kt
  obtain ⟨cl8, Ar8, -, S8, M8, H8, -⟩ := id V_o1
  have hin8 : ¬ ((1 : Int32) < 0 ∨ cl8.slots.size ≤ ((1 : Int32)).toNatClampNeg) := inb_of S8 ⟨by decide, by decide⟩
  have hat8 : cl8.slots[((1 : Int32)).toNatClampNeg]? = some (.int 45) := Has.at H8 hin8 rfl
  refine own_thr (a := s₁.setTop (mkF m 11 #[.val (.ref o0), .val (.ref o1), .val (.int 2)] [(.ref o0), (.int 2)])) (fun t kt => ?_) ?_
  · refine X0.baloadBytes hx (j := (1 : Int32)) (v := (.int 45)) (by rw [e0]; exact Ar8.1) (State.isArrayOf_alike hZ.alike Ar8.2.1) Ar8.2.2 hin8 hat8 (g := (mkF m 20 #[.val (.ref o0), .val (.ref o1), .val (.int 1)] [(.int 1), (.ref o1), (.int 45)])) rfl rfl (hb hby d10_20) _ ?_
    refine XS.icmpYes X0.here hx rfl (pc0 := 21) (pc' := 26) rfl (hb hby d10_21) rfl (teq rfl).1 (by decide) (by decide) ?_
    refine XS.iinc X0.here hx rfl (hb hby d10_26) rfl (l' := #[.val (.ref o0), .val (.ref o1), .val (.int 2)]) rfl ?_
    refine XS.goto X0.here hx rfl (pc0 := 29) (pc' := 9) rfl (hb hby d10_29) (by decide) (by decide) ?_
    refine XS.iloadN X0.here hx rfl (hb hby d10_9) rfl ?_
    refine XS.aloadN X0.here hx rfl (hb hby d10_10) rfl rfl ?_
    exact kt
  obtain ⟨cl9, Ar9, -, S9, M9, -, -⟩ := id V_o0
  refine own_thr (a := s₁.setTop (mkF m 17 #[.val (.ref o0), .val (.ref o1), .val (.int 2)] [(.int 2), (.ref o0)])) (fun t kt => ?_) ?_
  · refine X0.arraylength hx (by rw [e0]; exact Ar9.1) (State.isArrayOf_alike hZ.alike Ar9.2.1) (g := (mkF m 11 #[.val (.ref o0), .val (.ref o1), .val (.int 2)] [(.ref o0), (.int 2)])) rfl rfl (hb hby d10_11) _ ?_
    rw [len_of S9 M9]
    refine XS.icmpNo X0.here hx rfl (hb hby d10_12) rfl (tlt (by decide)).2.1 ?_
    refine XS.aloadN X0.here hx rfl (hb hby d10_15) rfl rfl ?_
    refine XS.iloadN X0.here hx rfl (hb hby d10_16) rfl ?_
    exact kt
  obtain ⟨cl10, Ar10, -, S10, M10, H10, -⟩ := id V_o0
  have hin10 : ¬ ((2 : Int32) < 0 ∨ cl10.slots.size ≤ ((2 : Int32)).toNatClampNeg) := inb_of S10 ⟨by decide, by decide⟩
  have hat10 : cl10.slots[((2 : Int32)).toNatClampNeg]? = some (.int 113) := Has.at H10 hin10 rfl
  refine own_thr (a := s₁.setTop (mkF m 20 #[.val (.ref o0), .val (.ref o1), .val (.int 2)] [(.int 2), (.ref o1), (.int 113)])) (fun t kt => ?_) ?_
  · refine X0.baloadBytes hx (j := (2 : Int32)) (v := (.int 113)) (by rw [e0]; exact Ar10.1) (State.isArrayOf_alike hZ.alike Ar10.2.1) Ar10.2.2 hin10 hat10 (g := (mkF m 17 #[.val (.ref o0), .val (.ref o1), .val (.int 2)] [(.int 2), (.ref o0)])) rfl rfl (hb hby d10_17) _ ?_
    refine XS.aloadN X0.here hx rfl (hb hby d10_18) rfl rfl ?_
    refine XS.iloadN X0.here hx rfl (hb hby d10_19) rfl ?_
    exact kt
  obtain ⟨cl11, Ar11, -, S11, M11, H11, -⟩ := id V_o1
  have hin11 : ¬ ((2 : Int32) < 0 ∨ cl11.slots.size ≤ ((2 : Int32)).toNatClampNeg) := inb_of S11 ⟨by decide, by decide⟩
  have hat11 : cl11.slots[((2 : Int32)).toNatClampNeg]? = some (.int 113) := Has.at H11 hin11 rfl
  refine own_thr (a := s₁.setTop (mkF m 11 #[.val (.ref o0), .val (.ref o1), .val (.int 3)] [(.ref o0), (.int 3)])) (fun t kt => ?_) ?_
  · refine X0.baloadBytes hx (j := (2 : Int32)) (v := (.int 113)) (by rw [e0]; exact Ar11.1) (State.isArrayOf_alike hZ.alike Ar11.2.1) Ar11.2.2 hin11 hat11 (g := (mkF m 20 #[.val (.ref o0), .val (.ref o1), .val (.int 2)] [(.int 2), (.ref o1), (.int 113)])) rfl rfl (hb hby d10_20) _ ?_
    refine XS.icmpYes X0.here hx rfl (pc0 := 21) (pc' := 26) rfl (hb hby d10_21) rfl (teq rfl).1 (by decide) (by decide) ?_
    refine XS.iinc X0.here hx rfl (hb hby d10_26) rfl (l' := #[.val (.ref o0), .val (.ref o1), .val (.int 3)]) rfl ?_
    refine XS.goto X0.here hx rfl (pc0 := 29) (pc' := 9) rfl (hb hby d10_29) (by decide) (by decide) ?_
    refine XS.iloadN X0.here hx rfl (hb hby d10_9) rfl ?_
    refine XS.aloadN X0.here hx rfl (hb hby d10_10) rfl rfl ?_
    exact kt
  obtain ⟨cl12, Ar12, -, S12, M12, -, -⟩ := id V_o0
  refine own_thr (a := s₁.setTop (mkF m 17 #[.val (.ref o0), .val (.ref o1), .val (.int 3)] [(.int 3), (.ref o0)])) (fun t kt => ?_) ?_
  · refine X0.arraylength hx (by rw [e0]; exact Ar12.1) (State.isArrayOf_alike hZ.alike Ar12.2.1) (g := (mkF m 11 #[.val (.ref o0), .val (.ref o1), .val (.int 3)] [(.ref o0), (.int 3)])) rfl rfl (hb hby d10_11) _ ?_
    rw [len_of S12 M12]
    refine XS.icmpNo X0.here hx rfl (hb hby d10_12) rfl (tlt (by decide)).2.1 ?_
    refine XS.aloadN X0.here hx rfl (hb hby d10_15) rfl rfl ?_
    refine XS.iloadN X0.here hx rfl (hb hby d10_16) rfl ?_
    exact kt
  obtain ⟨cl13, Ar13, -, S13, M13, H13, -⟩ := id V_o0
  have hin13 : ¬ ((3 : Int32) < 0 ∨ cl13.slots.size ≤ ((3 : Int32)).toNatClampNeg) := inb_of S13 ⟨by decide, by decide⟩
  have hat13 : cl13.slots[((3 : Int32)).toNatClampNeg]? = some (.int 117) := Has.at H13 hin13 rfl
  refine own_thr (a := s₁.setTop (mkF m 20 #[.val (.ref o0), .val (.ref o1), .val (.int 3)] [(.int 3), (.ref o1), (.int 117)])) (fun t kt => ?_) ?_
  · refine X0.baloadBytes hx (j := (3 : Int32)) (v := (.int 117)) (by rw [e0]; exact Ar13.1) (State.isArrayOf_alike hZ.alike Ar13.2.1) Ar13.2.2 hin13 hat13 (g := (mkF m 17 #[.val (.ref o0), .val (.ref o1), .val (.int 3)] [(.int 3), (.ref o0)])) rfl rfl (hb hby d10_17) _ ?_
    refine XS.aloadN X0.here hx rfl (hb hby d10_18) rfl rfl ?_
    refine XS.iloadN X0.here hx rfl (hb hby d10_19) rfl ?_
    exact kt
  obtain ⟨cl14, Ar14, -, S14, M14, H14, -⟩ := id V_o1
  have hin14 : ¬ ((3 : Int32) < 0 ∨ cl14.slots.size ≤ ((3 : Int32)).toNatClampNeg) := inb_of S14 ⟨by decide, by decide⟩
  have hat14 : cl14.slots[((3 : Int32)).toNatClampNeg]? = some (.int 117) := Has.at H14 hin14 rfl
  refine own_thr (a := s₁.setTop (mkF m 11 #[.val (.ref o0), .val (.ref o1), .val (.int 4)] [(.ref o0), (.int 4)])) (fun t kt => ?_) ?_
  · refine X0.baloadBytes hx (j := (3 : Int32)) (v := (.int 117)) (by rw [e0]; exact Ar14.1) (State.isArrayOf_alike hZ.alike Ar14.2.1) Ar14.2.2 hin14 hat14 (g := (mkF m 20 #[.val (.ref o0), .val (.ref o1), .val (.int 3)] [(.int 3), (.ref o1), (.int 117)])) rfl rfl (hb hby d10_20) _ ?_
    refine XS.icmpYes X0.here hx rfl (pc0 := 21) (pc' := 26) rfl (hb hby d10_21) rfl (teq rfl).1 (by decide) (by decide) ?_
    refine XS.iinc X0.here hx rfl (hb hby d10_26) rfl (l' := #[.val (.ref o0), .val (.ref o1), .val (.int 4)]) rfl ?_
    refine XS.goto X0.here hx rfl (pc0 := 29) (pc' := 9) rfl (hb hby d10_29) (by decide) (by decide) ?_
    refine XS.iloadN X0.here hx rfl (hb hby d10_9) rfl ?_
    refine XS.aloadN X0.here hx rfl (hb hby d10_10) rfl rfl ?_
    exact kt
  obtain ⟨cl15, Ar15, -, S15, M15, -, -⟩ := id V_o0
  refine own_thr (a := s₁.setTop (mkF m 17 #[.val (.ref o0), .val (.ref o1), .val (.int 4)] [(.int 4), (.ref o0)])) (fun t kt => ?_) ?_
  · refine X0.arraylength hx (by rw [e0]; exact Ar15.1) (State.isArrayOf_alike hZ.alike Ar15.2.1) (g := (mkF m 11 #[.val (.ref o0), .val (.ref o1), .val (.int 4)] [(.ref o0), (.int 4)])) rfl rfl (hb hby d10_11) _ ?_
    rw [len_of S15 M15]
    refine XS.icmpNo X0.here hx rfl (hb hby d10_12) rfl (tlt (by decide)).2.1 ?_
    refine XS.aloadN X0.here hx rfl (hb hby d10_15) rfl rfl ?_
    refine XS.iloadN X0.here hx rfl (hb hby d10_16) rfl ?_
    exact kt
  obtain ⟨cl16, Ar16, -, S16, M16, H16, -⟩ := id V_o0
  have hin16 : ¬ ((4 : Int32) < 0 ∨ cl16.slots.size ≤ ((4 : Int32)).toNatClampNeg) := inb_of S16 ⟨by decide, by decide⟩
  have hat16 : cl16.slots[((4 : Int32)).toNatClampNeg]? = some (.int 101) := Has.at H16 hin16 rfl
  refine own_thr (a := s₁.setTop (mkF m 20 #[.val (.ref o0), .val (.ref o1), .val (.int 4)] [(.int 4), (.ref o1), (.int 101)])) (fun t kt => ?_) ?_
  · refine X0.baloadBytes hx (j := (4 : Int32)) (v := (.int 101)) (by rw [e0]; exact Ar16.1) (State.isArrayOf_alike hZ.alike Ar16.2.1) Ar16.2.2 hin16 hat16 (g := (mkF m 17 #[.val (.ref o0), .val (.ref o1), .val (.int 4)] [(.int 4), (.ref o0)])) rfl rfl (hb hby d10_17) _ ?_
    refine XS.aloadN X0.here hx rfl (hb hby d10_18) rfl rfl ?_
    refine XS.iloadN X0.here hx rfl (hb hby d10_19) rfl ?_
    exact kt
  obtain ⟨cl17, Ar17, -, S17, M17, H17, -⟩ := id V_o1
  have hin17 : ¬ ((4 : Int32) < 0 ∨ cl17.slots.size ≤ ((4 : Int32)).toNatClampNeg) := inb_of S17 ⟨by decide, by decide⟩
  have hat17 : cl17.slots[((4 : Int32)).toNatClampNeg]? = some (.int 101) := Has.at H17 hin17 rfl
  refine own_thr (a := s₁.setTop (mkF m 11 #[.val (.ref o0), .val (.ref o1), .val (.int 5)] [(.ref o0), (.int 5)])) (fun t kt => ?_) ?_
  · refine X0.baloadBytes hx (j := (4 : Int32)) (v := (.int 101)) (by rw [e0]; exact Ar17.1) (State.isArrayOf_alike hZ.alike Ar17.2.1) Ar17.2.2 hin17 hat17 (g := (mkF m 20 #[.val (.ref o0), .val (.ref o1), .val (.int 4)] [(.int 4), (.ref o1), (.int 101)])) rfl rfl (hb hby d10_20) _ ?_
    refine XS.icmpYes X0.here hx rfl (pc0 := 21) (pc' := 26) rfl (hb hby d10_21) rfl (teq rfl).1 (by decide) (by decide) ?_
    refine XS.iinc X0.here hx rfl (hb hby d10_26) rfl (l' := #[.val (.ref o0), .val (.ref o1), .val (.int 5)]) rfl ?_
    refine XS.goto X0.here hx rfl (pc0 := 29) (pc' := 9) rfl (hb hby d10_29) (by decide) (by decide) ?_
    refine XS.iloadN X0.here hx rfl (hb hby d10_9) rfl ?_
    refine XS.aloadN X0.here hx rfl (hb hby d10_10) rfl rfl ?_
    exact kt
  obtain ⟨cl18, Ar18, -, S18, M18, -, -⟩ := id V_o0
  refine own_thr (a := s₁.setTop (mkF m 17 #[.val (.ref o0), .val (.ref o1), .val (.int 5)] [(.int 5), (.ref o0)])) (fun t kt => ?_) ?_
  · refine X0.arraylength hx (by rw [e0]; exact Ar18.1) (State.isArrayOf_alike hZ.alike Ar18.2.1) (g := (mkF m 11 #[.val (.ref o0), .val (.ref o1), .val (.int 5)] [(.ref o0), (.int 5)])) rfl rfl (hb hby d10_11) _ ?_
    rw [len_of S18 M18]
    refine XS.icmpNo X0.here hx rfl (hb hby d10_12) rfl (tlt (by decide)).2.1 ?_
    refine XS.aloadN X0.here hx rfl (hb hby d10_15) rfl rfl ?_
    refine XS.iloadN X0.here hx rfl (hb hby d10_16) rfl ?_
    exact kt
  obtain ⟨cl19, Ar19, -, S19, M19, H19, -⟩ := id V_o0
  have hin19 : ¬ ((5 : Int32) < 0 ∨ cl19.slots.size ≤ ((5 : Int32)).toNatClampNeg) := inb_of S19 ⟨by decide, by decide⟩
  have hat19 : cl19.slots[((5 : Int32)).toNatClampNeg]? = some (.int 117) := Has.at H19 hin19 rfl
  refine own_thr (a := s₁.setTop (mkF m 20 #[.val (.ref o0), .val (.ref o1), .val (.int 5)] [(.int 5), (.ref o1), (.int 117)])) (fun t kt => ?_) ?_
  · refine X0.baloadBytes hx (j := (5 : Int32)) (v := (.int 117)) (by rw [e0]; exact Ar19.1) (State.isArrayOf_alike hZ.alike Ar19.2.1) Ar19.2.2 hin19 hat19 (g := (mkF m 17 #[.val (.ref o0), .val (.ref o1), .val (.int 5)] [(.int 5), (.ref o0)])) rfl rfl (hb hby d10_17) _ ?_
    refine XS.aloadN X0.here hx rfl (hb hby d10_18) rfl rfl ?_
    refine XS.iloadN X0.here hx rfl (hb hby d10_19) rfl ?_
    exact kt
  obtain ⟨cl20, Ar20, -, S20, M20, H20, -⟩ := id V_o1
  have hin20 : ¬ ((5 : Int32) < 0 ∨ cl20.slots.size ≤ ((5 : Int32)).toNatClampNeg) := inb_of S20 ⟨by decide, by decide⟩
  have hat20 : cl20.slots[((5 : Int32)).toNatClampNeg]? = some (.int 117) := Has.at H20 hin20 rfl
  refine own_thr (a := s₁.setTop (mkF m 11 #[.val (.ref o0), .val (.ref o1), .val (.int 6)] [(.ref o0), (.int 6)])) (fun t kt => ?_) ?_
  · refine X0.baloadBytes hx (j := (5 : Int32)) (v := (.int 117)) (by rw [e0]; exact Ar20.1) (State.isArrayOf_alike hZ.alike Ar20.2.1) Ar20.2.2 hin20 hat20 (g := (mkF m 20 #[.val (.ref o0), .val (.ref o1), .val (.int 5)] [(.int 5), (.ref o1), (.int 117)])) rfl rfl (hb hby d10_20) _ ?_
    refine XS.icmpYes X0.here hx rfl (pc0 := 21) (pc' := 26) rfl (hb hby d10_21) rfl (teq rfl).1 (by decide) (by decide) ?_
    refine XS.iinc X0.here hx rfl (hb hby d10_26) rfl (l' := #[.val (.ref o0), .val (.ref o1), .val (.int 6)]) rfl ?_
    refine XS.goto X0.here hx rfl (pc0 := 29) (pc' := 9) rfl (hb hby d10_29) (by decide) (by decide) ?_
    refine XS.iloadN X0.here hx rfl (hb hby d10_9) rfl ?_
    refine XS.aloadN X0.here hx rfl (hb hby d10_10) rfl rfl ?_
    exact kt
  obtain ⟨cl21, Ar21, -, S21, M21, -, -⟩ := id V_o0
  refine own_thr (a := s₁.setTop (mkF m 17 #[.val (.ref o0), .val (.ref o1), .val (.int 6)] [(.int 6), (.ref o0)])) (fun t kt => ?_) ?_
  · refine X0.arraylength hx (by rw [e0]; exact Ar21.1) (State.isArrayOf_alike hZ.alike Ar21.2.1) (g := (mkF m 11 #[.val (.ref o0), .val (.ref o1), .val (.int 6)] [(.ref o0), (.int 6)])) rfl rfl (hb hby d10_11) _ ?_
    rw [len_of S21 M21]
    refine XS.icmpNo X0.here hx rfl (hb hby d10_12) rfl (tlt (by decide)).2.1 ?_
    refine XS.aloadN X0.here hx rfl (hb hby d10_15) rfl rfl ?_
    refine XS.iloadN X0.here hx rfl (hb hby d10_16) rfl ?_
    exact kt
  obtain ⟨cl22, Ar22, -, S22, M22, H22, -⟩ := id V_o0
  have hin22 : ¬ ((6 : Int32) < 0 ∨ cl22.slots.size ≤ ((6 : Int32)).toNatClampNeg) := inb_of S22 ⟨by decide, by decide⟩
  have hat22 : cl22.slots[((6 : Int32)).toNatClampNeg]? = some (.int 101) := Has.at H22 hin22 rfl
  refine own_thr (a := s₁.setTop (mkF m 20 #[.val (.ref o0), .val (.ref o1), .val (.int 6)] [(.int 6), (.ref o1), (.int 101)])) (fun t kt => ?_) ?_
  · refine X0.baloadBytes hx (j := (6 : Int32)) (v := (.int 101)) (by rw [e0]; exact Ar22.1) (State.isArrayOf_alike hZ.alike Ar22.2.1) Ar22.2.2 hin22 hat22 (g := (mkF m 17 #[.val (.ref o0), .val (.ref o1), .val (.int 6)] [(.int 6), (.ref o0)])) rfl rfl (hb hby d10_17) _ ?_
    refine XS.aloadN X0.here hx rfl (hb hby d10_18) rfl rfl ?_
    refine XS.iloadN X0.here hx rfl (hb hby d10_19) rfl ?_
    exact kt
  obtain ⟨cl23, Ar23, -, S23, M23, H23, -⟩ := id V_o1
  have hin23 : ¬ ((6 : Int32) < 0 ∨ cl23.slots.size ≤ ((6 : Int32)).toNatClampNeg) := inb_of S23 ⟨by decide, by decide⟩
  have hat23 : cl23.slots[((6 : Int32)).toNatClampNeg]? = some (.int 101) := Has.at H23 hin23 rfl
  refine own_thr (a := s₁.setTop (mkF m 11 #[.val (.ref o0), .val (.ref o1), .val (.int 7)] [(.ref o0), (.int 7)])) (fun t kt => ?_) ?_
  · refine X0.baloadBytes hx (j := (6 : Int32)) (v := (.int 101)) (by rw [e0]; exact Ar23.1) (State.isArrayOf_alike hZ.alike Ar23.2.1) Ar23.2.2 hin23 hat23 (g := (mkF m 20 #[.val (.ref o0), .val (.ref o1), .val (.int 6)] [(.int 6), (.ref o1), (.int 101)])) rfl rfl (hb hby d10_20) _ ?_
    refine XS.icmpYes X0.here hx rfl (pc0 := 21) (pc' := 26) rfl (hb hby d10_21) rfl (teq rfl).1 (by decide) (by decide) ?_
    refine XS.iinc X0.here hx rfl (hb hby d10_26) rfl (l' := #[.val (.ref o0), .val (.ref o1), .val (.int 7)]) rfl ?_
    refine XS.goto X0.here hx rfl (pc0 := 29) (pc' := 9) rfl (hb hby d10_29) (by decide) (by decide) ?_
    refine XS.iloadN X0.here hx rfl (hb hby d10_9) rfl ?_
    refine XS.aloadN X0.here hx rfl (hb hby d10_10) rfl rfl ?_
    exact kt
  obtain ⟨cl24, Ar24, -, S24, M24, -, -⟩ := id V_o0
  refine own_thr (a := s₁.setTop (mkF m 33 #[.val (.ref o0), .val (.ref o1), .val (.int 7)] [(.int 1)])) (fun t kt => ?_) ?_
  · refine X0.arraylength hx (by rw [e0]; exact Ar24.1) (State.isArrayOf_alike hZ.alike Ar24.2.1) (g := (mkF m 11 #[.val (.ref o0), .val (.ref o1), .val (.int 7)] [(.ref o0), (.int 7)])) rfl rfl (hb hby d10_11) _ ?_
    rw [len_of S24 M24]
    refine XS.icmpYes X0.here hx rfl (pc0 := 12) (pc' := 32) rfl (hb hby d10_12) rfl (flt (by decide)).2.1 (by decide) (by decide) ?_
    refine XS.iconst X0.here hx rfl (hb hby d10_32) ?_
    exact kt
  exact own_end X0 hlk (v := some (.int 1)) (fun h => by rw [Bd.returns] at h; cases h) (fun fs hr => retN X0 hx (t := .boolean) Bd.returns (by simp) (hb hby d10_33) hr) (by rw [e0]; exact ⟨rfl, N0, rfl⟩) (by decide : 0 ≤ _) (by decide : 0 ≤ _)
theorem ef_rmEQH7 (m : MethodId) (o0 : Addr) (o1 : Addr)  : entryFrame m #[(.ref o0), (.ref o1)] 3 = mkF m 0 #[.val (.ref o0), .val (.ref o1), .unset] [] := by first |  (simp [entryFrame, mkF, argsToLocals, Value.category]; done) | rfl
def Q_rmEQH7 (Z : State) (o0 : Addr) (o1 : Addr) (v0 : Addr) (v1 : Addr) (k0 : ClassId) (k1 : ClassId) (cs : Int32) (h0 : Heap) (n0 : Nat) (v : Option Value) (h : Heap) (L : List Loc) : Prop := v = some (.int 1) ∧ Fr n0 L ∧ h = h0
set_option maxRecDepth 65536 in
set_option maxHeartbeats 40000000 in
theorem rmEQH7 (l : Launch) (Z : State) (a0 : Array Value) (hw : ∀ d ∈ tables_1, d.before a0 Z = true) (ws : List Jvm.Cond) (o0 : Addr) (o1 : Addr) (v0 : Addr) (v1 : Addr) (k0 : ClassId) (k1 : ClassId) (cs : Int32) (h0 : Heap) (n0 : Nat) (Z0 : n0 ≤ h0.size) (E_o0 : Exa Z h0 o0 "java/lang/String") (F_value_o0 : Fld Z h0 o0 "java/lang/String" "value" "[B" (.ref v0)) (F_coder_o0 : Fld Z h0 o0 "java/lang/String" "coder" "B" (.int 0)) (E_o1 : Exa Z h0 o1 "java/lang/String") (F_value_o1 : Fld Z h0 o1 "java/lang/String" "value" "[B" (.ref v1)) (F_coder_o1 : Fld Z h0 o1 "java/lang/String" "coder" "B" (.int 0)) (V_v0 : Arv Z h0 v0 k0 .byte (7 : Int32) [(.int 45), (.int 45), (.int 113), (.int 117), (.int 101), (.int 117), (.int 101)] (.int 0)) (V_v1 : Arv Z h0 v1 k1 .byte (7 : Int32) [(.int 45), (.int 45), (.int 113), (.int 117), (.int 101), (.int 117), (.int 101)] (.int 0)) (S_COMPACT_STRINGS : Sta Z h0 "java/lang/String" "COMPACT_STRINGS" "Z" (.int cs)) (hcs : ¬ cs = (0 : Int32)) :
    MetFree l (⟨"java/lang/String", "equals", "(Ljava/lang/Object;)Z"⟩ : MethodName) (head1 (Jvm.Cond.code (⟨"java/lang/String", "equals", "(Ljava/lang/Object;)Z"⟩ : MethodName) jdk_42_method_66_code 3 (some .boolean) :: ws) ({ frames := 1, cells := 0, slots := 0, locals := 14 } : Room)) (fun a U => a = #[(.ref o0), (.ref o1)] ∧ Z.Warmed39 U.vm ∧ U.heap = h0) (fun _ _ _ _ _ => True) (fun _ U o U' => ∃ v L, o = .returned v ∧ Q_rmEQH7 Z o0 o1 v0 v1 k0 k1 cs h0 n0 v U'.heap L ∧ FrameEnd U o U' L ({ frames := 1, cells := 0, slots := 0, locals := 14 } : Room).cells ({ frames := 1, cells := 0, slots := 0, locals := 14 } : Room).slots) := by
  refine MetFree.of_bodySF (plainFor_of_name pn_java_lang_String) hisR ?_
  intro p e s m args below meth c s₁ Bd hml0 hP hK
  obtain ⟨rfl, hZ, hh⟩ := hP
  have hx := Bd.exec
  have hby := Bd.bytes
  have hml : c.maxLocals = 3 := hml0
  have hown : s.vm.findClass "java/lang/String" = some m.cls := findClass_of_methodNamed Bd.named
  have hnm := (name_of_methodNamed Bd.named Bd.method).1
  have hlk := Bd.notSynchronized
  have X0 : Stand p l e ({ frames := 1, cells := 0, slots := 0, locals := 14 } : Room) s m #[(.ref o0), (.ref o1)] below meth c s₁ [] 0 0 := Stand.of_body Bd
  have e0 : s₁.heap = h0 := by rw [← hh, Bd.state]; rfl
  have N0 := Fr.nil n0
  show own_G p.tables e below s (Q_rmEQH7 Z o0 o1 v0 v1 k0 k1 cs h0 n0) ({ frames := 1, cells := 0, slots := 0, locals := 14 } : Room).cells ({ frames := 1, cells := 0, slots := 0, locals := 14 } : Room).slots _
  refine own_thr (a := s₁.setTop (mkF m 0 #[.val (.ref o0), .val (.ref o1), .unset] [])) (fun t kt => castTop (ef_rmEQH7 m o0 o1) kt) ?_
  refine own_thr (a := s₁.setTop (mkF m 2 #[.val (.ref o0), .val (.ref o1), .unset] [(.ref o1), (.ref o0)])) (fun t kt => ?_) ?_
  · refine XS.aloadN X0.here hx rfl (hb hby d9_0) rfl rfl ?_
    refine XS.aloadN X0.here hx rfl (hb hby d9_1) rfl rfl ?_
    exact kt
  by_cases hc1 : ((.ref o0) : Value) = (.ref o1)
  · refine own_thr (a := s₁.setTop (mkF m 6 #[.val (.ref o0), .val (.ref o1), .unset] [(.int 1)])) (fun t kt => ?_) ?_
    · refine Jvm.RoadKit.acmp (g := (mkF m 2 #[.val (.ref o0), .val (.ref o1), .unset] [(.ref o1), (.ref o0)])) X0 hx rfl rfl rfl (pc0 := 2) (pc' := 5) (same := true) rfl (hb hby d9_2) rfl (decide_eq_true hc1) (by decide) (by decide) ?_
      refine XS.iconst X0.here hx rfl (hb hby d9_5) ?_
      exact kt
    exact own_end X0 hlk (v := some (.int 1)) (fun h => by rw [Bd.returns] at h; cases h) (fun fs hr => retN X0 hx (t := .boolean) Bd.returns (by simp) (hb hby d9_6) hr) (by rw [e0]; exact ⟨rfl, N0, rfl⟩) (by decide : 0 ≤ _) (by decide : 0 ≤ _)
  · refine own_thr (a := s₁.setTop (mkF m 8 #[.val (.ref o0), .val (.ref o1), .unset] [(.ref o1)])) (fun t kt => ?_) ?_
    · refine Jvm.RoadKit.acmp (g := (mkF m 2 #[.val (.ref o0), .val (.ref o1), .unset] [(.ref o1), (.ref o0)])) X0 hx rfl rfl rfl (pc0 := 2) (pc' := 7) (same := false) rfl (hb hby d9_2) rfl (decide_eq_false hc1) (by decide) (by decide) ?_
      refine XS.aloadN X0.here hx rfl (hb hby d9_7) rfl rfl ?_
      exact kt
    obtain ⟨T2, X2, e2, st2⟩ := instY X0 hx hZ hown (hw _ (own_i 58 rfl)) e0 (Ins.self E_o1) (g := (mkF m 8 #[.val (.ref o0), .val (.ref o1), .unset] [(.ref o1)])) rfl rfl (hb hby d9_8)
    refine own_thr (a := T2.setTop (mkF m 11 #[.val (.ref o0), .val (.ref o1), .unset] [(.int 1)])) (fun t kt => st2 t kt) ?_
    refine own_thr (a := T2.setTop (mkF m 15 #[.val (.ref o0), .val (.ref o1), .unset] [(.ref o1)])) (fun t kt => ?_) ?_
    · refine XS.ifNo X2.here hx rfl (hb hby d9_11) rfl ((if0 _ _).trans (feq (by decide)).1) ?_
      refine XS.aloadN X2.here hx rfl (hb hby d9_14) rfl rfl ?_
      exact kt
    obtain ⟨T3, X3, e3, st3⟩ := castY X2 hx hZ hown (hw _ (own_i 58 rfl)) e2 (Ins.self E_o1) (g := (mkF m 15 #[.val (.ref o0), .val (.ref o1), .unset] [(.ref o1)])) rfl rfl (hb hby d9_15)
    refine own_thr (a := T3.setTop (mkF m 18 #[.val (.ref o0), .val (.ref o1), .unset] [(.ref o1)])) (fun t kt => st3 t kt) ?_
    refine own_thr (a := T3.setTop (mkF m 19 #[.val (.ref o0), .val (.ref o1), .val (.ref o1)] [])) (fun t kt => ?_) ?_
    · refine XS.astoreN X3.here hx rfl (hb hby d9_18) rfl rfl (l' := #[.val (.ref o0), .val (.ref o1), .val (.ref o1)]) rfl ?_
      exact kt
    obtain ⟨T4, X4, e4, st4⟩ := getS2 X3 hx hZ hown (host := "") (Or.inl (hw _ (own_i 14 rfl))) Via.refl e3 S_COMPACT_STRINGS (g := (mkF m 19 #[.val (.ref o0), .val (.ref o1), .val (.ref o1)] [])) rfl (hb hby d9_19)
    refine own_thr (a := T4.setTop (mkF m 22 #[.val (.ref o0), .val (.ref o1), .val (.ref o1)] [(.int cs)])) (fun t kt => st4 t kt) ?_
    refine own_thr (a := T4.setTop (mkF m 26 #[.val (.ref o0), .val (.ref o1), .val (.ref o1)] [(.ref o0)])) (fun t kt => ?_) ?_
    · refine XS.ifNo X4.here hx rfl (hb hby d9_22) rfl ((if0 _ _).trans (feq hcs).1) ?_
      refine XS.aloadN X4.here hx rfl (hb hby d9_25) rfl rfl ?_
      exact kt
    obtain ⟨T5, X5, e5, st5⟩ := getF X4 hx hZ hown (host := "") (Or.inl (hw _ (own_i 26 rfl))) Via.refl e4 F_coder_o0 (g := (mkF m 26 #[.val (.ref o0), .val (.ref o1), .val (.ref o1)] [(.ref o0)])) rfl rfl (hb hby d9_26)
    refine own_thr (a := T5.setTop (mkF m 29 #[.val (.ref o0), .val (.ref o1), .val (.ref o1)] [(.int 0)])) (fun t kt => st5 t kt) ?_
    refine own_thr (a := T5.setTop (mkF m 30 #[.val (.ref o0), .val (.ref o1), .val (.ref o1)] [(.ref o1), (.int 0)])) (fun t kt => ?_) ?_
    · refine XS.aloadN X5.here hx rfl (hb hby d9_29) rfl rfl ?_
      exact kt
    obtain ⟨T6, X6, e6, st6⟩ := getF X5 hx hZ hown (host := "") (Or.inl (hw _ (own_i 26 rfl))) Via.refl e5 F_coder_o1 (g := (mkF m 30 #[.val (.ref o0), .val (.ref o1), .val (.ref o1)] [(.ref o1), (.int 0)])) rfl rfl (hb hby d9_30)
    refine own_thr (a := T6.setTop (mkF m 33 #[.val (.ref o0), .val (.ref o1), .val (.ref o1)] [(.int 0), (.int 0)])) (fun t kt => st6 t kt) ?_
    refine own_thr (a := T6.setTop (mkF m 37 #[.val (.ref o0), .val (.ref o1), .val (.ref o1)] [(.ref o0)])) (fun t kt => ?_) ?_
    · refine XS.icmpNo X6.here hx rfl (hb hby d9_33) rfl (teq rfl).2 ?_
      refine XS.aloadN X6.here hx rfl (hb hby d9_36) rfl rfl ?_
      exact kt
    obtain ⟨T7, X7, e7, st7⟩ := getF X6 hx hZ hown (host := "") (Or.inl (hw _ (own_i 28 rfl))) Via.refl e6 F_value_o0 (g := (mkF m 37 #[.val (.ref o0), .val (.ref o1), .val (.ref o1)] [(.ref o0)])) rfl rfl (hb hby d9_37)
    refine own_thr (a := T7.setTop (mkF m 40 #[.val (.ref o0), .val (.ref o1), .val (.ref o1)] [(.ref v0)])) (fun t kt => st7 t kt) ?_
    refine own_thr (a := T7.setTop (mkF m 41 #[.val (.ref o0), .val (.ref o1), .val (.ref o1)] [(.ref o1), (.ref v0)])) (fun t kt => ?_) ?_
    · refine XS.aloadN X7.here hx rfl (hb hby d9_40) rfl rfl ?_
      exact kt
    obtain ⟨T8, X8, e8, st8⟩ := getF X7 hx hZ hown (host := "") (Or.inl (hw _ (own_i 28 rfl))) Via.refl e7 F_value_o1 (g := (mkF m 41 #[.val (.ref o0), .val (.ref o1), .val (.ref o1)] [(.ref o1), (.ref v0)])) rfl rfl (hb hby d9_41)
    refine own_thr (a := T8.setTop (mkF m 44 #[.val (.ref o0), .val (.ref o1), .val (.ref o1)] [(.ref v1), (.ref v0)])) (fun t kt => st8 t kt) ?_
    obtain ⟨_, _, ⟨T9, L9, k9, n9⟩, -, X9, ⟨Lc9, hQ9, l9, y9, z9⟩, st9⟩ := Jvm.LawKit.callS X8 hx (y := (⟨"java/lang/StringLatin1", "equals", "([B[B)Z"⟩ : MethodName)) hown (mvT hZ (hw _ (own_i 59 rfl))) (mvT hZ (hw _ (own_i 60 rfl))) (mvT hZ (hw _ (own_i 61 rfl))) (mvT hZ (hw _ (own_i 62 rfl))) (by decide) (backOf (W := 0) (rmLEH7 l Z a0 hw [] v0 v1 k0 k1 h0 n0 Z0 V_v0 V_v1) hZ (hw _ (own_i 62 rfl)) (hw _ (own_i 61 rfl)) (by decide) (by decide)) (g := (mkF m 44 #[.val (.ref o0), .val (.ref o1), .val (.ref o1)] [(.ref v1), (.ref v0)])) rfl (by rw [hml]; rfl) (argsL := [(.ref v0), (.ref v1)]) (rest := []) (lenOf pd__28_5bB_5bB_29Z rfl) rfl (by show 2 * 0 + _ ≤ _; exact Nat.le_of_eq rfl) (hb hby d9_44) (fun _ _ => ⟨rfl, e8, (by decide : 0 + 0 ≤ _), (by decide : 0 + 0 ≤ _)⟩)
    dsimp only [Pt.U, Pt.locs, Pt.cells, Pt.slots] at X9 l9 y9 z9 st9 hQ9
    obtain ⟨rfl, N9q, e9⟩ := hQ9
    obtain ⟨lc9, X9, N9⟩ := own_pack X9 l9 y9 z9 N0 N9q (C := 0) (S' := 0) rfl rfl
    refine own_thr (a := T9.setTop (mkF m 47 #[.val (.ref o0), .val (.ref o1), .val (.ref o1)] [(.int 1)])) (fun t kt => st9 t kt) ?_
    refine own_thr (a := T9.setTop (mkF m 55 #[.val (.ref o0), .val (.ref o1), .val (.ref o1)] [(.int 1)])) (fun t kt => ?_) ?_
    · refine XS.ifNo X9.here hx rfl (hb hby d9_47) rfl ((if0 _ _).trans (feq (by decide)).1) ?_
      refine XS.iconst X9.here hx rfl (hb hby d9_50) ?_
      refine XS.goto X9.here hx rfl (pc0 := 51) (pc' := 55) rfl (hb hby d9_51) (by decide) (by decide) ?_
      exact kt
    exact own_end X9 hlk (v := some (.int 1)) (fun h => by rw [Bd.returns] at h; cases h) (fun fs hr => retN X9 hx (t := .boolean) Bd.returns (by simp) (hb hby d9_55) hr) (by rw [e9]; exact ⟨rfl, N9, rfl⟩) (by decide : 0 ≤ _) (by decide : 0 ≤ _)
theorem ef_rmLEM7 (m : MethodId) (o0 : Addr) (o1 : Addr)  : entryFrame m #[(.ref o0), (.ref o1)] 3 = mkF m 0 #[.val (.ref o0), .val (.ref o1), .unset] [] := by first |  (simp [entryFrame, mkF, argsToLocals, Value.category]; done) | rfl
def Q_rmLEM7 (Z : State) (o0 : Addr) (o1 : Addr) (x0 : Int32) (x1 : Int32) (x2 : Int32) (x3 : Int32) (x4 : Int32) (x5 : Int32) (x6 : Int32) (y0 : Int32) (y1 : Int32) (y2 : Int32) (y3 : Int32) (y4 : Int32) (y5 : Int32) (y6 : Int32) (k0 : ClassId) (k1 : ClassId) (h0 : Heap) (n0 : Nat) (v : Option Value) (h : Heap) (L : List Loc) : Prop := v = some (.int 0) ∧ Fr n0 L ∧ h = h0
set_option maxRecDepth 65536 in
set_option maxHeartbeats 40000000 in
theorem rmLEM7 (l : Launch) (Z : State) (a0 : Array Value) (hw : ∀ d ∈ tables_1, d.before a0 Z = true) (ws : List Jvm.Cond) (o0 : Addr) (o1 : Addr) (x0 : Int32) (x1 : Int32) (x2 : Int32) (x3 : Int32) (x4 : Int32) (x5 : Int32) (x6 : Int32) (y0 : Int32) (y1 : Int32) (y2 : Int32) (y3 : Int32) (y4 : Int32) (y5 : Int32) (y6 : Int32) (k0 : ClassId) (k1 : ClassId) (h0 : Heap) (n0 : Nat) (Z0 : n0 ≤ h0.size) (V_o0 : Arv Z h0 o0 k0 .byte (7 : Int32) [(.int x0), (.int x1), (.int x2), (.int x3), (.int x4), (.int x5), (.int x6)] (.int 0)) (V_o1 : Arv Z h0 o1 k1 .byte (7 : Int32) [(.int y0), (.int y1), (.int y2), (.int y3), (.int y4), (.int y5), (.int y6)] (.int 0)) (hm : ¬ (x0 = y0 ∧ x1 = y1 ∧ x2 = y2 ∧ x3 = y3 ∧ x4 = y4 ∧ x5 = y5 ∧ x6 = y6)) :
    MetFree l (⟨"java/lang/StringLatin1", "equals", "([B[B)Z"⟩ : MethodName) (head1 (Jvm.Cond.code (⟨"java/lang/StringLatin1", "equals", "([B[B)Z"⟩ : MethodName) jdk_43_method_13_code 3 (some .boolean) :: ws) ({ frames := 0, cells := 0, slots := 0, locals := 0 } : Room)) (fun a U => a = #[(.ref o0), (.ref o1)] ∧ Z.Warmed39 U.vm ∧ U.heap = h0) (fun _ _ _ _ _ => True) (fun _ U o U' => ∃ v L, o = .returned v ∧ Q_rmLEM7 Z o0 o1 x0 x1 x2 x3 x4 x5 x6 y0 y1 y2 y3 y4 y5 y6 k0 k1 h0 n0 v U'.heap L ∧ FrameEnd U o U' L ({ frames := 0, cells := 0, slots := 0, locals := 0 } : Room).cells ({ frames := 0, cells := 0, slots := 0, locals := 0 } : Room).slots) := by
  refine MetFree.of_bodySF (plainFor_of_name pn_java_lang_StringLatin1) hisR ?_
  intro p e s m args below meth c s₁ Bd hml0 hP hK
  obtain ⟨rfl, hZ, hh⟩ := hP
  have hx := Bd.exec
  have hby := Bd.bytes
  have hml : c.maxLocals = 3 := hml0
  have hown : s.vm.findClass "java/lang/StringLatin1" = some m.cls := findClass_of_methodNamed Bd.named
  have hnm := (name_of_methodNamed Bd.named Bd.method).1
  have hlk := Bd.notSynchronized
  have X0 : Stand p l e ({ frames := 0, cells := 0, slots := 0, locals := 0 } : Room) s m #[(.ref o0), (.ref o1)] below meth c s₁ [] 0 0 := Stand.of_body Bd
  have e0 : s₁.heap = h0 := by rw [← hh, Bd.state]; rfl
  have N0 := Fr.nil n0
  show own_G p.tables e below s (Q_rmLEM7 Z o0 o1 x0 x1 x2 x3 x4 x5 x6 y0 y1 y2 y3 y4 y5 y6 k0 k1 h0 n0) ({ frames := 0, cells := 0, slots := 0, locals := 0 } : Room).cells ({ frames := 0, cells := 0, slots := 0, locals := 0 } : Room).slots _
  refine own_thr (a := s₁.setTop (mkF m 0 #[.val (.ref o0), .val (.ref o1), .unset] [])) (fun t kt => castTop (ef_rmLEM7 m o0 o1) kt) ?_
  refine own_thr (a := s₁.setTop (mkF m 1 #[.val (.ref o0), .val (.ref o1), .unset] [(.ref o0)])) (fun t kt => ?_) ?_
  · refine XS.aloadN X0.here hx rfl (hb hby d10_0) rfl rfl ?_
    exact kt
  obtain ⟨cl1, Ar1, -, S1, M1, -, -⟩ := id V_o0
  refine own_thr (a := s₁.setTop (mkF m 3 #[.val (.ref o0), .val (.ref o1), .unset] [(.ref o1), (.int 7)])) (fun t kt => ?_) ?_
  · refine X0.arraylength hx (by rw [e0]; exact Ar1.1) (State.isArrayOf_alike hZ.alike Ar1.2.1) (g := (mkF m 1 #[.val (.ref o0), .val (.ref o1), .unset] [(.ref o0)])) rfl rfl (hb hby d10_1) _ ?_
    rw [len_of S1 M1]
    refine XS.aloadN X0.here hx rfl (hb hby d10_2) rfl rfl ?_
    exact kt
  obtain ⟨cl2, Ar2, -, S2, M2, -, -⟩ := id V_o1
  refine own_thr (a := s₁.setTop (mkF m 11 #[.val (.ref o0), .val (.ref o1), .val (.int 0)] [(.ref o0), (.int 0)])) (fun t kt => ?_) ?_
  · refine X0.arraylength hx (by rw [e0]; exact Ar2.1) (State.isArrayOf_alike hZ.alike Ar2.2.1) (g := (mkF m 3 #[.val (.ref o0), .val (.ref o1), .unset] [(.ref o1), (.int 7)])) rfl rfl (hb hby d10_3) _ ?_
    rw [len_of S2 M2]
    refine XS.icmpNo X0.here hx rfl (hb hby d10_4) rfl (teq rfl).2 ?_
    refine XS.iconst X0.here hx rfl (hb hby d10_7) ?_
    refine XS.istoreN X0.here hx rfl (hb hby d10_8) rfl (l' := #[.val (.ref o0), .val (.ref o1), .val (.int 0)]) rfl ?_
    refine XS.iloadN X0.here hx rfl (hb hby d10_9) rfl ?_
    refine XS.aloadN X0.here hx rfl (hb hby d10_10) rfl rfl ?_
    exact kt
  obtain ⟨cl3, Ar3, -, S3, M3, -, -⟩ := id V_o0
  refine own_thr (a := s₁.setTop (mkF m 17 #[.val (.ref o0), .val (.ref o1), .val (.int 0)] [(.int 0), (.ref o0)])) (fun t kt => ?_) ?_
  · refine X0.arraylength hx (by rw [e0]; exact Ar3.1) (State.isArrayOf_alike hZ.alike Ar3.2.1) (g := (mkF m 11 #[.val (.ref o0), .val (.ref o1), .val (.int 0)] [(.ref o0), (.int 0)])) rfl rfl (hb hby d10_11) _ ?_
    rw [len_of S3 M3]
    refine XS.icmpNo X0.here hx rfl (hb hby d10_12) rfl (tlt (by decide)).2.1 ?_
    refine XS.aloadN X0.here hx rfl (hb hby d10_15) rfl rfl ?_
    refine XS.iloadN X0.here hx rfl (hb hby d10_16) rfl ?_
    exact kt
  obtain ⟨cl4, Ar4, -, S4, M4, H4, -⟩ := id V_o0
  have hin4 : ¬ ((0 : Int32) < 0 ∨ cl4.slots.size ≤ ((0 : Int32)).toNatClampNeg) := inb_of S4 ⟨by decide, by decide⟩
  have hat4 : cl4.slots[((0 : Int32)).toNatClampNeg]? = some (.int x0) := Has.at H4 hin4 rfl
  refine own_thr (a := s₁.setTop (mkF m 20 #[.val (.ref o0), .val (.ref o1), .val (.int 0)] [(.int 0), (.ref o1), (.int x0)])) (fun t kt => ?_) ?_
  · refine X0.baloadBytes hx (j := (0 : Int32)) (v := (.int x0)) (by rw [e0]; exact Ar4.1) (State.isArrayOf_alike hZ.alike Ar4.2.1) Ar4.2.2 hin4 hat4 (g := (mkF m 17 #[.val (.ref o0), .val (.ref o1), .val (.int 0)] [(.int 0), (.ref o0)])) rfl rfl (hb hby d10_17) _ ?_
    refine XS.aloadN X0.here hx rfl (hb hby d10_18) rfl rfl ?_
    refine XS.iloadN X0.here hx rfl (hb hby d10_19) rfl ?_
    exact kt
  obtain ⟨cl5, Ar5, -, S5, M5, H5, -⟩ := id V_o1
  have hin5 : ¬ ((0 : Int32) < 0 ∨ cl5.slots.size ≤ ((0 : Int32)).toNatClampNeg) := inb_of S5 ⟨by decide, by decide⟩
  have hat5 : cl5.slots[((0 : Int32)).toNatClampNeg]? = some (.int y0) := Has.at H5 hin5 rfl
  refine own_thr (a := s₁.setTop (mkF m 21 #[.val (.ref o0), .val (.ref o1), .val (.int 0)] [(.int y0), (.int x0)])) (fun t kt => ?_) ?_
  · refine X0.baloadBytes hx (j := (0 : Int32)) (v := (.int y0)) (by rw [e0]; exact Ar5.1) (State.isArrayOf_alike hZ.alike Ar5.2.1) Ar5.2.2 hin5 hat5 (g := (mkF m 20 #[.val (.ref o0), .val (.ref o1), .val (.int 0)] [(.int 0), (.ref o1), (.int x0)])) rfl rfl (hb hby d10_20) _ ?_
    exact kt
  by_cases hc6 : x0 = y0
  · refine own_thr (a := s₁.setTop (mkF m 11 #[.val (.ref o0), .val (.ref o1), .val (.int 1)] [(.ref o0), (.int 1)])) (fun t kt => ?_) ?_
    · refine XS.icmpYes X0.here hx rfl (pc0 := 21) (pc' := 26) rfl (hb hby d10_21) rfl (teq hc6).1 (by decide) (by decide) ?_
      refine XS.iinc X0.here hx rfl (hb hby d10_26) rfl (l' := #[.val (.ref o0), .val (.ref o1), .val (.int 1)]) rfl ?_
      refine XS.goto X0.here hx rfl (pc0 := 29) (pc' := 9) rfl (hb hby d10_29) (by decide) (by decide) ?_
      refine XS.iloadN X0.here hx rfl (hb hby d10_9) rfl ?_
      refine XS.aloadN X0.here hx rfl (hb hby d10_10) rfl rfl ?_
      exact kt
    obtain ⟨cl7, Ar7, -, S7, M7, -, -⟩ := id V_o0
    refine own_thr (a := s₁.setTop (mkF m 17 #[.val (.ref o0), .val (.ref o1), .val (.int 1)] [(.int 1), (.ref o0)])) (fun t kt => ?_) ?_
    · refine X0.arraylength hx (by rw [e0]; exact Ar7.1) (State.isArrayOf_alike hZ.alike Ar7.2.1) (g := (mkF m 11 #[.val (.ref o0), .val (.ref o1), .val (.int 1)] [(.ref o0), (.int 1)])) rfl rfl (hb hby d10_11) _ ?_
      rw [len_of S7 M7]
      refine XS.icmpNo X0.here hx rfl (hb hby d10_12) rfl (tlt (by decide)).2.1 ?_
      refine XS.aloadN X0.here hx rfl (hb hby d10_15) rfl rfl ?_
      refine XS.iloadN X0.here hx rfl (hb hby d10_16) rfl ?_
      exact kt
    obtain ⟨cl8, Ar8, -, S8, M8, H8, -⟩ := id V_o0
    have hin8 : ¬ ((1 : Int32) < 0 ∨ cl8.slots.size ≤ ((1 : Int32)).toNatClampNeg) := inb_of S8 ⟨by decide, by decide⟩
    have hat8 : cl8.slots[((1 : Int32)).toNatClampNeg]? = some (.int x1) := Has.at H8 hin8 rfl
    refine own_thr (a := s₁.setTop (mkF m 20 #[.val (.ref o0), .val (.ref o1), .val (.int 1)] [(.int 1), (.ref o1), (.int x1)])) (fun t kt => ?_) ?_
    · refine X0.baloadBytes hx (j := (1 : Int32)) (v := (.int x1)) (by rw [e0]; exact Ar8.1) (State.isArrayOf_alike hZ.alike Ar8.2.1) Ar8.2.2 hin8 hat8 (g := (mkF m 17 #[.val (.ref o0), .val (.ref o1), .val (.int 1)] [(.int 1), (.ref o0)])) rfl rfl (hb hby d10_17) _ ?_
      refine XS.aloadN X0.here hx rfl (hb hby d10_18) rfl rfl ?_
      refine XS.iloadN X0.here hx rfl (hb hby d10_19) rfl ?_
      exact kt
    obtain ⟨cl9, Ar9, -, S9, M9, H9, -⟩ := id V_o1
    have hin9 : ¬ ((1 : Int32) < 0 ∨ cl9.slots.size ≤ ((1 : Int32)).toNatClampNeg) := inb_of S9 ⟨by decide, by decide⟩
    have hat9 : cl9.slots[((1 : Int32)).toNatClampNeg]? = some (.int y1) := Has.at H9 hin9 rfl
    refine own_thr (a := s₁.setTop (mkF m 21 #[.val (.ref o0), .val (.ref o1), .val (.int 1)] [(.int y1), (.int x1)])) (fun t kt => ?_) ?_
    · refine X0.baloadBytes hx (j := (1 : Int32)) (v := (.int y1)) (by rw [e0]; exact Ar9.1) (State.isArrayOf_alike hZ.alike Ar9.2.1) Ar9.2.2 hin9 hat9 (g := (mkF m 20 #[.val (.ref o0), .val (.ref o1), .val (.int 1)] [(.int 1), (.ref o1), (.int x1)])) rfl rfl (hb hby d10_20) _ ?_
      exact kt
    by_cases hc10 : x1 = y1
    · refine own_thr (a := s₁.setTop (mkF m 11 #[.val (.ref o0), .val (.ref o1), .val (.int 2)] [(.ref o0), (.int 2)])) (fun t kt => ?_) ?_
      · refine XS.icmpYes X0.here hx rfl (pc0 := 21) (pc' := 26) rfl (hb hby d10_21) rfl (teq hc10).1 (by decide) (by decide) ?_
        refine XS.iinc X0.here hx rfl (hb hby d10_26) rfl (l' := #[.val (.ref o0), .val (.ref o1), .val (.int 2)]) rfl ?_
        refine XS.goto X0.here hx rfl (pc0 := 29) (pc' := 9) rfl (hb hby d10_29) (by decide) (by decide) ?_
        refine XS.iloadN X0.here hx rfl (hb hby d10_9) rfl ?_
        refine XS.aloadN X0.here hx rfl (hb hby d10_10) rfl rfl ?_
        exact kt
      obtain ⟨cl11, Ar11, -, S11, M11, -, -⟩ := id V_o0
      refine own_thr (a := s₁.setTop (mkF m 17 #[.val (.ref o0), .val (.ref o1), .val (.int 2)] [(.int 2), (.ref o0)])) (fun t kt => ?_) ?_
      · refine X0.arraylength hx (by rw [e0]; exact Ar11.1) (State.isArrayOf_alike hZ.alike Ar11.2.1) (g := (mkF m 11 #[.val (.ref o0), .val (.ref o1), .val (.int 2)] [(.ref o0), (.int 2)])) rfl rfl (hb hby d10_11) _ ?_
        rw [len_of S11 M11]
        refine XS.icmpNo X0.here hx rfl (hb hby d10_12) rfl (tlt (by decide)).2.1 ?_
        refine XS.aloadN X0.here hx rfl (hb hby d10_15) rfl rfl ?_
        refine XS.iloadN X0.here hx rfl (hb hby d10_16) rfl ?_
        exact kt
      obtain ⟨cl12, Ar12, -, S12, M12, H12, -⟩ := id V_o0
      have hin12 : ¬ ((2 : Int32) < 0 ∨ cl12.slots.size ≤ ((2 : Int32)).toNatClampNeg) := inb_of S12 ⟨by decide, by decide⟩
      have hat12 : cl12.slots[((2 : Int32)).toNatClampNeg]? = some (.int x2) := Has.at H12 hin12 rfl
      refine own_thr (a := s₁.setTop (mkF m 20 #[.val (.ref o0), .val (.ref o1), .val (.int 2)] [(.int 2), (.ref o1), (.int x2)])) (fun t kt => ?_) ?_
      · refine X0.baloadBytes hx (j := (2 : Int32)) (v := (.int x2)) (by rw [e0]; exact Ar12.1) (State.isArrayOf_alike hZ.alike Ar12.2.1) Ar12.2.2 hin12 hat12 (g := (mkF m 17 #[.val (.ref o0), .val (.ref o1), .val (.int 2)] [(.int 2), (.ref o0)])) rfl rfl (hb hby d10_17) _ ?_
        refine XS.aloadN X0.here hx rfl (hb hby d10_18) rfl rfl ?_
        refine XS.iloadN X0.here hx rfl (hb hby d10_19) rfl ?_
        exact kt
      obtain ⟨cl13, Ar13, -, S13, M13, H13, -⟩ := id V_o1
      have hin13 : ¬ ((2 : Int32) < 0 ∨ cl13.slots.size ≤ ((2 : Int32)).toNatClampNeg) := inb_of S13 ⟨by decide, by decide⟩
      have hat13 : cl13.slots[((2 : Int32)).toNatClampNeg]? = some (.int y2) := Has.at H13 hin13 rfl
      refine own_thr (a := s₁.setTop (mkF m 21 #[.val (.ref o0), .val (.ref o1), .val (.int 2)] [(.int y2), (.int x2)])) (fun t kt => ?_) ?_
      · refine X0.baloadBytes hx (j := (2 : Int32)) (v := (.int y2)) (by rw [e0]; exact Ar13.1) (State.isArrayOf_alike hZ.alike Ar13.2.1) Ar13.2.2 hin13 hat13 (g := (mkF m 20 #[.val (.ref o0), .val (.ref o1), .val (.int 2)] [(.int 2), (.ref o1), (.int x2)])) rfl rfl (hb hby d10_20) _ ?_
        exact kt
      by_cases hc14 : x2 = y2
      · refine own_thr (a := s₁.setTop (mkF m 11 #[.val (.ref o0), .val (.ref o1), .val (.int 3)] [(.ref o0), (.int 3)])) (fun t kt => ?_) ?_
        · refine XS.icmpYes X0.here hx rfl (pc0 := 21) (pc' := 26) rfl (hb hby d10_21) rfl (teq hc14).1 (by decide) (by decide) ?_
          refine XS.iinc X0.here hx rfl (hb hby d10_26) rfl (l' := #[.val (.ref o0), .val (.ref o1), .val (.int 3)]) rfl ?_
          refine XS.goto X0.here hx rfl (pc0 := 29) (pc' := 9) rfl (hb hby d10_29) (by decide) (by decide) ?_
          refine XS.iloadN X0.here hx rfl (hb hby d10_9) rfl ?_
          refine XS.aloadN X0.here hx rfl (hb hby d10_10) rfl rfl ?_
          exact kt
        obtain ⟨cl15, Ar15, -, S15, M15, -, -⟩ := id V_o0
        refine own_thr (a := s₁.setTop (mkF m 17 #[.val (.ref o0), .val (.ref o1), .val (.int 3)] [(.int 3), (.ref o0)])) (fun t kt => ?_) ?_
        · refine X0.arraylength hx (by rw [e0]; exact Ar15.1) (State.isArrayOf_alike hZ.alike Ar15.2.1) (g := (mkF m 11 #[.val (.ref o0), .val (.ref o1), .val (.int 3)] [(.ref o0), (.int 3)])) rfl rfl (hb hby d10_11) _ ?_
          rw [len_of S15 M15]
          refine XS.icmpNo X0.here hx rfl (hb hby d10_12) rfl (tlt (by decide)).2.1 ?_
          refine XS.aloadN X0.here hx rfl (hb hby d10_15) rfl rfl ?_
          refine XS.iloadN X0.here hx rfl (hb hby d10_16) rfl ?_
          exact kt
        obtain ⟨cl16, Ar16, -, S16, M16, H16, -⟩ := id V_o0
        have hin16 : ¬ ((3 : Int32) < 0 ∨ cl16.slots.size ≤ ((3 : Int32)).toNatClampNeg) := inb_of S16 ⟨by decide, by decide⟩
        have hat16 : cl16.slots[((3 : Int32)).toNatClampNeg]? = some (.int x3) := Has.at H16 hin16 rfl
        refine own_thr (a := s₁.setTop (mkF m 20 #[.val (.ref o0), .val (.ref o1), .val (.int 3)] [(.int 3), (.ref o1), (.int x3)])) (fun t kt => ?_) ?_
        · refine X0.baloadBytes hx (j := (3 : Int32)) (v := (.int x3)) (by rw [e0]; exact Ar16.1) (State.isArrayOf_alike hZ.alike Ar16.2.1) Ar16.2.2 hin16 hat16 (g := (mkF m 17 #[.val (.ref o0), .val (.ref o1), .val (.int 3)] [(.int 3), (.ref o0)])) rfl rfl (hb hby d10_17) _ ?_
          refine XS.aloadN X0.here hx rfl (hb hby d10_18) rfl rfl ?_
          refine XS.iloadN X0.here hx rfl (hb hby d10_19) rfl ?_
          exact kt
        obtain ⟨cl17, Ar17, -, S17, M17, H17, -⟩ := id V_o1
        have hin17 : ¬ ((3 : Int32) < 0 ∨ cl17.slots.size ≤ ((3 : Int32)).toNatClampNeg) := inb_of S17 ⟨by decide, by decide⟩
        have hat17 : cl17.slots[((3 : Int32)).toNatClampNeg]? = some (.int y3) := Has.at H17 hin17 rfl
        refine own_thr (a := s₁.setTop (mkF m 21 #[.val (.ref o0), .val (.ref o1), .val (.int 3)] [(.int y3), (.int x3)])) (fun t kt => ?_) ?_
        · refine X0.baloadBytes hx (j := (3 : Int32)) (v := (.int y3)) (by rw [e0]; exact Ar17.1) (State.isArrayOf_alike hZ.alike Ar17.2.1) Ar17.2.2 hin17 hat17 (g := (mkF m 20 #[.val (.ref o0), .val (.ref o1), .val (.int 3)] [(.int 3), (.ref o1), (.int x3)])) rfl rfl (hb hby d10_20) _ ?_
          exact kt
        by_cases hc18 : x3 = y3
        · refine own_thr (a := s₁.setTop (mkF m 11 #[.val (.ref o0), .val (.ref o1), .val (.int 4)] [(.ref o0), (.int 4)])) (fun t kt => ?_) ?_
          · refine XS.icmpYes X0.here hx rfl (pc0 := 21) (pc' := 26) rfl (hb hby d10_21) rfl (teq hc18).1 (by decide) (by decide) ?_
            refine XS.iinc X0.here hx rfl (hb hby d10_26) rfl (l' := #[.val (.ref o0), .val (.ref o1), .val (.int 4)]) rfl ?_
            refine XS.goto X0.here hx rfl (pc0 := 29) (pc' := 9) rfl (hb hby d10_29) (by decide) (by decide) ?_
            refine XS.iloadN X0.here hx rfl (hb hby d10_9) rfl ?_
            refine XS.aloadN X0.here hx rfl (hb hby d10_10) rfl rfl ?_
            exact kt
          obtain ⟨cl19, Ar19, -, S19, M19, -, -⟩ := id V_o0
          refine own_thr (a := s₁.setTop (mkF m 17 #[.val (.ref o0), .val (.ref o1), .val (.int 4)] [(.int 4), (.ref o0)])) (fun t kt => ?_) ?_
          · refine X0.arraylength hx (by rw [e0]; exact Ar19.1) (State.isArrayOf_alike hZ.alike Ar19.2.1) (g := (mkF m 11 #[.val (.ref o0), .val (.ref o1), .val (.int 4)] [(.ref o0), (.int 4)])) rfl rfl (hb hby d10_11) _ ?_
            rw [len_of S19 M19]
            refine XS.icmpNo X0.here hx rfl (hb hby d10_12) rfl (tlt (by decide)).2.1 ?_
            refine XS.aloadN X0.here hx rfl (hb hby d10_15) rfl rfl ?_
            refine XS.iloadN X0.here hx rfl (hb hby d10_16) rfl ?_
            exact kt
          obtain ⟨cl20, Ar20, -, S20, M20, H20, -⟩ := id V_o0
          have hin20 : ¬ ((4 : Int32) < 0 ∨ cl20.slots.size ≤ ((4 : Int32)).toNatClampNeg) := inb_of S20 ⟨by decide, by decide⟩
          have hat20 : cl20.slots[((4 : Int32)).toNatClampNeg]? = some (.int x4) := Has.at H20 hin20 rfl
          refine own_thr (a := s₁.setTop (mkF m 20 #[.val (.ref o0), .val (.ref o1), .val (.int 4)] [(.int 4), (.ref o1), (.int x4)])) (fun t kt => ?_) ?_
          · refine X0.baloadBytes hx (j := (4 : Int32)) (v := (.int x4)) (by rw [e0]; exact Ar20.1) (State.isArrayOf_alike hZ.alike Ar20.2.1) Ar20.2.2 hin20 hat20 (g := (mkF m 17 #[.val (.ref o0), .val (.ref o1), .val (.int 4)] [(.int 4), (.ref o0)])) rfl rfl (hb hby d10_17) _ ?_
            refine XS.aloadN X0.here hx rfl (hb hby d10_18) rfl rfl ?_
            refine XS.iloadN X0.here hx rfl (hb hby d10_19) rfl ?_
            exact kt
          obtain ⟨cl21, Ar21, -, S21, M21, H21, -⟩ := id V_o1
          have hin21 : ¬ ((4 : Int32) < 0 ∨ cl21.slots.size ≤ ((4 : Int32)).toNatClampNeg) := inb_of S21 ⟨by decide, by decide⟩
          have hat21 : cl21.slots[((4 : Int32)).toNatClampNeg]? = some (.int y4) := Has.at H21 hin21 rfl
          refine own_thr (a := s₁.setTop (mkF m 21 #[.val (.ref o0), .val (.ref o1), .val (.int 4)] [(.int y4), (.int x4)])) (fun t kt => ?_) ?_
          · refine X0.baloadBytes hx (j := (4 : Int32)) (v := (.int y4)) (by rw [e0]; exact Ar21.1) (State.isArrayOf_alike hZ.alike Ar21.2.1) Ar21.2.2 hin21 hat21 (g := (mkF m 20 #[.val (.ref o0), .val (.ref o1), .val (.int 4)] [(.int 4), (.ref o1), (.int x4)])) rfl rfl (hb hby d10_20) _ ?_
            exact kt
          by_cases hc22 : x4 = y4
          · refine own_thr (a := s₁.setTop (mkF m 11 #[.val (.ref o0), .val (.ref o1), .val (.int 5)] [(.ref o0), (.int 5)])) (fun t kt => ?_) ?_
            · refine XS.icmpYes X0.here hx rfl (pc0 := 21) (pc' := 26) rfl (hb hby d10_21) rfl (teq hc22).1 (by decide) (by decide) ?_
              refine XS.iinc X0.here hx rfl (hb hby d10_26) rfl (l' := #[.val (.ref o0), .val (.ref o1), .val (.int 5)]) rfl ?_
              refine XS.goto X0.here hx rfl (pc0 := 29) (pc' := 9) rfl (hb hby d10_29) (by decide) (by decide) ?_
              refine XS.iloadN X0.here hx rfl (hb hby d10_9) rfl ?_
              refine XS.aloadN X0.here hx rfl (hb hby d10_10) rfl rfl ?_
              exact kt
            obtain ⟨cl23, Ar23, -, S23, M23, -, -⟩ := id V_o0
            refine own_thr (a := s₁.setTop (mkF m 17 #[.val (.ref o0), .val (.ref o1), .val (.int 5)] [(.int 5), (.ref o0)])) (fun t kt => ?_) ?_
            · refine X0.arraylength hx (by rw [e0]; exact Ar23.1) (State.isArrayOf_alike hZ.alike Ar23.2.1) (g := (mkF m 11 #[.val (.ref o0), .val (.ref o1), .val (.int 5)] [(.ref o0), (.int 5)])) rfl rfl (hb hby d10_11) _ ?_
              rw [len_of S23 M23]
              refine XS.icmpNo X0.here hx rfl (hb hby d10_12) rfl (tlt (by decide)).2.1 ?_
              refine XS.aloadN X0.here hx rfl (hb hby d10_15) rfl rfl ?_
              refine XS.iloadN X0.here hx rfl (hb hby d10_16) rfl ?_
              exact kt
            obtain ⟨cl24, Ar24, -, S24, M24, H24, -⟩ := id V_o0
            have hin24 : ¬ ((5 : Int32) < 0 ∨ cl24.slots.size ≤ ((5 : Int32)).toNatClampNeg) := inb_of S24 ⟨by decide, by decide⟩
            have hat24 : cl24.slots[((5 : Int32)).toNatClampNeg]? = some (.int x5) := Has.at H24 hin24 rfl
            refine own_thr (a := s₁.setTop (mkF m 20 #[.val (.ref o0), .val (.ref o1), .val (.int 5)] [(.int 5), (.ref o1), (.int x5)])) (fun t kt => ?_) ?_
            · refine X0.baloadBytes hx (j := (5 : Int32)) (v := (.int x5)) (by rw [e0]; exact Ar24.1) (State.isArrayOf_alike hZ.alike Ar24.2.1) Ar24.2.2 hin24 hat24 (g := (mkF m 17 #[.val (.ref o0), .val (.ref o1), .val (.int 5)] [(.int 5), (.ref o0)])) rfl rfl (hb hby d10_17) _ ?_
              refine XS.aloadN X0.here hx rfl (hb hby d10_18) rfl rfl ?_
              refine XS.iloadN X0.here hx rfl (hb hby d10_19) rfl ?_
              exact kt
            obtain ⟨cl25, Ar25, -, S25, M25, H25, -⟩ := id V_o1
            have hin25 : ¬ ((5 : Int32) < 0 ∨ cl25.slots.size ≤ ((5 : Int32)).toNatClampNeg) := inb_of S25 ⟨by decide, by decide⟩
            have hat25 : cl25.slots[((5 : Int32)).toNatClampNeg]? = some (.int y5) := Has.at H25 hin25 rfl
            refine own_thr (a := s₁.setTop (mkF m 21 #[.val (.ref o0), .val (.ref o1), .val (.int 5)] [(.int y5), (.int x5)])) (fun t kt => ?_) ?_
            · refine X0.baloadBytes hx (j := (5 : Int32)) (v := (.int y5)) (by rw [e0]; exact Ar25.1) (State.isArrayOf_alike hZ.alike Ar25.2.1) Ar25.2.2 hin25 hat25 (g := (mkF m 20 #[.val (.ref o0), .val (.ref o1), .val (.int 5)] [(.int 5), (.ref o1), (.int x5)])) rfl rfl (hb hby d10_20) _ ?_
              exact kt
            by_cases hc26 : x5 = y5
            · refine own_thr (a := s₁.setTop (mkF m 11 #[.val (.ref o0), .val (.ref o1), .val (.int 6)] [(.ref o0), (.int 6)])) (fun t kt => ?_) ?_
              · refine XS.icmpYes X0.here hx rfl (pc0 := 21) (pc' := 26) rfl (hb hby d10_21) rfl (teq hc26).1 (by decide) (by decide) ?_
                refine XS.iinc X0.here hx rfl (hb hby d10_26) rfl (l' := #[.val (.ref o0), .val (.ref o1), .val (.int 6)]) rfl ?_
                refine XS.goto X0.here hx rfl (pc0 := 29) (pc' := 9) rfl (hb hby d10_29) (by decide) (by decide) ?_
                refine XS.iloadN X0.here hx rfl (hb hby d10_9) rfl ?_
                refine XS.aloadN X0.here hx rfl (hb hby d10_10) rfl rfl ?_
                exact kt
              obtain ⟨cl27, Ar27, -, S27, M27, -, -⟩ := id V_o0
              refine own_thr (a := s₁.setTop (mkF m 17 #[.val (.ref o0), .val (.ref o1), .val (.int 6)] [(.int 6), (.ref o0)])) (fun t kt => ?_) ?_
              · refine X0.arraylength hx (by rw [e0]; exact Ar27.1) (State.isArrayOf_alike hZ.alike Ar27.2.1) (g := (mkF m 11 #[.val (.ref o0), .val (.ref o1), .val (.int 6)] [(.ref o0), (.int 6)])) rfl rfl (hb hby d10_11) _ ?_
                rw [len_of S27 M27]
                refine XS.icmpNo X0.here hx rfl (hb hby d10_12) rfl (tlt (by decide)).2.1 ?_
                refine XS.aloadN X0.here hx rfl (hb hby d10_15) rfl rfl ?_
                refine XS.iloadN X0.here hx rfl (hb hby d10_16) rfl ?_
                exact kt
              obtain ⟨cl28, Ar28, -, S28, M28, H28, -⟩ := id V_o0
              have hin28 : ¬ ((6 : Int32) < 0 ∨ cl28.slots.size ≤ ((6 : Int32)).toNatClampNeg) := inb_of S28 ⟨by decide, by decide⟩
              have hat28 : cl28.slots[((6 : Int32)).toNatClampNeg]? = some (.int x6) := Has.at H28 hin28 rfl
              refine own_thr (a := s₁.setTop (mkF m 20 #[.val (.ref o0), .val (.ref o1), .val (.int 6)] [(.int 6), (.ref o1), (.int x6)])) (fun t kt => ?_) ?_
              · refine X0.baloadBytes hx (j := (6 : Int32)) (v := (.int x6)) (by rw [e0]; exact Ar28.1) (State.isArrayOf_alike hZ.alike Ar28.2.1) Ar28.2.2 hin28 hat28 (g := (mkF m 17 #[.val (.ref o0), .val (.ref o1), .val (.int 6)] [(.int 6), (.ref o0)])) rfl rfl (hb hby d10_17) _ ?_
                refine XS.aloadN X0.here hx rfl (hb hby d10_18) rfl rfl ?_
                refine XS.iloadN X0.here hx rfl (hb hby d10_19) rfl ?_
                exact kt
              obtain ⟨cl29, Ar29, -, S29, M29, H29, -⟩ := id V_o1
              have hin29 : ¬ ((6 : Int32) < 0 ∨ cl29.slots.size ≤ ((6 : Int32)).toNatClampNeg) := inb_of S29 ⟨by decide, by decide⟩
              have hat29 : cl29.slots[((6 : Int32)).toNatClampNeg]? = some (.int y6) := Has.at H29 hin29 rfl
              refine own_thr (a := s₁.setTop (mkF m 25 #[.val (.ref o0), .val (.ref o1), .val (.int 6)] [(.int 0)])) (fun t kt => ?_) ?_
              · refine X0.baloadBytes hx (j := (6 : Int32)) (v := (.int y6)) (by rw [e0]; exact Ar29.1) (State.isArrayOf_alike hZ.alike Ar29.2.1) Ar29.2.2 hin29 hat29 (g := (mkF m 20 #[.val (.ref o0), .val (.ref o1), .val (.int 6)] [(.int 6), (.ref o1), (.int x6)])) rfl rfl (hb hby d10_20) _ ?_
                refine XS.icmpNo X0.here hx rfl (hb hby d10_21) rfl (feq (fun q => hm ⟨hc6, hc10, hc14, hc18, hc22, hc26, q⟩)).1 ?_
                refine XS.iconst X0.here hx rfl (hb hby d10_24) ?_
                exact kt
              exact own_end X0 hlk (v := some (.int 0)) (fun h => by rw [Bd.returns] at h; cases h) (fun fs hr => retN X0 hx (t := .boolean) Bd.returns (by simp) (hb hby d10_25) hr) (by rw [e0]; exact ⟨rfl, N0, rfl⟩) (by decide : 0 ≤ _) (by decide : 0 ≤ _)
            · refine own_thr (a := s₁.setTop (mkF m 25 #[.val (.ref o0), .val (.ref o1), .val (.int 5)] [(.int 0)])) (fun t kt => ?_) ?_
              · refine XS.icmpNo X0.here hx rfl (hb hby d10_21) rfl (feq hc26).1 ?_
                refine XS.iconst X0.here hx rfl (hb hby d10_24) ?_
                exact kt
              exact own_end X0 hlk (v := some (.int 0)) (fun h => by rw [Bd.returns] at h; cases h) (fun fs hr => retN X0 hx (t := .boolean) Bd.returns (by simp) (hb hby d10_25) hr) (by rw [e0]; exact ⟨rfl, N0, rfl⟩) (by decide : 0 ≤ _) (by decide : 0 ≤ _)
          · refine own_thr (a := s₁.setTop (mkF m 25 #[.val (.ref o0), .val (.ref o1), .val (.int 4)] [(.int 0)])) (fun t kt => ?_) ?_
            · refine XS.icmpNo X0.here hx rfl (hb hby d10_21) rfl (feq hc22).1 ?_
              refine XS.iconst X0.here hx rfl (hb hby d10_24) ?_
              exact kt
            exact own_end X0 hlk (v := some (.int 0)) (fun h => by rw [Bd.returns] at h; cases h) (fun fs hr => retN X0 hx (t := .boolean) Bd.returns (by simp) (hb hby d10_25) hr) (by rw [e0]; exact ⟨rfl, N0, rfl⟩) (by decide : 0 ≤ _) (by decide : 0 ≤ _)
        · refine own_thr (a := s₁.setTop (mkF m 25 #[.val (.ref o0), .val (.ref o1), .val (.int 3)] [(.int 0)])) (fun t kt => ?_) ?_
          · refine XS.icmpNo X0.here hx rfl (hb hby d10_21) rfl (feq hc18).1 ?_
            refine XS.iconst X0.here hx rfl (hb hby d10_24) ?_
            exact kt
          exact own_end X0 hlk (v := some (.int 0)) (fun h => by rw [Bd.returns] at h; cases h) (fun fs hr => retN X0 hx (t := .boolean) Bd.returns (by simp) (hb hby d10_25) hr) (by rw [e0]; exact ⟨rfl, N0, rfl⟩) (by decide : 0 ≤ _) (by decide : 0 ≤ _)
      · refine own_thr (a := s₁.setTop (mkF m 25 #[.val (.ref o0), .val (.ref o1), .val (.int 2)] [(.int 0)])) (fun t kt => ?_) ?_
        · refine XS.icmpNo X0.here hx rfl (hb hby d10_21) rfl (feq hc14).1 ?_
          refine XS.iconst X0.here hx rfl (hb hby d10_24) ?_
          exact kt
        exact own_end X0 hlk (v := some (.int 0)) (fun h => by rw [Bd.returns] at h; cases h) (fun fs hr => retN X0 hx (t := .boolean) Bd.returns (by simp) (hb hby d10_25) hr) (by rw [e0]; exact ⟨rfl, N0, rfl⟩) (by decide : 0 ≤ _) (by decide : 0 ≤ _)
    · refine own_thr (a := s₁.setTop (mkF m 25 #[.val (.ref o0), .val (.ref o1), .val (.int 1)] [(.int 0)])) (fun t kt => ?_) ?_
      · refine XS.icmpNo X0.here hx rfl (hb hby d10_21) rfl (feq hc10).1 ?_
        refine XS.iconst X0.here hx rfl (hb hby d10_24) ?_
        exact kt
      exact own_end X0 hlk (v := some (.int 0)) (fun h => by rw [Bd.returns] at h; cases h) (fun fs hr => retN X0 hx (t := .boolean) Bd.returns (by simp) (hb hby d10_25) hr) (by rw [e0]; exact ⟨rfl, N0, rfl⟩) (by decide : 0 ≤ _) (by decide : 0 ≤ _)
  · refine own_thr (a := s₁.setTop (mkF m 25 #[.val (.ref o0), .val (.ref o1), .val (.int 0)] [(.int 0)])) (fun t kt => ?_) ?_
    · refine XS.icmpNo X0.here hx rfl (hb hby d10_21) rfl (feq hc6).1 ?_
      refine XS.iconst X0.here hx rfl (hb hby d10_24) ?_
      exact kt
    exact own_end X0 hlk (v := some (.int 0)) (fun h => by rw [Bd.returns] at h; cases h) (fun fs hr => retN X0 hx (t := .boolean) Bd.returns (by simp) (hb hby d10_25) hr) (by rw [e0]; exact ⟨rfl, N0, rfl⟩) (by decide : 0 ≤ _) (by decide : 0 ≤ _)
theorem ef_rmEQM7 (m : MethodId) (o0 : Addr) (o1 : Addr)  : entryFrame m #[(.ref o0), (.ref o1)] 3 = mkF m 0 #[.val (.ref o0), .val (.ref o1), .unset] [] := by first |  (simp [entryFrame, mkF, argsToLocals, Value.category]; done) | rfl
def Q_rmEQM7 (Z : State) (o0 : Addr) (o1 : Addr) (v0 : Addr) (v1 : Addr) (x0 : Int32) (x1 : Int32) (x2 : Int32) (x3 : Int32) (x4 : Int32) (x5 : Int32) (x6 : Int32) (y0 : Int32) (y1 : Int32) (y2 : Int32) (y3 : Int32) (y4 : Int32) (y5 : Int32) (y6 : Int32) (k0 : ClassId) (k1 : ClassId) (cs : Int32) (h0 : Heap) (n0 : Nat) (v : Option Value) (h : Heap) (L : List Loc) : Prop := v = some (.int 0) ∧ Fr n0 L ∧ h = h0
set_option maxRecDepth 65536 in
set_option maxHeartbeats 40000000 in
theorem rmEQM7 (l : Launch) (Z : State) (a0 : Array Value) (hw : ∀ d ∈ tables_1, d.before a0 Z = true) (ws : List Jvm.Cond) (o0 : Addr) (o1 : Addr) (v0 : Addr) (v1 : Addr) (x0 : Int32) (x1 : Int32) (x2 : Int32) (x3 : Int32) (x4 : Int32) (x5 : Int32) (x6 : Int32) (y0 : Int32) (y1 : Int32) (y2 : Int32) (y3 : Int32) (y4 : Int32) (y5 : Int32) (y6 : Int32) (k0 : ClassId) (k1 : ClassId) (cs : Int32) (h0 : Heap) (n0 : Nat) (Z0 : n0 ≤ h0.size) (E_o0 : Exa Z h0 o0 "java/lang/String") (F_value_o0 : Fld Z h0 o0 "java/lang/String" "value" "[B" (.ref v0)) (F_coder_o0 : Fld Z h0 o0 "java/lang/String" "coder" "B" (.int 0)) (E_o1 : Exa Z h0 o1 "java/lang/String") (F_value_o1 : Fld Z h0 o1 "java/lang/String" "value" "[B" (.ref v1)) (F_coder_o1 : Fld Z h0 o1 "java/lang/String" "coder" "B" (.int 0)) (V_v0 : Arv Z h0 v0 k0 .byte (7 : Int32) [(.int x0), (.int x1), (.int x2), (.int x3), (.int x4), (.int x5), (.int x6)] (.int 0)) (V_v1 : Arv Z h0 v1 k1 .byte (7 : Int32) [(.int y0), (.int y1), (.int y2), (.int y3), (.int y4), (.int y5), (.int y6)] (.int 0)) (S_COMPACT_STRINGS : Sta Z h0 "java/lang/String" "COMPACT_STRINGS" "Z" (.int cs)) (hcs : ¬ cs = (0 : Int32)) (hneo : ¬ o0 = o1) (hm : ¬ (x0 = y0 ∧ x1 = y1 ∧ x2 = y2 ∧ x3 = y3 ∧ x4 = y4 ∧ x5 = y5 ∧ x6 = y6)) :
    MetFree l (⟨"java/lang/String", "equals", "(Ljava/lang/Object;)Z"⟩ : MethodName) (head1 (Jvm.Cond.code (⟨"java/lang/String", "equals", "(Ljava/lang/Object;)Z"⟩ : MethodName) jdk_42_method_66_code 3 (some .boolean) :: ws) ({ frames := 1, cells := 0, slots := 0, locals := 14 } : Room)) (fun a U => a = #[(.ref o0), (.ref o1)] ∧ Z.Warmed39 U.vm ∧ U.heap = h0) (fun _ _ _ _ _ => True) (fun _ U o U' => ∃ v L, o = .returned v ∧ Q_rmEQM7 Z o0 o1 v0 v1 x0 x1 x2 x3 x4 x5 x6 y0 y1 y2 y3 y4 y5 y6 k0 k1 cs h0 n0 v U'.heap L ∧ FrameEnd U o U' L ({ frames := 1, cells := 0, slots := 0, locals := 14 } : Room).cells ({ frames := 1, cells := 0, slots := 0, locals := 14 } : Room).slots) := by
  refine MetFree.of_bodySF (plainFor_of_name pn_java_lang_String) hisR ?_
  intro p e s m args below meth c s₁ Bd hml0 hP hK
  obtain ⟨rfl, hZ, hh⟩ := hP
  have hx := Bd.exec
  have hby := Bd.bytes
  have hml : c.maxLocals = 3 := hml0
  have hown : s.vm.findClass "java/lang/String" = some m.cls := findClass_of_methodNamed Bd.named
  have hnm := (name_of_methodNamed Bd.named Bd.method).1
  have hlk := Bd.notSynchronized
  have X0 : Stand p l e ({ frames := 1, cells := 0, slots := 0, locals := 14 } : Room) s m #[(.ref o0), (.ref o1)] below meth c s₁ [] 0 0 := Stand.of_body Bd
  have e0 : s₁.heap = h0 := by rw [← hh, Bd.state]; rfl
  have N0 := Fr.nil n0
  show own_G p.tables e below s (Q_rmEQM7 Z o0 o1 v0 v1 x0 x1 x2 x3 x4 x5 x6 y0 y1 y2 y3 y4 y5 y6 k0 k1 cs h0 n0) ({ frames := 1, cells := 0, slots := 0, locals := 14 } : Room).cells ({ frames := 1, cells := 0, slots := 0, locals := 14 } : Room).slots _
  refine own_thr (a := s₁.setTop (mkF m 0 #[.val (.ref o0), .val (.ref o1), .unset] [])) (fun t kt => castTop (ef_rmEQM7 m o0 o1) kt) ?_
  refine own_thr (a := s₁.setTop (mkF m 2 #[.val (.ref o0), .val (.ref o1), .unset] [(.ref o1), (.ref o0)])) (fun t kt => ?_) ?_
  · refine XS.aloadN X0.here hx rfl (hb hby d9_0) rfl rfl ?_
    refine XS.aloadN X0.here hx rfl (hb hby d9_1) rfl rfl ?_
    exact kt
  refine own_thr (a := s₁.setTop (mkF m 8 #[.val (.ref o0), .val (.ref o1), .unset] [(.ref o1)])) (fun t kt => ?_) ?_
  · refine Jvm.RoadKit.acmp (g := (mkF m 2 #[.val (.ref o0), .val (.ref o1), .unset] [(.ref o1), (.ref o0)])) X0 hx rfl rfl rfl (pc0 := 2) (pc' := 7) (same := false) rfl (hb hby d9_2) rfl (decide_eq_false (fun q => hneo (Value.ref.inj q))) (by decide) (by decide) ?_
    refine XS.aloadN X0.here hx rfl (hb hby d9_7) rfl rfl ?_
    exact kt
  obtain ⟨T1, X1, e1, st1⟩ := instY X0 hx hZ hown (hw _ (own_i 58 rfl)) e0 (Ins.self E_o1) (g := (mkF m 8 #[.val (.ref o0), .val (.ref o1), .unset] [(.ref o1)])) rfl rfl (hb hby d9_8)
  refine own_thr (a := T1.setTop (mkF m 11 #[.val (.ref o0), .val (.ref o1), .unset] [(.int 1)])) (fun t kt => st1 t kt) ?_
  refine own_thr (a := T1.setTop (mkF m 15 #[.val (.ref o0), .val (.ref o1), .unset] [(.ref o1)])) (fun t kt => ?_) ?_
  · refine XS.ifNo X1.here hx rfl (hb hby d9_11) rfl ((if0 _ _).trans (feq (by decide)).1) ?_
    refine XS.aloadN X1.here hx rfl (hb hby d9_14) rfl rfl ?_
    exact kt
  obtain ⟨T2, X2, e2, st2⟩ := castY X1 hx hZ hown (hw _ (own_i 58 rfl)) e1 (Ins.self E_o1) (g := (mkF m 15 #[.val (.ref o0), .val (.ref o1), .unset] [(.ref o1)])) rfl rfl (hb hby d9_15)
  refine own_thr (a := T2.setTop (mkF m 18 #[.val (.ref o0), .val (.ref o1), .unset] [(.ref o1)])) (fun t kt => st2 t kt) ?_
  refine own_thr (a := T2.setTop (mkF m 19 #[.val (.ref o0), .val (.ref o1), .val (.ref o1)] [])) (fun t kt => ?_) ?_
  · refine XS.astoreN X2.here hx rfl (hb hby d9_18) rfl rfl (l' := #[.val (.ref o0), .val (.ref o1), .val (.ref o1)]) rfl ?_
    exact kt
  obtain ⟨T3, X3, e3, st3⟩ := getS2 X2 hx hZ hown (host := "") (Or.inl (hw _ (own_i 14 rfl))) Via.refl e2 S_COMPACT_STRINGS (g := (mkF m 19 #[.val (.ref o0), .val (.ref o1), .val (.ref o1)] [])) rfl (hb hby d9_19)
  refine own_thr (a := T3.setTop (mkF m 22 #[.val (.ref o0), .val (.ref o1), .val (.ref o1)] [(.int cs)])) (fun t kt => st3 t kt) ?_
  refine own_thr (a := T3.setTop (mkF m 26 #[.val (.ref o0), .val (.ref o1), .val (.ref o1)] [(.ref o0)])) (fun t kt => ?_) ?_
  · refine XS.ifNo X3.here hx rfl (hb hby d9_22) rfl ((if0 _ _).trans (feq hcs).1) ?_
    refine XS.aloadN X3.here hx rfl (hb hby d9_25) rfl rfl ?_
    exact kt
  obtain ⟨T4, X4, e4, st4⟩ := getF X3 hx hZ hown (host := "") (Or.inl (hw _ (own_i 26 rfl))) Via.refl e3 F_coder_o0 (g := (mkF m 26 #[.val (.ref o0), .val (.ref o1), .val (.ref o1)] [(.ref o0)])) rfl rfl (hb hby d9_26)
  refine own_thr (a := T4.setTop (mkF m 29 #[.val (.ref o0), .val (.ref o1), .val (.ref o1)] [(.int 0)])) (fun t kt => st4 t kt) ?_
  refine own_thr (a := T4.setTop (mkF m 30 #[.val (.ref o0), .val (.ref o1), .val (.ref o1)] [(.ref o1), (.int 0)])) (fun t kt => ?_) ?_
  · refine XS.aloadN X4.here hx rfl (hb hby d9_29) rfl rfl ?_
    exact kt
  obtain ⟨T5, X5, e5, st5⟩ := getF X4 hx hZ hown (host := "") (Or.inl (hw _ (own_i 26 rfl))) Via.refl e4 F_coder_o1 (g := (mkF m 30 #[.val (.ref o0), .val (.ref o1), .val (.ref o1)] [(.ref o1), (.int 0)])) rfl rfl (hb hby d9_30)
  refine own_thr (a := T5.setTop (mkF m 33 #[.val (.ref o0), .val (.ref o1), .val (.ref o1)] [(.int 0), (.int 0)])) (fun t kt => st5 t kt) ?_
  refine own_thr (a := T5.setTop (mkF m 37 #[.val (.ref o0), .val (.ref o1), .val (.ref o1)] [(.ref o0)])) (fun t kt => ?_) ?_
  · refine XS.icmpNo X5.here hx rfl (hb hby d9_33) rfl (teq rfl).2 ?_
    refine XS.aloadN X5.here hx rfl (hb hby d9_36) rfl rfl ?_
    exact kt
  obtain ⟨T6, X6, e6, st6⟩ := getF X5 hx hZ hown (host := "") (Or.inl (hw _ (own_i 28 rfl))) Via.refl e5 F_value_o0 (g := (mkF m 37 #[.val (.ref o0), .val (.ref o1), .val (.ref o1)] [(.ref o0)])) rfl rfl (hb hby d9_37)
  refine own_thr (a := T6.setTop (mkF m 40 #[.val (.ref o0), .val (.ref o1), .val (.ref o1)] [(.ref v0)])) (fun t kt => st6 t kt) ?_
  refine own_thr (a := T6.setTop (mkF m 41 #[.val (.ref o0), .val (.ref o1), .val (.ref o1)] [(.ref o1), (.ref v0)])) (fun t kt => ?_) ?_
  · refine XS.aloadN X6.here hx rfl (hb hby d9_40) rfl rfl ?_
    exact kt
  obtain ⟨T7, X7, e7, st7⟩ := getF X6 hx hZ hown (host := "") (Or.inl (hw _ (own_i 28 rfl))) Via.refl e6 F_value_o1 (g := (mkF m 41 #[.val (.ref o0), .val (.ref o1), .val (.ref o1)] [(.ref o1), (.ref v0)])) rfl rfl (hb hby d9_41)
  refine own_thr (a := T7.setTop (mkF m 44 #[.val (.ref o0), .val (.ref o1), .val (.ref o1)] [(.ref v1), (.ref v0)])) (fun t kt => st7 t kt) ?_
  obtain ⟨_, _, ⟨T8, L8, k8, n8⟩, -, X8, ⟨Lc8, hQ8, l8, y8, z8⟩, st8⟩ := Jvm.LawKit.callS X7 hx (y := (⟨"java/lang/StringLatin1", "equals", "([B[B)Z"⟩ : MethodName)) hown (mvT hZ (hw _ (own_i 59 rfl))) (mvT hZ (hw _ (own_i 60 rfl))) (mvT hZ (hw _ (own_i 61 rfl))) (mvT hZ (hw _ (own_i 62 rfl))) (by decide) (backOf (W := 0) (rmLEM7 l Z a0 hw [] v0 v1 x0 x1 x2 x3 x4 x5 x6 y0 y1 y2 y3 y4 y5 y6 k0 k1 h0 n0 Z0 V_v0 V_v1 hm) hZ (hw _ (own_i 62 rfl)) (hw _ (own_i 61 rfl)) (by decide) (by decide)) (g := (mkF m 44 #[.val (.ref o0), .val (.ref o1), .val (.ref o1)] [(.ref v1), (.ref v0)])) rfl (by rw [hml]; rfl) (argsL := [(.ref v0), (.ref v1)]) (rest := []) (lenOf pd__28_5bB_5bB_29Z rfl) rfl (by show 2 * 0 + _ ≤ _; exact Nat.le_of_eq rfl) (hb hby d9_44) (fun _ _ => ⟨rfl, e7, (by decide : 0 + 0 ≤ _), (by decide : 0 + 0 ≤ _)⟩)
  dsimp only [Pt.U, Pt.locs, Pt.cells, Pt.slots] at X8 l8 y8 z8 st8 hQ8
  obtain ⟨rfl, N8q, e8⟩ := hQ8
  obtain ⟨lc8, X8, N8⟩ := own_pack X8 l8 y8 z8 N0 N8q (C := 0) (S' := 0) rfl rfl
  refine own_thr (a := T8.setTop (mkF m 47 #[.val (.ref o0), .val (.ref o1), .val (.ref o1)] [(.int 0)])) (fun t kt => st8 t kt) ?_
  refine own_thr (a := T8.setTop (mkF m 55 #[.val (.ref o0), .val (.ref o1), .val (.ref o1)] [(.int 0)])) (fun t kt => ?_) ?_
  · refine XS.ifYes X8.here hx rfl (pc0 := 47) (pc' := 54) rfl (hb hby d9_47) rfl ((if0 _ _).trans (teq rfl).1) (by decide) (by decide) ?_
    refine XS.iconst X8.here hx rfl (hb hby d9_54) ?_
    exact kt
  exact own_end X8 hlk (v := some (.int 0)) (fun h => by rw [Bd.returns] at h; cases h) (fun fs hr => retN X8 hx (t := .boolean) Bd.returns (by simp) (hb hby d9_55) hr) (by rw [e8]; exact ⟨rfl, N8, rfl⟩) (by decide : 0 ≤ _) (by decide : 0 ≤ _)
theorem d12_0 : decode jdk_31_method_10_code 0 = .ok (.aload_n 0, 1) := by decide +kernel
theorem d12_1 : decode jdk_31_method_10_code 1 = .ok (.ifnonnull 11, 3) := by decide +kernel
theorem d12_12 : decode jdk_31_method_10_code 12 = .ok (.aload_n 0, 1) := by decide +kernel
theorem d12_13 : decode jdk_31_method_10_code 13 = .ok (.areturn, 1) := by decide +kernel
theorem pn_java_util_Objects : plainName "java/util/Objects" = true := by first | (simp [plainName, overriddenIn]; done) | decide +kernel
theorem ef_rmRN (m : MethodId) (o0 : Addr)  : entryFrame m #[(.ref o0)] 1 = mkF m 0 #[.val (.ref o0)] [] := by first |  (simp [entryFrame, mkF, argsToLocals, Value.category]; done) | rfl
def Q_rmRN (Z : State) (o0 : Addr) (h0 : Heap) (n0 : Nat) (v : Option Value) (h : Heap) (L : List Loc) : Prop := v = some (.ref o0) ∧ Fr n0 L ∧ h = h0
set_option maxRecDepth 65536 in
set_option maxHeartbeats 40000000 in
theorem rmRN (l : Launch) (Z : State) (a0 : Array Value) (hw : ∀ d ∈ tables_1, d.before a0 Z = true) (ws : List Jvm.Cond) (o0 : Addr) (h0 : Heap) (n0 : Nat) (Z0 : n0 ≤ h0.size) :
    MetFree l (⟨"java/util/Objects", "requireNonNull", "(Ljava/lang/Object;)Ljava/lang/Object;"⟩ : MethodName) (head1 (Jvm.Cond.code (⟨"java/util/Objects", "requireNonNull", "(Ljava/lang/Object;)Ljava/lang/Object;"⟩ : MethodName) jdk_31_method_10_code 1 (some (.object "java/lang/Object")) :: ws) ({ frames := 0, cells := 0, slots := 0, locals := 0 } : Room)) (fun a U => a = #[(.ref o0)] ∧ Z.Warmed39 U.vm ∧ U.heap = h0) (fun _ _ _ _ _ => True) (fun _ U o U' => ∃ v L, o = .returned v ∧ Q_rmRN Z o0 h0 n0 v U'.heap L ∧ FrameEnd U o U' L ({ frames := 0, cells := 0, slots := 0, locals := 0 } : Room).cells ({ frames := 0, cells := 0, slots := 0, locals := 0 } : Room).slots) := by
  refine MetFree.of_bodySF (plainFor_of_name pn_java_util_Objects) hisR ?_
  intro p e s m args below meth c s₁ Bd hml0 hP hK
  obtain ⟨rfl, hZ, hh⟩ := hP
  have hx := Bd.exec
  have hby := Bd.bytes
  have hml : c.maxLocals = 1 := hml0
  have hown : s.vm.findClass "java/util/Objects" = some m.cls := findClass_of_methodNamed Bd.named
  have hnm := (name_of_methodNamed Bd.named Bd.method).1
  have hlk := Bd.notSynchronized
  have X0 : Stand p l e ({ frames := 0, cells := 0, slots := 0, locals := 0 } : Room) s m #[(.ref o0)] below meth c s₁ [] 0 0 := Stand.of_body Bd
  have e0 : s₁.heap = h0 := by rw [← hh, Bd.state]; rfl
  have N0 := Fr.nil n0
  show own_G p.tables e below s (Q_rmRN Z o0 h0 n0) ({ frames := 0, cells := 0, slots := 0, locals := 0 } : Room).cells ({ frames := 0, cells := 0, slots := 0, locals := 0 } : Room).slots _
  refine own_thr (a := s₁.setTop (mkF m 0 #[.val (.ref o0)] [])) (fun t kt => castTop (ef_rmRN m o0) kt) ?_
  refine own_thr (a := s₁.setTop (mkF m 13 #[.val (.ref o0)] [(.ref o0)])) (fun t kt => ?_) ?_
  · refine XS.aloadN X0.here hx rfl (hb hby d12_0) rfl rfl ?_
    refine XS.ifnonnullYes X0.here hx rfl (pc0 := 1) (pc' := 12) rfl (hb hby d12_1) rfl (by decide) (by decide) ?_
    refine XS.aloadN X0.here hx rfl (hb hby d12_12) rfl rfl ?_
    exact kt
  exact own_end X0 hlk (v := some (.ref o0)) (fun h => by rw [Bd.returns] at h; cases h) (fun fs hr => retA X0 hx Bd.returns rfl rfl (hb hby d12_13) hr) (by rw [e0]; exact ⟨rfl, N0, rfl⟩) (by decide : 0 ≤ _) (by decide : 0 ≤ _)
theorem d13_0 : decode jdk_32_method_2_code 0 = .ok (.aload_n 0, 1) := by decide +kernel
theorem d13_1 : decode jdk_32_method_2_code 1 = .ok (.invokespecial 7, 3) := by decide +kernel
theorem d13_4 : decode jdk_32_method_2_code 4 = .ok (.aload_n 0, 1) := by decide +kernel
theorem d13_5 : decode jdk_32_method_2_code 5 = .ok (.aload_n 1, 1) := by decide +kernel
theorem d13_6 : decode jdk_32_method_2_code 6 = .ok (.putfield 13, 3) := by decide +kernel
theorem d13_9 : decode jdk_32_method_2_code 9 = .ok (.return_, 1) := by decide +kernel
theorem pn_java_util_Optional : plainName "java/util/Optional" = true := by first | (simp [plainName, overriddenIn]; done) | decide +kernel
theorem ef_rmOI (m : MethodId) (o0 : Addr) (o1 : Addr)  : entryFrame m #[(.ref o0), (.ref o1)] 2 = mkF m 0 #[.val (.ref o0), .val (.ref o1)] [] := by first |  (simp [entryFrame, mkF, argsToLocals, Value.category]; done) | rfl
def Q_rmOI (Z : State) (o0 : Addr) (o1 : Addr) (h0 : Heap) (n0 : Nat) (v : Option Value) (h : Heap) (L : List Loc) : Prop := v = none ∧ Fr n0 L ∧ Keep h0 h [o0] ∧ Exa Z h o0 "java/util/Optional" ∧ Fld Z h o0 "java/util/Optional" "value" "Ljava/lang/Object;" (.ref o1)
set_option maxRecDepth 65536 in
set_option maxHeartbeats 40000000 in
theorem rmOI (l : Launch) (Z : State) (a0 : Array Value) (hw : ∀ d ∈ tables_1, d.before a0 Z = true) (ws : List Jvm.Cond) (o0 : Addr) (o1 : Addr) (h0 : Heap) (n0 : Nat) (Z0 : n0 ≤ h0.size) (E_o0 : Exa Z h0 o0 "java/util/Optional") (F_value_o0 : Fld Z h0 o0 "java/util/Optional" "value" "Ljava/lang/Object;" .null) (g_o0 : n0 ≤ o0) :
    MetFree l (⟨"java/util/Optional", "<init>", "(Ljava/lang/Object;)V"⟩ : MethodName) (head1 (Jvm.Cond.code (⟨"java/util/Optional", "<init>", "(Ljava/lang/Object;)V"⟩ : MethodName) jdk_32_method_2_code 2 none :: ws) ({ frames := 1, cells := 0, slots := 0, locals := 12 } : Room)) (fun a U => a = #[(.ref o0), (.ref o1)] ∧ Z.Warmed39 U.vm ∧ U.heap = h0) (fun _ _ _ _ _ => True) (fun _ U o U' => ∃ v L, o = .returned v ∧ Q_rmOI Z o0 o1 h0 n0 v U'.heap L ∧ FrameEnd U o U' L ({ frames := 1, cells := 0, slots := 0, locals := 12 } : Room).cells ({ frames := 1, cells := 0, slots := 0, locals := 12 } : Room).slots) := by
  refine MetFree.of_bodySF (plainFor_of_name pn_java_util_Optional) hisR ?_
  intro p e s m args below meth c s₁ Bd hml0 hP hK
  obtain ⟨rfl, hZ, hh⟩ := hP
  have hx := Bd.exec
  have hby := Bd.bytes
  have hml : c.maxLocals = 2 := hml0
  have hown : s.vm.findClass "java/util/Optional" = some m.cls := findClass_of_methodNamed Bd.named
  have hnm := (name_of_methodNamed Bd.named Bd.method).1
  have hlk := Bd.notSynchronized
  have X0 : Stand p l e ({ frames := 1, cells := 0, slots := 0, locals := 12 } : Room) s m #[(.ref o0), (.ref o1)] below meth c s₁ [] 0 0 := Stand.of_body Bd
  have e0 : s₁.heap = h0 := by rw [← hh, Bd.state]; rfl
  have N0 := Fr.nil n0
  show own_G p.tables e below s (Q_rmOI Z o0 o1 h0 n0) ({ frames := 1, cells := 0, slots := 0, locals := 12 } : Room).cells ({ frames := 1, cells := 0, slots := 0, locals := 12 } : Room).slots _
  refine own_thr (a := s₁.setTop (mkF m 0 #[.val (.ref o0), .val (.ref o1)] [])) (fun t kt => castTop (ef_rmOI m o0 o1) kt) ?_
  refine own_thr (a := s₁.setTop (mkF m 1 #[.val (.ref o0), .val (.ref o1)] [(.ref o0)])) (fun t kt => ?_) ?_
  · refine XS.aloadN X0.here hx rfl (hb hby d13_0) rfl rfl ?_
    exact kt
  obtain ⟨T1, X1, e1, st1⟩ := initO X0 hx hZ hown (hw _ (own_i 77 rfl)) (hw _ (own_i 12 rfl)) (hw _ (own_i 13 rfl)) e0 (g := (mkF m 1 #[.val (.ref o0), .val (.ref o1)] [(.ref o0)])) rfl (by rw [hml]; rfl) rfl (hb hby d13_1) (by decide) (W := 0) (by show 2 * 0 + _ ≤ _; exact Nat.le_of_eq rfl) (by decide)
  refine own_thr (a := T1.setTop (mkF m 4 #[.val (.ref o0), .val (.ref o1)] [])) (fun t kt => st1 t kt) ?_
  refine own_thr (a := T1.setTop (mkF m 6 #[.val (.ref o0), .val (.ref o1)] [(.ref o1), (.ref o0)])) (fun t kt => ?_) ?_
  · refine XS.aloadN X1.here hx rfl (hb hby d13_4) rfl rfl ?_
    refine XS.aloadN X1.here hx rfl (hb hby d13_5) rfl rfl ?_
    exact kt
  obtain ⟨T2, h2, X2, e2, W2, st2⟩ := putF X1 hx hZ hown (host := "") (Or.inl (hw _ (own_i 78 rfl))) Via.refl e1 F_value_o0 E_o0 (Or.inr ⟨(hw _ (own_i 79 rfl)), rfl, hnm⟩) (hw _ (own_i 68 rfl)) (ty := (.object "java/lang/Object")) (by decide) rfl rfl (g := (mkF m 6 #[.val (.ref o0), .val (.ref o1)] [(.ref o1), (.ref o0)])) rfl rfl (hb hby d13_6)
  have Fw2 := F_value_o0.same W2
  have Z3 : n0 ≤ h2.size := Nat.le_trans Z0 (Nat.le_of_eq W2.size.symm)
  have Z3h : h0.size ≤ h2.size := Nat.le_trans (Nat.le_refl h0.size) (Nat.le_of_eq W2.size.symm)
  obtain ⟨lc2, X2, N2⟩ := own_pack1 X2 N0 g_o0
  refine own_thr (a := T2.setTop (mkF m 9 #[.val (.ref o0), .val (.ref o1)] [])) (fun t kt => st2 t kt) ?_
  exact own_end X2 hlk (v := none) (fun _ => rfl) (fun fs hr => X2.returnOut hx Bd.returns (hb hby d13_9) hr) (by rw [e2]; exact ⟨rfl, N2, ((Keep.refl h0 [o0]).wr W2 (Or.inl (own_i 0 rfl))), (E_o0.wr W2), Fw2⟩) (by decide : 0 ≤ _) (by decide : 0 ≤ _)
theorem d11_0 : decode jdk_32_method_3_code 0 = .ok (.new 2, 3) := by decide +kernel
theorem d11_3 : decode jdk_32_method_3_code 3 = .ok (.dup, 1) := by decide +kernel
theorem d11_4 : decode jdk_32_method_3_code 4 = .ok (.aload_n 0, 1) := by decide +kernel
theorem pd__28Ljava_2flang_2fObject_3b_29Ljava_2flang_2fObject_3b : parseMethodDescriptor "(Ljava/lang/Object;)Ljava/lang/Object;" = some ⟨[(.object "java/lang/Object")], some (.object "java/lang/Object")⟩ := by decide +kernel
theorem d11_5 : decode jdk_32_method_3_code 5 = .ok (.invokestatic 17, 3) := by decide +kernel
theorem pd__28Ljava_2flang_2fObject_3b_29V : parseMethodDescriptor "(Ljava/lang/Object;)V" = some ⟨[(.object "java/lang/Object")], none⟩ := by decide +kernel
theorem d11_8 : decode jdk_32_method_3_code 8 = .ok (.invokespecial 23, 3) := by decide +kernel
theorem d11_11 : decode jdk_32_method_3_code 11 = .ok (.areturn, 1) := by decide +kernel
theorem ef_rmOF (m : MethodId) (o0 : Addr)  : entryFrame m #[(.ref o0)] 1 = mkF m 0 #[.val (.ref o0)] [] := by first |  (simp [entryFrame, mkF, argsToLocals, Value.category]; done) | rfl
def Q_rmOF (Z : State) (o0 : Addr) (h0 : Heap) (n0 : Nat) (v : Option Value) (h : Heap) (L : List Loc) : Prop := ∃ r : Addr, v = some (.ref r) ∧ Fr n0 L ∧ Keep h0 h [] ∧ Exa Z h r "java/util/Optional" ∧ Fld Z h r "java/util/Optional" "value" "Ljava/lang/Object;" (.ref o0)
set_option maxRecDepth 65536 in
set_option maxHeartbeats 40000000 in
theorem rmOF (l : Launch) (Z : State) (a0 : Array Value) (hw : ∀ d ∈ tables_1, d.before a0 Z = true) (ws : List Jvm.Cond) (o0 : Addr) (h0 : Heap) (n0 : Nat) (Z0 : n0 ≤ h0.size) :
    MetFree l (⟨"java/util/Optional", "of", "(Ljava/lang/Object;)Ljava/util/Optional;"⟩ : MethodName) (head1 (Jvm.Cond.code (⟨"java/util/Optional", "of", "(Ljava/lang/Object;)Ljava/util/Optional;"⟩ : MethodName) jdk_32_method_3_code 1 (some (.object "java/util/Optional")) :: ws) ({ frames := 2, cells := 1, slots := 1, locals := 26 } : Room)) (fun a U => a = #[(.ref o0)] ∧ Z.Warmed39 U.vm ∧ U.heap = h0) (fun _ _ _ _ _ => True) (fun _ U o U' => ∃ v L, o = .returned v ∧ Q_rmOF Z o0 h0 n0 v U'.heap L ∧ FrameEnd U o U' L ({ frames := 2, cells := 1, slots := 1, locals := 26 } : Room).cells ({ frames := 2, cells := 1, slots := 1, locals := 26 } : Room).slots) := by
  refine MetFree.of_bodySF (plainFor_of_name pn_java_util_Optional) hisR ?_
  intro p e s m args below meth c s₁ Bd hml0 hP hK
  obtain ⟨rfl, hZ, hh⟩ := hP
  have hx := Bd.exec
  have hby := Bd.bytes
  have hml : c.maxLocals = 1 := hml0
  have hown : s.vm.findClass "java/util/Optional" = some m.cls := findClass_of_methodNamed Bd.named
  have hnm := (name_of_methodNamed Bd.named Bd.method).1
  have hlk := Bd.notSynchronized
  have X0 : Stand p l e ({ frames := 2, cells := 1, slots := 1, locals := 26 } : Room) s m #[(.ref o0)] below meth c s₁ [] 0 0 := Stand.of_body Bd
  have e0 : s₁.heap = h0 := by rw [← hh, Bd.state]; rfl
  have N0 := Fr.nil n0
  show own_G p.tables e below s (Q_rmOF Z o0 h0 n0) ({ frames := 2, cells := 1, slots := 1, locals := 26 } : Room).cells ({ frames := 2, cells := 1, slots := 1, locals := 26 } : Room).slots _
  refine own_thr (a := s₁.setTop (mkF m 0 #[.val (.ref o0)] [])) (fun t kt => castTop (ef_rmOF m o0) kt) ?_
  obtain ⟨T1, h1, X1, e1, E1, A1, D1, U1, st1⟩ := newO X0 hx hZ hown (hw _ (own_i 67 rfl)) (hw _ (own_i 68 rfl)) (hw _ (own_i 65 rfl)) e0 (g := (mkF m 0 #[.val (.ref o0)] [])) rfl (hb hby d11_0) (by decide : 0 + 1 ≤ _) (by decide : 0 + 1 ≤ _)
  obtain ⟨b1, g1⟩ : ∃ z, z = h0.size := ⟨_, rfl⟩
  rw [← g1] at A1 D1 st1 U1
  have g_b1 : n0 ≤ b1 := Nat.le_trans Z0 (Nat.le_of_eq g1.symm)
  have sz_b1 : h0.size ≤ b1 := Nat.le_trans (Nat.le_refl h0.size) (Nat.le_of_eq g1.symm)
  have Z2 : n0 ≤ h1.size := Nat.le_trans Z0 E1.1
  have Z2h : h0.size ≤ h1.size := Nat.le_trans (Nat.le_refl h0.size) E1.1
  have F_value_b1 : Fld Z h1 b1 "java/util/Optional" "value" "Ljava/lang/Object;" .null := D1 (Or.inr (hw _ (own_i 79 rfl))) (ty := (.object "java/lang/Object")) (by decide)
  refine own_thr (a := T1.setTop (mkF m 3 #[.val (.ref o0)] [(.ref b1)])) (fun t kt => st1 t kt) ?_
  refine own_thr (a := T1.setTop (mkF m 5 #[.val (.ref o0)] [(.ref o0), (.ref b1), (.ref b1)])) (fun t kt => ?_) ?_
  · refine XS.dup X1.here hx rfl (hb hby d11_3) rfl rfl ?_
    refine XS.aloadN X1.here hx rfl (hb hby d11_4) rfl rfl ?_
    exact kt
  obtain ⟨_, _, ⟨T3, L3, k3, n3⟩, -, X3, ⟨Lc3, hQ3, l3, y3, z3⟩, st3⟩ := Jvm.LawKit.callS X1 hx (y := (⟨"java/util/Objects", "requireNonNull", "(Ljava/lang/Object;)Ljava/lang/Object;"⟩ : MethodName)) hown (mvT hZ (hw _ (own_i 69 rfl))) (mvT hZ (hw _ (own_i 70 rfl))) (mvT hZ (hw _ (own_i 71 rfl))) (mvT hZ (hw _ (own_i 72 rfl))) (by decide) (backOf (W := 2) (rmRN l Z a0 hw [] o0 h1 n0 Z2) hZ (hw _ (own_i 72 rfl)) (hw _ (own_i 71 rfl)) (by decide) (by decide)) (g := (mkF m 5 #[.val (.ref o0)] [(.ref o0), (.ref b1), (.ref b1)])) rfl (by rw [hml]; rfl) (argsL := [(.ref o0)]) (rest := [(.ref b1), (.ref b1)]) (lenOf pd__28Ljava_2flang_2fObject_3b_29Ljava_2flang_2fObject_3b rfl) rfl (by show 2 * 0 + _ ≤ _; exact Nat.le_of_eq rfl) (hb hby d11_5) (fun _ _ => ⟨rfl, e1, (by decide : 1 + 0 ≤ _), (by decide : 1 + 0 ≤ _)⟩)
  dsimp only [Pt.U, Pt.locs, Pt.cells, Pt.slots] at X3 l3 y3 z3 st3 hQ3
  obtain ⟨rfl, N3q, e3⟩ := hQ3
  obtain ⟨lc3, X3, N3⟩ := own_pack X3 l3 y3 z3 N0 N3q (C := 1) (S' := 1) rfl rfl
  refine own_thr (a := T3.setTop (mkF m 8 #[.val (.ref o0)] [(.ref o0), (.ref b1), (.ref b1)])) (fun t kt => st3 t kt) ?_
  obtain ⟨_, _, ⟨T4, L4, k4, n4⟩, -, X4, ⟨Lc4, hQ4, l4, y4, z4⟩, st4⟩ := X3.specialBack hx (y := (⟨"java/util/Optional", "<init>", "(Ljava/lang/Object;)V"⟩ : MethodName)) rfl hown (mvT hZ (hw _ (own_i 73 rfl))) (mvT hZ (hw _ (own_i 74 rfl))) (mvT hZ (hw _ (own_i 76 rfl))) (by decide) (backOf (W := 1) (rmOI l Z a0 hw [] b1 o0 h1 n0 Z2 A1 F_value_b1 g_b1) hZ (hw _ (own_i 76 rfl)) (hw _ (own_i 65 rfl)) (by decide) (by decide)) (g := (mkF m 8 #[.val (.ref o0)] [(.ref o0), (.ref b1), (.ref b1)])) rfl (by rw [hml]; rfl) (Steps.refl _) (a := b1) (argsL := [(.ref o0)]) (rest := [(.ref b1)]) (lenOf pd__28Ljava_2flang_2fObject_3b_29V rfl) rfl (by show 2 * 0 + _ ≤ _; exact Nat.le_of_eq rfl) (hb hby d11_8) (fun _ _ => ⟨rfl, e3, (by decide : 1 + 0 ≤ _), (by decide : 1 + 0 ≤ _)⟩)
  dsimp only [Pt.U, Pt.locs, Pt.cells, Pt.slots] at X4 l4 y4 z4 st4 hQ4
  obtain ⟨rfl, N4q, K4, o4_0, o4_1⟩ := hQ4
  have Z5 : n0 ≤ T4.heap.size := Nat.le_trans Z2 K4.1
  have Z5h : h0.size ≤ T4.heap.size := Nat.le_trans Z2h K4.1
  obtain ⟨lc4, X4, N4⟩ := own_pack X4 l4 y4 z4 N3 N4q (C := 1) (S' := 1) rfl rfl
  refine own_thr (a := T4.setTop (mkF m 11 #[.val (.ref o0)] [(.ref b1)])) (fun t kt => st4.trans kt) ?_
  exact own_end X4 hlk (v := some (.ref b1)) (fun h => by rw [Bd.returns] at h; cases h) (fun fs hr => retA X4 hx Bd.returns rfl rfl (hb hby d11_11) hr) ⟨b1, rfl, N4, (((Keep.refl h0 []).ext E1).trans K4 (allS (Or.inr sz_b1) all0)), o4_0, o4_1⟩ (by decide : 1 ≤ _) (by decide : 1 ≤ _)
theorem d20_0 : decode jdk_32_method_1_code 0 = .ok (.getstatic 1, 3) := by decide +kernel
theorem d20_3 : decode jdk_32_method_1_code 3 = .ok (.astore_n 0, 1) := by decide +kernel
theorem d20_4 : decode jdk_32_method_1_code 4 = .ok (.aload_n 0, 1) := by decide +kernel
theorem d20_5 : decode jdk_32_method_1_code 5 = .ok (.areturn, 1) := by decide +kernel
theorem ef_rmEM (m : MethodId)   : entryFrame m #[] 1 = mkF m 0 #[.unset] [] := by first |  (simp [entryFrame, mkF, argsToLocals, Value.category]; done) | rfl
def Q_rmEM (Z : State)  (em : Addr) (h0 : Heap) (n0 : Nat) (v : Option Value) (h : Heap) (L : List Loc) : Prop := v = some (.ref em) ∧ Fr n0 L ∧ h = h0
set_option maxRecDepth 65536 in
set_option maxHeartbeats 40000000 in
theorem rmEM (l : Launch) (Z : State) (a0 : Array Value) (hw : ∀ d ∈ tables_1, d.before a0 Z = true) (ws : List Jvm.Cond)  (em : Addr) (h0 : Heap) (n0 : Nat) (Z0 : n0 ≤ h0.size) (S_EMPTY : Sta Z h0 "java/util/Optional" "EMPTY" "Ljava/util/Optional;" (.ref em)) :
    MetFree l (⟨"java/util/Optional", "empty", "()Ljava/util/Optional;"⟩ : MethodName) (head1 (Jvm.Cond.code (⟨"java/util/Optional", "empty", "()Ljava/util/Optional;"⟩ : MethodName) jdk_32_method_1_code 1 (some (.object "java/util/Optional")) :: ws) ({ frames := 0, cells := 0, slots := 0, locals := 0 } : Room)) (fun a U => a = #[] ∧ Z.Warmed39 U.vm ∧ U.heap = h0) (fun _ _ _ _ _ => True) (fun _ U o U' => ∃ v L, o = .returned v ∧ Q_rmEM Z  em h0 n0 v U'.heap L ∧ FrameEnd U o U' L ({ frames := 0, cells := 0, slots := 0, locals := 0 } : Room).cells ({ frames := 0, cells := 0, slots := 0, locals := 0 } : Room).slots) := by
  refine MetFree.of_bodySF (plainFor_of_name pn_java_util_Optional) hisR ?_
  intro p e s m args below meth c s₁ Bd hml0 hP hK
  obtain ⟨rfl, hZ, hh⟩ := hP
  have hx := Bd.exec
  have hby := Bd.bytes
  have hml : c.maxLocals = 1 := hml0
  have hown : s.vm.findClass "java/util/Optional" = some m.cls := findClass_of_methodNamed Bd.named
  have hnm := (name_of_methodNamed Bd.named Bd.method).1
  have hlk := Bd.notSynchronized
  have X0 : Stand p l e ({ frames := 0, cells := 0, slots := 0, locals := 0 } : Room) s m #[] below meth c s₁ [] 0 0 := Stand.of_body Bd
  have e0 : s₁.heap = h0 := by rw [← hh, Bd.state]; rfl
  have N0 := Fr.nil n0
  show own_G p.tables e below s (Q_rmEM Z  em h0 n0) ({ frames := 0, cells := 0, slots := 0, locals := 0 } : Room).cells ({ frames := 0, cells := 0, slots := 0, locals := 0 } : Room).slots _
  refine own_thr (a := s₁.setTop (mkF m 0 #[.unset] [])) (fun t kt => castTop (ef_rmEM m ) kt) ?_
  obtain ⟨T1, X1, e1, st1⟩ := getS2 X0 hx hZ hown (host := "") (Or.inl (hw _ (own_i 110 rfl))) Via.refl e0 S_EMPTY (g := (mkF m 0 #[.unset] [])) rfl (hb hby d20_0)
  refine own_thr (a := T1.setTop (mkF m 3 #[.unset] [(.ref em)])) (fun t kt => st1 t kt) ?_
  refine own_thr (a := T1.setTop (mkF m 5 #[.val (.ref em)] [(.ref em)])) (fun t kt => ?_) ?_
  · refine XS.astoreN X1.here hx rfl (hb hby d20_3) rfl rfl (l' := #[.val (.ref em)]) rfl ?_
    refine XS.aloadN X1.here hx rfl (hb hby d20_4) rfl rfl ?_
    exact kt
  exact own_end X1 hlk (v := some (.ref em)) (fun h => by rw [Bd.returns] at h; cases h) (fun fs hr => retA X1 hx Bd.returns rfl rfl (hb hby d20_5) hr) (by rw [e1]; exact ⟨rfl, N0, rfl⟩) (by decide : 0 ≤ _) (by decide : 0 ≤ _)
theorem d14_0 : decode jdk_32_method_6_code 0 = .ok (.aload_n 0, 1) := by decide +kernel
theorem d14_1 : decode jdk_32_method_6_code 1 = .ok (.getfield 13, 3) := by decide +kernel
theorem d14_4 : decode jdk_32_method_6_code 4 = .ok (.ifnull 7, 3) := by decide +kernel
theorem d14_7 : decode jdk_32_method_6_code 7 = .ok (.iconst 1, 1) := by decide +kernel
theorem d14_8 : decode jdk_32_method_6_code 8 = .ok (.goto 4, 3) := by decide +kernel
theorem d14_12 : decode jdk_32_method_6_code 12 = .ok (.ireturn, 1) := by decide +kernel
theorem ef_rmP1 (m : MethodId) (o0 : Addr)  : entryFrame m #[(.ref o0)] 1 = mkF m 0 #[.val (.ref o0)] [] := by first |  (simp [entryFrame, mkF, argsToLocals, Value.category]; done) | rfl
def Q_rmP1 (Z : State) (o0 : Addr) (x : Addr) (h0 : Heap) (n0 : Nat) (v : Option Value) (h : Heap) (L : List Loc) : Prop := v = some (.int 1) ∧ Fr n0 L ∧ h = h0
set_option maxRecDepth 65536 in
set_option maxHeartbeats 40000000 in
theorem rmP1 (l : Launch) (Z : State) (a0 : Array Value) (hw : ∀ d ∈ tables_1, d.before a0 Z = true) (ws : List Jvm.Cond) (o0 : Addr) (x : Addr) (h0 : Heap) (n0 : Nat) (Z0 : n0 ≤ h0.size) (F_value_o0 : Fld Z h0 o0 "java/util/Optional" "value" "Ljava/lang/Object;" (.ref x)) :
    MetFree l (⟨"java/util/Optional", "isPresent", "()Z"⟩ : MethodName) (head1 (Jvm.Cond.code (⟨"java/util/Optional", "isPresent", "()Z"⟩ : MethodName) jdk_32_method_6_code 1 (some .boolean) :: ws) ({ frames := 0, cells := 0, slots := 0, locals := 0 } : Room)) (fun a U => a = #[(.ref o0)] ∧ Z.Warmed39 U.vm ∧ U.heap = h0) (fun _ _ _ _ _ => True) (fun _ U o U' => ∃ v L, o = .returned v ∧ Q_rmP1 Z o0 x h0 n0 v U'.heap L ∧ FrameEnd U o U' L ({ frames := 0, cells := 0, slots := 0, locals := 0 } : Room).cells ({ frames := 0, cells := 0, slots := 0, locals := 0 } : Room).slots) := by
  refine MetFree.of_bodySF (plainFor_of_name pn_java_util_Optional) hisR ?_
  intro p e s m args below meth c s₁ Bd hml0 hP hK
  obtain ⟨rfl, hZ, hh⟩ := hP
  have hx := Bd.exec
  have hby := Bd.bytes
  have hml : c.maxLocals = 1 := hml0
  have hown : s.vm.findClass "java/util/Optional" = some m.cls := findClass_of_methodNamed Bd.named
  have hnm := (name_of_methodNamed Bd.named Bd.method).1
  have hlk := Bd.notSynchronized
  have X0 : Stand p l e ({ frames := 0, cells := 0, slots := 0, locals := 0 } : Room) s m #[(.ref o0)] below meth c s₁ [] 0 0 := Stand.of_body Bd
  have e0 : s₁.heap = h0 := by rw [← hh, Bd.state]; rfl
  have N0 := Fr.nil n0
  show own_G p.tables e below s (Q_rmP1 Z o0 x h0 n0) ({ frames := 0, cells := 0, slots := 0, locals := 0 } : Room).cells ({ frames := 0, cells := 0, slots := 0, locals := 0 } : Room).slots _
  refine own_thr (a := s₁.setTop (mkF m 0 #[.val (.ref o0)] [])) (fun t kt => castTop (ef_rmP1 m o0) kt) ?_
  refine own_thr (a := s₁.setTop (mkF m 1 #[.val (.ref o0)] [(.ref o0)])) (fun t kt => ?_) ?_
  · refine XS.aloadN X0.here hx rfl (hb hby d14_0) rfl rfl ?_
    exact kt
  obtain ⟨T1, X1, e1, st1⟩ := getF X0 hx hZ hown (host := "") (Or.inl (hw _ (own_i 78 rfl))) Via.refl e0 F_value_o0 (g := (mkF m 1 #[.val (.ref o0)] [(.ref o0)])) rfl rfl (hb hby d14_1)
  refine own_thr (a := T1.setTop (mkF m 4 #[.val (.ref o0)] [(.ref x)])) (fun t kt => st1 t kt) ?_
  refine own_thr (a := T1.setTop (mkF m 12 #[.val (.ref o0)] [(.int 1)])) (fun t kt => ?_) ?_
  · refine XS.ifnullNo X1.here hx rfl (hb hby d14_4) rfl ?_
    refine XS.iconst X1.here hx rfl (hb hby d14_7) ?_
    refine XS.goto X1.here hx rfl (pc0 := 8) (pc' := 12) rfl (hb hby d14_8) (by decide) (by decide) ?_
    exact kt
  exact own_end X1 hlk (v := some (.int 1)) (fun h => by rw [Bd.returns] at h; cases h) (fun fs hr => retN X1 hx (t := .boolean) Bd.returns (by simp) (hb hby d14_12) hr) (by rw [e1]; exact ⟨rfl, N0, rfl⟩) (by decide : 0 ≤ _) (by decide : 0 ≤ _)
theorem d14_11 : decode jdk_32_method_6_code 11 = .ok (.iconst 0, 1) := by decide +kernel
theorem ef_rmP0 (m : MethodId) (o0 : Addr)  : entryFrame m #[(.ref o0)] 1 = mkF m 0 #[.val (.ref o0)] [] := by first |  (simp [entryFrame, mkF, argsToLocals, Value.category]; done) | rfl
def Q_rmP0 (Z : State) (o0 : Addr) (h0 : Heap) (n0 : Nat) (v : Option Value) (h : Heap) (L : List Loc) : Prop := v = some (.int 0) ∧ Fr n0 L ∧ h = h0
set_option maxRecDepth 65536 in
set_option maxHeartbeats 40000000 in
theorem rmP0 (l : Launch) (Z : State) (a0 : Array Value) (hw : ∀ d ∈ tables_1, d.before a0 Z = true) (ws : List Jvm.Cond) (o0 : Addr) (h0 : Heap) (n0 : Nat) (Z0 : n0 ≤ h0.size) (F_value_o0 : Fld Z h0 o0 "java/util/Optional" "value" "Ljava/lang/Object;" .null) :
    MetFree l (⟨"java/util/Optional", "isPresent", "()Z"⟩ : MethodName) (head1 (Jvm.Cond.code (⟨"java/util/Optional", "isPresent", "()Z"⟩ : MethodName) jdk_32_method_6_code 1 (some .boolean) :: ws) ({ frames := 0, cells := 0, slots := 0, locals := 0 } : Room)) (fun a U => a = #[(.ref o0)] ∧ Z.Warmed39 U.vm ∧ U.heap = h0) (fun _ _ _ _ _ => True) (fun _ U o U' => ∃ v L, o = .returned v ∧ Q_rmP0 Z o0 h0 n0 v U'.heap L ∧ FrameEnd U o U' L ({ frames := 0, cells := 0, slots := 0, locals := 0 } : Room).cells ({ frames := 0, cells := 0, slots := 0, locals := 0 } : Room).slots) := by
  refine MetFree.of_bodySF (plainFor_of_name pn_java_util_Optional) hisR ?_
  intro p e s m args below meth c s₁ Bd hml0 hP hK
  obtain ⟨rfl, hZ, hh⟩ := hP
  have hx := Bd.exec
  have hby := Bd.bytes
  have hml : c.maxLocals = 1 := hml0
  have hown : s.vm.findClass "java/util/Optional" = some m.cls := findClass_of_methodNamed Bd.named
  have hnm := (name_of_methodNamed Bd.named Bd.method).1
  have hlk := Bd.notSynchronized
  have X0 : Stand p l e ({ frames := 0, cells := 0, slots := 0, locals := 0 } : Room) s m #[(.ref o0)] below meth c s₁ [] 0 0 := Stand.of_body Bd
  have e0 : s₁.heap = h0 := by rw [← hh, Bd.state]; rfl
  have N0 := Fr.nil n0
  show own_G p.tables e below s (Q_rmP0 Z o0 h0 n0) ({ frames := 0, cells := 0, slots := 0, locals := 0 } : Room).cells ({ frames := 0, cells := 0, slots := 0, locals := 0 } : Room).slots _
  refine own_thr (a := s₁.setTop (mkF m 0 #[.val (.ref o0)] [])) (fun t kt => castTop (ef_rmP0 m o0) kt) ?_
  refine own_thr (a := s₁.setTop (mkF m 1 #[.val (.ref o0)] [(.ref o0)])) (fun t kt => ?_) ?_
  · refine XS.aloadN X0.here hx rfl (hb hby d14_0) rfl rfl ?_
    exact kt
  obtain ⟨T1, X1, e1, st1⟩ := getF X0 hx hZ hown (host := "") (Or.inl (hw _ (own_i 78 rfl))) Via.refl e0 F_value_o0 (g := (mkF m 1 #[.val (.ref o0)] [(.ref o0)])) rfl rfl (hb hby d14_1)
  refine own_thr (a := T1.setTop (mkF m 4 #[.val (.ref o0)] [.null])) (fun t kt => st1 t kt) ?_
  refine own_thr (a := T1.setTop (mkF m 12 #[.val (.ref o0)] [(.int 0)])) (fun t kt => ?_) ?_
  · refine XS.ifnullYes X1.here hx rfl (pc0 := 4) (pc' := 11) rfl (hb hby d14_4) rfl (by decide) (by decide) ?_
    refine XS.iconst X1.here hx rfl (hb hby d14_11) ?_
    exact kt
  exact own_end X1 hlk (v := some (.int 0)) (fun h => by rw [Bd.returns] at h; cases h) (fun fs hr => retN X1 hx (t := .boolean) Bd.returns (by simp) (hb hby d14_12) hr) (by rw [e1]; exact ⟨rfl, N0, rfl⟩) (by decide : 0 ≤ _) (by decide : 0 ≤ _)
theorem d15_0 : decode jdk_32_method_5_code 0 = .ok (.aload_n 0, 1) := by decide +kernel
theorem d15_1 : decode jdk_32_method_5_code 1 = .ok (.getfield 13, 3) := by decide +kernel
theorem d15_4 : decode jdk_32_method_5_code 4 = .ok (.ifnonnull 13, 3) := by decide +kernel
theorem d15_17 : decode jdk_32_method_5_code 17 = .ok (.aload_n 0, 1) := by decide +kernel
theorem d15_18 : decode jdk_32_method_5_code 18 = .ok (.getfield 13, 3) := by decide +kernel
theorem d15_21 : decode jdk_32_method_5_code 21 = .ok (.areturn, 1) := by decide +kernel
theorem ef_rmGT (m : MethodId) (o0 : Addr)  : entryFrame m #[(.ref o0)] 1 = mkF m 0 #[.val (.ref o0)] [] := by first |  (simp [entryFrame, mkF, argsToLocals, Value.category]; done) | rfl
def Q_rmGT (Z : State) (o0 : Addr) (x : Addr) (h0 : Heap) (n0 : Nat) (v : Option Value) (h : Heap) (L : List Loc) : Prop := v = some (.ref x) ∧ Fr n0 L ∧ h = h0
set_option maxRecDepth 65536 in
set_option maxHeartbeats 40000000 in
theorem rmGT (l : Launch) (Z : State) (a0 : Array Value) (hw : ∀ d ∈ tables_1, d.before a0 Z = true) (ws : List Jvm.Cond) (o0 : Addr) (x : Addr) (h0 : Heap) (n0 : Nat) (Z0 : n0 ≤ h0.size) (F_value_o0 : Fld Z h0 o0 "java/util/Optional" "value" "Ljava/lang/Object;" (.ref x)) :
    MetFree l (⟨"java/util/Optional", "get", "()Ljava/lang/Object;"⟩ : MethodName) (head1 (Jvm.Cond.code (⟨"java/util/Optional", "get", "()Ljava/lang/Object;"⟩ : MethodName) jdk_32_method_5_code 1 (some (.object "java/lang/Object")) :: ws) ({ frames := 0, cells := 0, slots := 0, locals := 0 } : Room)) (fun a U => a = #[(.ref o0)] ∧ Z.Warmed39 U.vm ∧ U.heap = h0) (fun _ _ _ _ _ => True) (fun _ U o U' => ∃ v L, o = .returned v ∧ Q_rmGT Z o0 x h0 n0 v U'.heap L ∧ FrameEnd U o U' L ({ frames := 0, cells := 0, slots := 0, locals := 0 } : Room).cells ({ frames := 0, cells := 0, slots := 0, locals := 0 } : Room).slots) := by
  refine MetFree.of_bodySF (plainFor_of_name pn_java_util_Optional) hisR ?_
  intro p e s m args below meth c s₁ Bd hml0 hP hK
  obtain ⟨rfl, hZ, hh⟩ := hP
  have hx := Bd.exec
  have hby := Bd.bytes
  have hml : c.maxLocals = 1 := hml0
  have hown : s.vm.findClass "java/util/Optional" = some m.cls := findClass_of_methodNamed Bd.named
  have hnm := (name_of_methodNamed Bd.named Bd.method).1
  have hlk := Bd.notSynchronized
  have X0 : Stand p l e ({ frames := 0, cells := 0, slots := 0, locals := 0 } : Room) s m #[(.ref o0)] below meth c s₁ [] 0 0 := Stand.of_body Bd
  have e0 : s₁.heap = h0 := by rw [← hh, Bd.state]; rfl
  have N0 := Fr.nil n0
  show own_G p.tables e below s (Q_rmGT Z o0 x h0 n0) ({ frames := 0, cells := 0, slots := 0, locals := 0 } : Room).cells ({ frames := 0, cells := 0, slots := 0, locals := 0 } : Room).slots _
  refine own_thr (a := s₁.setTop (mkF m 0 #[.val (.ref o0)] [])) (fun t kt => castTop (ef_rmGT m o0) kt) ?_
  refine own_thr (a := s₁.setTop (mkF m 1 #[.val (.ref o0)] [(.ref o0)])) (fun t kt => ?_) ?_
  · refine XS.aloadN X0.here hx rfl (hb hby d15_0) rfl rfl ?_
    exact kt
  obtain ⟨T1, X1, e1, st1⟩ := getF X0 hx hZ hown (host := "") (Or.inl (hw _ (own_i 78 rfl))) Via.refl e0 F_value_o0 (g := (mkF m 1 #[.val (.ref o0)] [(.ref o0)])) rfl rfl (hb hby d15_1)
  refine own_thr (a := T1.setTop (mkF m 4 #[.val (.ref o0)] [(.ref x)])) (fun t kt => st1 t kt) ?_
  refine own_thr (a := T1.setTop (mkF m 18 #[.val (.ref o0)] [(.ref o0)])) (fun t kt => ?_) ?_
  · refine XS.ifnonnullYes X1.here hx rfl (pc0 := 4) (pc' := 17) rfl (hb hby d15_4) rfl (by decide) (by decide) ?_
    refine XS.aloadN X1.here hx rfl (hb hby d15_17) rfl rfl ?_
    exact kt
  obtain ⟨T2, X2, e2, st2⟩ := getF X1 hx hZ hown (host := "") (Or.inl (hw _ (own_i 78 rfl))) Via.refl e1 F_value_o0 (g := (mkF m 18 #[.val (.ref o0)] [(.ref o0)])) rfl rfl (hb hby d15_18)
  refine own_thr (a := T2.setTop (mkF m 21 #[.val (.ref o0)] [(.ref x)])) (fun t kt => st2 t kt) ?_
  exact own_end X2 hlk (v := some (.ref x)) (fun h => by rw [Bd.returns] at h; cases h) (fun fs hr => retA X2 hx Bd.returns rfl rfl (hb hby d15_21) hr) (by rw [e2]; exact ⟨rfl, N0, rfl⟩) (by decide : 0 ≤ _) (by decide : 0 ≤ _)
theorem d8_0 : decode prog_1_method_1_code 0 = .ok (.getstatic 10, 3) := by decide +kernel
theorem d8_3 : decode prog_1_method_1_code 3 = .ok (.invokevirtual 14, 3) := by decide +kernel
theorem d8_6 : decode prog_1_method_1_code 6 = .ok (.checkcast 15, 3) := by decide +kernel
theorem d8_9 : decode prog_1_method_1_code 9 = .ok (.areturn, 1) := by decide +kernel
theorem pn_com_example_durable_dispatch_durabledispatch_cli_Option : plainName "com/example/durable_dispatch/durabledispatch/cli/Option" = true := by first | (simp [plainName, overriddenIn]; done) | decide +kernel
theorem ef_rmV (m : MethodId)   : entryFrame m #[] 0 = mkF m 0 #[] [] := by first |  (simp [entryFrame, mkF, argsToLocals, Value.category]; done) | rfl
def Q_rmV (Z : State)  (va : Addr) (kv : ClassId) (ou : Addr) (oq : Addr) (h0 : Heap) (n0 : Nat) (v : Option Value) (h : Heap) (L : List Loc) : Prop := ∃ b : Addr, v = some (.ref b) ∧ Fr n0 L ∧ Keep h0 h [] ∧ Arv Z h b kv (.object "com/example/durable_dispatch/durabledispatch/cli/Option") (2 : Int32) [(.ref ou), (.ref oq)] .null
set_option maxRecDepth 65536 in
set_option maxHeartbeats 40000000 in
theorem rmV (l : Launch) (Z : State) (a0 : Array Value) (hw : ∀ d ∈ tables_1, d.before a0 Z = true) (ws : List Jvm.Cond)  (va : Addr) (kv : ClassId) (ou : Addr) (oq : Addr) (h0 : Heap) (n0 : Nat) (Z0 : n0 ≤ h0.size) (S_V : Sta Z h0 "com/example/durable_dispatch/durabledispatch/cli/Option" "$VALUES" "[Lcom/example/durable_dispatch/durabledispatch/cli/Option;" (.ref va)) (V_va : Arv Z Z.heap va kv (.object "com/example/durable_dispatch/durabledispatch/cli/Option") (2 : Int32) [(.ref ou), (.ref oq)] .null) (E_va : Exa Z h0 va "[Lcom/example/durable_dispatch/durabledispatch/cli/Option;") (hfit : Fit Z) (hO : Old Z n0 h0) :
    MetFree l (⟨"com/example/durable_dispatch/durabledispatch/cli/Option", "values", "()[Lcom/example/durable_dispatch/durabledispatch/cli/Option;"⟩ : MethodName) (head1 (Jvm.Cond.code (⟨"com/example/durable_dispatch/durabledispatch/cli/Option", "values", "()[Lcom/example/durable_dispatch/durabledispatch/cli/Option;"⟩ : MethodName) prog_1_method_1_code 0 (some (.array (.object "com/example/durable_dispatch/durabledispatch/cli/Option"))) :: ws) ({ frames := 1, cells := 1, slots := 2, locals := 14 } : Room)) (fun a U => a = #[] ∧ Z.Warmed39 U.vm ∧ U.heap = h0) (fun _ _ _ _ _ => True) (fun _ U o U' => ∃ v L, o = .returned v ∧ Q_rmV Z  va kv ou oq h0 n0 v U'.heap L ∧ FrameEnd U o U' L ({ frames := 1, cells := 1, slots := 2, locals := 14 } : Room).cells ({ frames := 1, cells := 1, slots := 2, locals := 14 } : Room).slots) := by
  refine MetFree.of_bodySF (plainFor_of_name pn_com_example_durable_dispatch_durabledispatch_cli_Option) hisR ?_
  intro p e s m args below meth c s₁ Bd hml0 hP hK
  obtain ⟨rfl, hZ, hh⟩ := hP
  have hx := Bd.exec
  have hby := Bd.bytes
  have hml : c.maxLocals = 0 := hml0
  have hown : s.vm.findClass "com/example/durable_dispatch/durabledispatch/cli/Option" = some m.cls := findClass_of_methodNamed Bd.named
  have hnm := (name_of_methodNamed Bd.named Bd.method).1
  have hlk := Bd.notSynchronized
  have X0 : Stand p l e ({ frames := 1, cells := 1, slots := 2, locals := 14 } : Room) s m #[] below meth c s₁ [] 0 0 := Stand.of_body Bd
  have e0 : s₁.heap = h0 := by rw [← hh, Bd.state]; rfl
  have N0 := Fr.nil n0
  show own_G p.tables e below s (Q_rmV Z  va kv ou oq h0 n0) ({ frames := 1, cells := 1, slots := 2, locals := 14 } : Room).cells ({ frames := 1, cells := 1, slots := 2, locals := 14 } : Room).slots _
  refine own_thr (a := s₁.setTop (mkF m 0 #[] [])) (fun t kt => castTop (ef_rmV m ) kt) ?_
  obtain ⟨T1, X1, e1, st1⟩ := getS2 X0 hx hZ hown (host := "") (Or.inl (hw _ (own_i 37 rfl))) Via.refl e0 S_V (g := (mkF m 0 #[] [])) rfl (hb hby d8_0)
  refine own_thr (a := T1.setTop (mkF m 3 #[] [(.ref va)])) (fun t kt => st1 t kt) ?_
  obtain ⟨cl, A0, qk, S0, M0, H0, G0⟩ := id V_va
  have A1 := A0.ext hO.2
  obtain ⟨T2, h2, X2, e2, E2, A2, Ec2, st2⟩ := cloneA X1 hx hZ hown (hw _ (own_i 39 rfl)) (hw _ (own_i 40 rfl)) (hw _ (own_i 44 rfl)) (hw _ (own_i 42 rfl)) (hw _ (own_i 43 rfl)) (hw _ (own_i 45 rfl)) e1 A1 E_va (FitC.start hfit A0) (g := (mkF m 3 #[] [(.ref va)])) rfl (by rw [hml]; rfl) rfl (hb hby d8_3) (by decide) (W := 0) (cap := 2) (by show 2 * 0 + _ ≤ _; exact Nat.le_of_eq rfl) (by decide) (by rw [S0]; decide) (by decide : 0 + 1 ≤ _) (by decide : 0 + 2 ≤ _)
  obtain ⟨b2, g2⟩ : ∃ z, z = h0.size := ⟨_, rfl⟩
  rw [← g2] at A2 Ec2 st2
  have g_b2 : n0 ≤ b2 := Nat.le_trans Z0 (Nat.le_of_eq g2.symm)
  have sz_b2 : h0.size ≤ b2 := Nat.le_trans (Nat.le_refl h0.size) (Nat.le_of_eq g2.symm)
  have Z3 : n0 ≤ h2.size := Nat.le_trans Z0 E2.1
  have Z3h : h0.size ≤ h2.size := Nat.le_trans (Nat.le_refl h0.size) E2.1
  have V_b2 : Arv Z h2 b2 kv (.object "com/example/durable_dispatch/durabledispatch/cli/Option") (2 : Int32) [(.ref ou), (.ref oq)] .null := ⟨cloneOf cl, A2, qk, S0, M0, H0, G0⟩
  refine own_thr (a := T2.setTop (mkF m 6 #[] [(.ref b2)])) (fun t kt => st2 t kt) ?_
  obtain ⟨T4, X4, e4, st4⟩ := castY X2 hx hZ hown (hw _ (own_i 49 rfl)) e2 (Ins.self Ec2) (g := (mkF m 6 #[] [(.ref b2)])) rfl rfl (hb hby d8_6)
  refine own_thr (a := T4.setTop (mkF m 9 #[] [(.ref b2)])) (fun t kt => st4 t kt) ?_
  exact own_end X4 hlk (v := some (.ref b2)) (fun h => by rw [Bd.returns] at h; cases h) (fun fs hr => retA X4 hx Bd.returns rfl rfl (hb hby d8_9) hr) (by rw [e4]; exact ⟨b2, rfl, N0, ((Keep.refl h0 []).ext E2), V_b2⟩) (by decide : 1 ≤ _) (by decide : 2 ≤ _)
theorem pd__28_29_5bLcom_2fexample_2fdurable_dispatch_2fdurabledispatch_2fcli_2fOption_3b : parseMethodDescriptor "()[Lcom/example/durable_dispatch/durabledispatch/cli/Option;" = some ⟨[], some (.array (.object "com/example/durable_dispatch/durabledispatch/cli/Option"))⟩ := by decide +kernel
theorem d7_0 : decode prog_1_method_4_code 0 = .ok (.invokestatic 36, 3) := by decide +kernel
theorem d7_3 : decode prog_1_method_4_code 3 = .ok (.astore_n 1, 1) := by decide +kernel
theorem d7_4 : decode prog_1_method_4_code 4 = .ok (.aload_n 1, 1) := by decide +kernel
theorem d7_5 : decode prog_1_method_4_code 5 = .ok (.arraylength, 1) := by decide +kernel
theorem d7_6 : decode prog_1_method_4_code 6 = .ok (.istore_n 2, 1) := by decide +kernel
theorem d7_7 : decode prog_1_method_4_code 7 = .ok (.iconst 0, 1) := by decide +kernel
theorem d7_8 : decode prog_1_method_4_code 8 = .ok (.istore_n 3, 1) := by decide +kernel
theorem d7_9 : decode prog_1_method_4_code 9 = .ok (.iload_n 3, 1) := by decide +kernel
theorem d7_10 : decode prog_1_method_4_code 10 = .ok (.iload_n 2, 1) := by decide +kernel
theorem d7_11 : decode prog_1_method_4_code 11 = .ok (.if_icmp .ge 32, 3) := by decide +kernel
theorem d7_14 : decode prog_1_method_4_code 14 = .ok (.aload_n 1, 1) := by decide +kernel
theorem d7_15 : decode prog_1_method_4_code 15 = .ok (.iload_n 3, 1) := by decide +kernel
theorem d7_16 : decode prog_1_method_4_code 16 = .ok (.aaload, 1) := by decide +kernel
theorem d7_17 : decode prog_1_method_4_code 17 = .ok (.astore 4, 2) := by decide +kernel
theorem d7_19 : decode prog_1_method_4_code 19 = .ok (.aload 4, 2) := by decide +kernel
theorem d7_21 : decode prog_1_method_4_code 21 = .ok (.getfield 29, 3) := by decide +kernel
theorem d7_24 : decode prog_1_method_4_code 24 = .ok (.aload_n 0, 1) := by decide +kernel
theorem pd__28Ljava_2flang_2fObject_3b_29Z : parseMethodDescriptor "(Ljava/lang/Object;)Z" = some ⟨[(.object "java/lang/Object")], some .boolean⟩ := by decide +kernel
theorem d7_25 : decode prog_1_method_4_code 25 = .ok (.invokevirtual 40, 3) := by decide +kernel
theorem d7_28 : decode prog_1_method_4_code 28 = .ok (.ifCond .eq 9, 3) := by decide +kernel
theorem d7_31 : decode prog_1_method_4_code 31 = .ok (.aload 4, 2) := by decide +kernel
theorem pd__28Ljava_2flang_2fObject_3b_29Ljava_2futil_2fOptional_3b : parseMethodDescriptor "(Ljava/lang/Object;)Ljava/util/Optional;" = some ⟨[(.object "java/lang/Object")], some (.object "java/util/Optional")⟩ := by decide +kernel
theorem d7_33 : decode prog_1_method_4_code 33 = .ok (.invokestatic 46, 3) := by decide +kernel
theorem d7_36 : decode prog_1_method_4_code 36 = .ok (.areturn, 1) := by decide +kernel
theorem ef_rmBFU (m : MethodId) (o0 : Addr)  : entryFrame m #[(.ref o0)] 5 = mkF m 0 #[.val (.ref o0), .unset, .unset, .unset, .unset] [] := by first |  (simp [entryFrame, mkF, argsToLocals, Value.category]; done) | rfl
def Q_rmBFU (Z : State) (o0 : Addr) (va : Addr) (kv : ClassId) (ou : Addr) (oq : Addr) (em : Addr) (flu : Addr) (fvu : Addr) (kfu : ClassId) (flq : Addr) (fvq : Addr) (kfq : ClassId) (cs : Int32) (sv : Addr) (ks : ClassId) (h0 : Heap) (n0 : Nat) (v : Option Value) (h : Heap) (L : List Loc) : Prop := ∃ r : Addr, v = some (.ref r) ∧ Fr n0 L ∧ Keep h0 h [] ∧ Exa Z h r "java/util/Optional" ∧ Fld Z h r "java/util/Optional" "value" "Ljava/lang/Object;" (.ref ou)
set_option maxRecDepth 65536 in
set_option maxHeartbeats 40000000 in
theorem rmBFU (l : Launch) (Z : State) (a0 : Array Value) (hw : ∀ d ∈ tables_1, d.before a0 Z = true) (ws : List Jvm.Cond) (o0 : Addr) (va : Addr) (kv : ClassId) (ou : Addr) (oq : Addr) (em : Addr) (flu : Addr) (fvu : Addr) (kfu : ClassId) (flq : Addr) (fvq : Addr) (kfq : ClassId) (cs : Int32) (sv : Addr) (ks : ClassId) (h0 : Heap) (n0 : Nat) (Z0 : n0 ≤ h0.size) (S_V : Sta Z Z.heap "com/example/durable_dispatch/durabledispatch/cli/Option" "$VALUES" "[Lcom/example/durable_dispatch/durabledispatch/cli/Option;" (.ref va)) (V_va : Arv Z Z.heap va kv (.object "com/example/durable_dispatch/durabledispatch/cli/Option") (2 : Int32) [(.ref ou), (.ref oq)] .null) (E_va : Exa Z Z.heap va "[Lcom/example/durable_dispatch/durabledispatch/cli/Option;") (hfit : Fit Z) (S_em : Sta Z Z.heap "java/util/Optional" "EMPTY" "Ljava/util/Optional;" (.ref em)) (S_cs : Sta Z Z.heap "java/lang/String" "COMPACT_STRINGS" "Z" (.int cs)) (hcs : ¬ cs = (0 : Int32)) (hO : Old Z n0 h0) (F_flu : Fld Z h0 ou "com/example/durable_dispatch/durabledispatch/cli/Option" "flag" "Ljava/lang/String;" (.ref flu)) (E_flu : Exa Z h0 flu "java/lang/String") (F_fvu : Fld Z h0 flu "java/lang/String" "value" "[B" (.ref fvu)) (F_fluc : Fld Z h0 flu "java/lang/String" "coder" "B" (.int 0)) (V_fvu : Arv Z h0 fvu kfu .byte (5 : Int32) [(.int 45), (.int 45), (.int 117), (.int 114), (.int 108)] (.int 0)) (F_flq : Fld Z h0 oq "com/example/durable_dispatch/durabledispatch/cli/Option" "flag" "Ljava/lang/String;" (.ref flq)) (E_flq : Exa Z h0 flq "java/lang/String") (F_fvq : Fld Z h0 flq "java/lang/String" "value" "[B" (.ref fvq)) (F_flqc : Fld Z h0 flq "java/lang/String" "coder" "B" (.int 0)) (V_fvq : Arv Z h0 fvq kfq .byte (7 : Int32) [(.int 45), (.int 45), (.int 113), (.int 117), (.int 101), (.int 117), (.int 101)] (.int 0)) (E_o0 : Exa Z h0 o0 "java/lang/String") (F_sv : Fld Z h0 o0 "java/lang/String" "value" "[B" (.ref sv)) (F_o0c : Fld Z h0 o0 "java/lang/String" "coder" "B" (.int 0)) (V_sv : Arv Z h0 sv ks .byte (5 : Int32) [(.int 45), (.int 45), (.int 117), (.int 114), (.int 108)] (.int 0)) :
    MetFree l (⟨"com/example/durable_dispatch/durabledispatch/cli/Option", "byFlag", "(Ljava/lang/String;)Ljava/util/Optional;"⟩ : MethodName) (head1 (Jvm.Cond.code (⟨"com/example/durable_dispatch/durabledispatch/cli/Option", "byFlag", "(Ljava/lang/String;)Ljava/util/Optional;"⟩ : MethodName) prog_1_method_4_code 5 (some (.object "java/util/Optional")) :: ws) ({ frames := 3, cells := 2, slots := 3, locals := 38 } : Room)) (fun a U => a = #[(.ref o0)] ∧ Z.Warmed39 U.vm ∧ U.heap = h0) (fun _ _ _ _ _ => True) (fun _ U o U' => ∃ v L, o = .returned v ∧ Q_rmBFU Z o0 va kv ou oq em flu fvu kfu flq fvq kfq cs sv ks h0 n0 v U'.heap L ∧ FrameEnd U o U' L ({ frames := 3, cells := 2, slots := 3, locals := 38 } : Room).cells ({ frames := 3, cells := 2, slots := 3, locals := 38 } : Room).slots) := by
  refine MetFree.of_bodySF (plainFor_of_name pn_com_example_durable_dispatch_durabledispatch_cli_Option) hisR ?_
  intro p e s m args below meth c s₁ Bd hml0 hP hK
  obtain ⟨rfl, hZ, hh⟩ := hP
  have hx := Bd.exec
  have hby := Bd.bytes
  have hml : c.maxLocals = 5 := hml0
  have hown : s.vm.findClass "com/example/durable_dispatch/durabledispatch/cli/Option" = some m.cls := findClass_of_methodNamed Bd.named
  have hnm := (name_of_methodNamed Bd.named Bd.method).1
  have hlk := Bd.notSynchronized
  have X0 : Stand p l e ({ frames := 3, cells := 2, slots := 3, locals := 38 } : Room) s m #[(.ref o0)] below meth c s₁ [] 0 0 := Stand.of_body Bd
  have e0 : s₁.heap = h0 := by rw [← hh, Bd.state]; rfl
  have N0 := Fr.nil n0
  show own_G p.tables e below s (Q_rmBFU Z o0 va kv ou oq em flu fvu kfu flq fvq kfq cs sv ks h0 n0) ({ frames := 3, cells := 2, slots := 3, locals := 38 } : Room).cells ({ frames := 3, cells := 2, slots := 3, locals := 38 } : Room).slots _
  refine own_thr (a := s₁.setTop (mkF m 0 #[.val (.ref o0), .unset, .unset, .unset, .unset] [])) (fun t kt => castTop (ef_rmBFU m o0) kt) ?_
  obtain ⟨_, _, ⟨T1, L1, k1, n1⟩, -, X1, ⟨Lc1, hQ1, l1, y1, z1⟩, st1⟩ := Jvm.LawKit.callS X0 hx (y := (⟨"com/example/durable_dispatch/durabledispatch/cli/Option", "values", "()[Lcom/example/durable_dispatch/durabledispatch/cli/Option;"⟩ : MethodName)) hown (mvT hZ (hw _ (own_i 34 rfl))) (mvT hZ (hw _ (own_i 35 rfl))) (mvT hZ (hw _ (own_i 32 rfl))) (mvT hZ (hw _ (own_i 36 rfl))) (by decide) (backOf (W := 0) (rmV l Z a0 hw [] va kv ou oq h0 n0 Z0 (S_V.ext hO.2) V_va (E_va.ext hO.2) hfit hO) hZ (hw _ (own_i 36 rfl)) (hw _ (own_i 32 rfl)) (by decide) (by decide)) (g := (mkF m 0 #[.val (.ref o0), .unset, .unset, .unset, .unset] [])) rfl (by rw [hml]; rfl) (argsL := []) (rest := []) (lenOf pd__28_29_5bLcom_2fexample_2fdurable_dispatch_2fdurabledispatch_2fcli_2fOption_3b rfl) rfl (by show 2 * 0 + _ ≤ _; exact Nat.le_of_eq rfl) (hb hby d7_0) (fun _ _ => ⟨rfl, e0, (by decide : 0 + 1 ≤ _), (by decide : 0 + 2 ≤ _)⟩)
  dsimp only [Pt.U, Pt.locs, Pt.cells, Pt.slots] at X1 l1 y1 z1 st1 hQ1
  obtain ⟨b1, rfl, N1q, K1, V_b1⟩ := hQ1
  have Z2 : n0 ≤ T1.heap.size := Nat.le_trans Z0 K1.1
  have Z2h : h0.size ≤ T1.heap.size := Nat.le_trans (Nat.le_refl h0.size) K1.1
  obtain ⟨lc1, X1, N1⟩ := own_pack X1 l1 y1 z1 N0 N1q (C := 1) (S' := 2) rfl rfl
  refine own_thr (a := T1.setTop (mkF m 3 #[.val (.ref o0), .unset, .unset, .unset, .unset] [(.ref b1)])) (fun t kt => st1 t kt) ?_
  refine own_thr (a := T1.setTop (mkF m 5 #[.val (.ref o0), .val (.ref b1), .unset, .unset, .unset] [(.ref b1)])) (fun t kt => ?_) ?_
  · refine XS.astoreN X1.here hx rfl (hb hby d7_3) rfl rfl (l' := #[.val (.ref o0), .val (.ref b1), .unset, .unset, .unset]) rfl ?_
    refine XS.aloadN X1.here hx rfl (hb hby d7_4) rfl rfl ?_
    exact kt
  obtain ⟨cl3, Ar3, -, S3, M3, -, -⟩ := id V_b1
  refine own_thr (a := T1.setTop (mkF m 16 #[.val (.ref o0), .val (.ref b1), .val (.int 2), .val (.int 0), .unset] [(.int 0), (.ref b1)])) (fun t kt => ?_) ?_
  · refine X1.arraylength hx Ar3.1 (State.isArrayOf_alike hZ.alike Ar3.2.1) (g := (mkF m 5 #[.val (.ref o0), .val (.ref b1), .unset, .unset, .unset] [(.ref b1)])) rfl rfl (hb hby d7_5) _ ?_
    rw [len_of S3 M3]
    refine XS.istoreN X1.here hx rfl (hb hby d7_6) rfl (l' := #[.val (.ref o0), .val (.ref b1), .val (.int 2), .unset, .unset]) rfl ?_
    refine XS.iconst X1.here hx rfl (hb hby d7_7) ?_
    refine XS.istoreN X1.here hx rfl (hb hby d7_8) rfl (l' := #[.val (.ref o0), .val (.ref b1), .val (.int 2), .val (.int 0), .unset]) rfl ?_
    refine XS.iloadN X1.here hx rfl (hb hby d7_9) rfl ?_
    refine XS.iloadN X1.here hx rfl (hb hby d7_10) rfl ?_
    refine XS.icmpNo X1.here hx rfl (hb hby d7_11) rfl (tlt (by decide)).2.1 ?_
    refine XS.aloadN X1.here hx rfl (hb hby d7_14) rfl rfl ?_
    refine XS.iloadN X1.here hx rfl (hb hby d7_15) rfl ?_
    exact kt
  obtain ⟨cl4, Ar4, -, S4, M4, H4, -⟩ := id V_b1
  have hin4 : ¬ ((0 : Int32) < 0 ∨ cl4.slots.size ≤ ((0 : Int32)).toNatClampNeg) := inb_of S4 ⟨by decide, by decide⟩
  have hat4 : cl4.slots[((0 : Int32)).toNatClampNeg]? = some (.ref ou) := Has.at H4 hin4 rfl
  refine own_thr (a := T1.setTop (mkF m 21 #[.val (.ref o0), .val (.ref b1), .val (.int 2), .val (.int 0), .val (.ref ou)] [(.ref ou)])) (fun t kt => ?_) ?_
  · refine X1.aaload hx (j := (0 : Int32)) (v := (.ref ou)) Ar4.1 (State.isArrayOf_alike hZ.alike Ar4.2.1) rfl Ar4.2.2 hin4 hat4 (g := (mkF m 16 #[.val (.ref o0), .val (.ref b1), .val (.int 2), .val (.int 0), .unset] [(.int 0), (.ref b1)])) rfl rfl (hb hby d7_16) _ ?_
    refine XS.astore X1.here hx rfl (hb hby d7_17) rfl rfl (l' := #[.val (.ref o0), .val (.ref b1), .val (.int 2), .val (.int 0), .val (.ref ou)]) rfl ?_
    refine XS.aload X1.here hx rfl (hb hby d7_19) rfl rfl ?_
    exact kt
  obtain ⟨T5, X5, e5, st5⟩ := getF X1 hx hZ hown (host := "") (Or.inl (hw _ (own_i 51 rfl))) Via.refl rfl (F_flu.keep K1 nin0) (g := (mkF m 21 #[.val (.ref o0), .val (.ref b1), .val (.int 2), .val (.int 0), .val (.ref ou)] [(.ref ou)])) rfl rfl (hb hby d7_21)
  refine own_thr (a := T5.setTop (mkF m 24 #[.val (.ref o0), .val (.ref b1), .val (.int 2), .val (.int 0), .val (.ref ou)] [(.ref flu)])) (fun t kt => st5 t kt) ?_
  have S6 := S_cs.ext (hO.keep K1 all0).2
  refine own_thr (a := T5.setTop (mkF m 25 #[.val (.ref o0), .val (.ref b1), .val (.int 2), .val (.int 0), .val (.ref ou)] [(.ref o0), (.ref flu)])) (fun t kt => ?_) ?_
  · refine XS.aloadN X5.here hx rfl (hb hby d7_24) rfl rfl ?_
    exact kt
  obtain ⟨cq7, kq7, q7a, q7b, q7c⟩ := isOf hZ e5 (E_flu.keep K1)
  obtain ⟨_, _, ⟨T7, L7, k7, n7⟩, -, X7, ⟨Lc7, hQ7, l7, y7, z7⟩, st7⟩ := X5.virtualBack hx (y := (⟨"java/lang/String", "equals", "(Ljava/lang/Object;)Z"⟩ : MethodName)) (z := (⟨"java/lang/String", "equals", "(Ljava/lang/Object;)Z"⟩ : MethodName)) hown (mvT hZ (hw _ (own_i 53 rfl))) (mvT hZ (hw _ (own_i 54 rfl))) (notFace_of_selects (args := #[]) (mvT hZ (hw _ (own_i 56 rfl)))) (mvT hZ (hw _ (own_i 56 rfl))) (mvT hZ (hw _ (own_i 55 rfl))) (by decide) (backOf (W := 0) (rmEQH5 l Z a0 hw [] flu o0 fvu sv kfu ks cs T1.heap n0 Z2 (E_flu.keep K1) (F_fvu.keep K1 nin0) (F_fluc.keep K1 nin0) (E_o0.keep K1) (F_sv.keep K1 nin0) (F_o0c.keep K1 nin0) (V_fvu.keep K1 nin0) (V_sv.keep K1 nin0) S6 hcs) hZ (hw _ (own_i 57 rfl)) (hw _ (own_i 2 rfl)) (by decide) (by decide)) q7a q7c (g := (mkF m 25 #[.val (.ref o0), .val (.ref b1), .val (.int 2), .val (.int 0), .val (.ref ou)] [(.ref o0), (.ref flu)])) rfl (by rw [hml]; rfl) (Steps.refl _) (argsL := [(.ref o0)]) (rest := []) (lenOf pd__28Ljava_2flang_2fObject_3b_29Z rfl) rfl (by show 2 * 0 + _ ≤ _; exact Nat.le_of_eq rfl) (hb hby d7_25) (fun _ _ => ⟨rfl, e5, (by decide : 1 + 0 ≤ _), (by decide : 2 + 0 ≤ _)⟩)
  dsimp only [Pt.U, Pt.locs, Pt.cells, Pt.slots] at X7 l7 y7 z7 st7 hQ7
  obtain ⟨rfl, N7q, e7⟩ := hQ7
  obtain ⟨lc7, X7, N7⟩ := own_pack X7 l7 y7 z7 N1 N7q (C := 1) (S' := 2) rfl rfl
  refine own_thr (a := T7.setTop (mkF m 28 #[.val (.ref o0), .val (.ref b1), .val (.int 2), .val (.int 0), .val (.ref ou)] [(.int 1)])) (fun t kt => st7.trans kt) ?_
  refine own_thr (a := T7.setTop (mkF m 33 #[.val (.ref o0), .val (.ref b1), .val (.int 2), .val (.int 0), .val (.ref ou)] [(.ref ou)])) (fun t kt => ?_) ?_
  · refine XS.ifNo X7.here hx rfl (hb hby d7_28) rfl ((if0 _ _).trans (feq (by decide)).1) ?_
    refine XS.aload X7.here hx rfl (hb hby d7_31) rfl rfl ?_
    exact kt
  obtain ⟨_, _, ⟨T8, L8, k8, n8⟩, -, X8, ⟨Lc8, hQ8, l8, y8, z8⟩, st8⟩ := Jvm.LawKit.callS X7 hx (y := (⟨"java/util/Optional", "of", "(Ljava/lang/Object;)Ljava/util/Optional;"⟩ : MethodName)) hown (mvT hZ (hw _ (own_i 63 rfl))) (mvT hZ (hw _ (own_i 64 rfl))) (mvT hZ (hw _ (own_i 65 rfl))) (mvT hZ (hw _ (own_i 66 rfl))) (by decide) (backOf (W := 0) (rmOF l Z a0 hw [] ou T1.heap n0 Z2) hZ (hw _ (own_i 66 rfl)) (hw _ (own_i 65 rfl)) (by decide) (by decide)) (g := (mkF m 33 #[.val (.ref o0), .val (.ref b1), .val (.int 2), .val (.int 0), .val (.ref ou)] [(.ref ou)])) rfl (by rw [hml]; rfl) (argsL := [(.ref ou)]) (rest := []) (lenOf pd__28Ljava_2flang_2fObject_3b_29Ljava_2futil_2fOptional_3b rfl) rfl (by show 2 * 0 + _ ≤ _; exact Nat.le_of_eq rfl) (hb hby d7_33) (fun _ _ => ⟨rfl, e7, (by decide : 1 + 1 ≤ _), (by decide : 2 + 1 ≤ _)⟩)
  dsimp only [Pt.U, Pt.locs, Pt.cells, Pt.slots] at X8 l8 y8 z8 st8 hQ8
  obtain ⟨r8, rfl, N8q, K8, o8_0, o8_1⟩ := hQ8
  have Z9 : n0 ≤ T8.heap.size := Nat.le_trans Z2 K8.1
  have Z9h : h0.size ≤ T8.heap.size := Nat.le_trans Z2h K8.1
  obtain ⟨lc8, X8, N8⟩ := own_pack X8 l8 y8 z8 N7 N8q (C := 2) (S' := 3) rfl rfl
  refine own_thr (a := T8.setTop (mkF m 36 #[.val (.ref o0), .val (.ref b1), .val (.int 2), .val (.int 0), .val (.ref ou)] [(.ref r8)])) (fun t kt => st8 t kt) ?_
  exact own_end X8 hlk (v := some (.ref r8)) (fun h => by rw [Bd.returns] at h; cases h) (fun fs hr => retA X8 hx Bd.returns rfl rfl (hb hby d7_36) hr) ⟨r8, rfl, N8, (((Keep.refl h0 []).trans K1 all0).trans K8 all0), o8_0, o8_1⟩ (by decide : 2 ≤ _) (by decide : 3 ≤ _)
theorem d7_37 : decode prog_1_method_4_code 37 = .ok (.iinc 3 1, 3) := by decide +kernel
theorem d7_40 : decode prog_1_method_4_code 40 = .ok (.goto (-31), 3) := by decide +kernel
theorem ef_rmBFQ (m : MethodId) (o0 : Addr)  : entryFrame m #[(.ref o0)] 5 = mkF m 0 #[.val (.ref o0), .unset, .unset, .unset, .unset] [] := by first |  (simp [entryFrame, mkF, argsToLocals, Value.category]; done) | rfl
def Q_rmBFQ (Z : State) (o0 : Addr) (va : Addr) (kv : ClassId) (ou : Addr) (oq : Addr) (em : Addr) (flu : Addr) (fvu : Addr) (kfu : ClassId) (flq : Addr) (fvq : Addr) (kfq : ClassId) (cs : Int32) (sv : Addr) (ks : ClassId) (h0 : Heap) (n0 : Nat) (v : Option Value) (h : Heap) (L : List Loc) : Prop := ∃ r : Addr, v = some (.ref r) ∧ Fr n0 L ∧ Keep h0 h [] ∧ Exa Z h r "java/util/Optional" ∧ Fld Z h r "java/util/Optional" "value" "Ljava/lang/Object;" (.ref oq)
set_option maxRecDepth 65536 in
set_option maxHeartbeats 40000000 in
theorem rmBFQ (l : Launch) (Z : State) (a0 : Array Value) (hw : ∀ d ∈ tables_1, d.before a0 Z = true) (ws : List Jvm.Cond) (o0 : Addr) (va : Addr) (kv : ClassId) (ou : Addr) (oq : Addr) (em : Addr) (flu : Addr) (fvu : Addr) (kfu : ClassId) (flq : Addr) (fvq : Addr) (kfq : ClassId) (cs : Int32) (sv : Addr) (ks : ClassId) (h0 : Heap) (n0 : Nat) (Z0 : n0 ≤ h0.size) (S_V : Sta Z Z.heap "com/example/durable_dispatch/durabledispatch/cli/Option" "$VALUES" "[Lcom/example/durable_dispatch/durabledispatch/cli/Option;" (.ref va)) (V_va : Arv Z Z.heap va kv (.object "com/example/durable_dispatch/durabledispatch/cli/Option") (2 : Int32) [(.ref ou), (.ref oq)] .null) (E_va : Exa Z Z.heap va "[Lcom/example/durable_dispatch/durabledispatch/cli/Option;") (hfit : Fit Z) (S_em : Sta Z Z.heap "java/util/Optional" "EMPTY" "Ljava/util/Optional;" (.ref em)) (S_cs : Sta Z Z.heap "java/lang/String" "COMPACT_STRINGS" "Z" (.int cs)) (hcs : ¬ cs = (0 : Int32)) (hO : Old Z n0 h0) (F_flu : Fld Z h0 ou "com/example/durable_dispatch/durabledispatch/cli/Option" "flag" "Ljava/lang/String;" (.ref flu)) (E_flu : Exa Z h0 flu "java/lang/String") (F_fvu : Fld Z h0 flu "java/lang/String" "value" "[B" (.ref fvu)) (F_fluc : Fld Z h0 flu "java/lang/String" "coder" "B" (.int 0)) (V_fvu : Arv Z h0 fvu kfu .byte (5 : Int32) [(.int 45), (.int 45), (.int 117), (.int 114), (.int 108)] (.int 0)) (F_flq : Fld Z h0 oq "com/example/durable_dispatch/durabledispatch/cli/Option" "flag" "Ljava/lang/String;" (.ref flq)) (E_flq : Exa Z h0 flq "java/lang/String") (F_fvq : Fld Z h0 flq "java/lang/String" "value" "[B" (.ref fvq)) (F_flqc : Fld Z h0 flq "java/lang/String" "coder" "B" (.int 0)) (V_fvq : Arv Z h0 fvq kfq .byte (7 : Int32) [(.int 45), (.int 45), (.int 113), (.int 117), (.int 101), (.int 117), (.int 101)] (.int 0)) (E_o0 : Exa Z h0 o0 "java/lang/String") (F_sv : Fld Z h0 o0 "java/lang/String" "value" "[B" (.ref sv)) (F_o0c : Fld Z h0 o0 "java/lang/String" "coder" "B" (.int 0)) (V_sv : Arv Z h0 sv ks .byte (7 : Int32) [(.int 45), (.int 45), (.int 113), (.int 117), (.int 101), (.int 117), (.int 101)] (.int 0)) :
    MetFree l (⟨"com/example/durable_dispatch/durabledispatch/cli/Option", "byFlag", "(Ljava/lang/String;)Ljava/util/Optional;"⟩ : MethodName) (head1 (Jvm.Cond.code (⟨"com/example/durable_dispatch/durabledispatch/cli/Option", "byFlag", "(Ljava/lang/String;)Ljava/util/Optional;"⟩ : MethodName) prog_1_method_4_code 5 (some (.object "java/util/Optional")) :: ws) ({ frames := 3, cells := 2, slots := 3, locals := 38 } : Room)) (fun a U => a = #[(.ref o0)] ∧ Z.Warmed39 U.vm ∧ U.heap = h0) (fun _ _ _ _ _ => True) (fun _ U o U' => ∃ v L, o = .returned v ∧ Q_rmBFQ Z o0 va kv ou oq em flu fvu kfu flq fvq kfq cs sv ks h0 n0 v U'.heap L ∧ FrameEnd U o U' L ({ frames := 3, cells := 2, slots := 3, locals := 38 } : Room).cells ({ frames := 3, cells := 2, slots := 3, locals := 38 } : Room).slots) := by
  refine MetFree.of_bodySF (plainFor_of_name pn_com_example_durable_dispatch_durabledispatch_cli_Option) hisR ?_
  intro p e s m args below meth c s₁ Bd hml0 hP hK
  obtain ⟨rfl, hZ, hh⟩ := hP
  have hx := Bd.exec
  have hby := Bd.bytes
  have hml : c.maxLocals = 5 := hml0
  have hown : s.vm.findClass "com/example/durable_dispatch/durabledispatch/cli/Option" = some m.cls := findClass_of_methodNamed Bd.named
  have hnm := (name_of_methodNamed Bd.named Bd.method).1
  have hlk := Bd.notSynchronized
  have X0 : Stand p l e ({ frames := 3, cells := 2, slots := 3, locals := 38 } : Room) s m #[(.ref o0)] below meth c s₁ [] 0 0 := Stand.of_body Bd
  have e0 : s₁.heap = h0 := by rw [← hh, Bd.state]; rfl
  have N0 := Fr.nil n0
  show own_G p.tables e below s (Q_rmBFQ Z o0 va kv ou oq em flu fvu kfu flq fvq kfq cs sv ks h0 n0) ({ frames := 3, cells := 2, slots := 3, locals := 38 } : Room).cells ({ frames := 3, cells := 2, slots := 3, locals := 38 } : Room).slots _
  refine own_thr (a := s₁.setTop (mkF m 0 #[.val (.ref o0), .unset, .unset, .unset, .unset] [])) (fun t kt => castTop (ef_rmBFQ m o0) kt) ?_
  obtain ⟨_, _, ⟨T1, L1, k1, n1⟩, -, X1, ⟨Lc1, hQ1, l1, y1, z1⟩, st1⟩ := Jvm.LawKit.callS X0 hx (y := (⟨"com/example/durable_dispatch/durabledispatch/cli/Option", "values", "()[Lcom/example/durable_dispatch/durabledispatch/cli/Option;"⟩ : MethodName)) hown (mvT hZ (hw _ (own_i 34 rfl))) (mvT hZ (hw _ (own_i 35 rfl))) (mvT hZ (hw _ (own_i 32 rfl))) (mvT hZ (hw _ (own_i 36 rfl))) (by decide) (backOf (W := 0) (rmV l Z a0 hw [] va kv ou oq h0 n0 Z0 (S_V.ext hO.2) V_va (E_va.ext hO.2) hfit hO) hZ (hw _ (own_i 36 rfl)) (hw _ (own_i 32 rfl)) (by decide) (by decide)) (g := (mkF m 0 #[.val (.ref o0), .unset, .unset, .unset, .unset] [])) rfl (by rw [hml]; rfl) (argsL := []) (rest := []) (lenOf pd__28_29_5bLcom_2fexample_2fdurable_dispatch_2fdurabledispatch_2fcli_2fOption_3b rfl) rfl (by show 2 * 0 + _ ≤ _; exact Nat.le_of_eq rfl) (hb hby d7_0) (fun _ _ => ⟨rfl, e0, (by decide : 0 + 1 ≤ _), (by decide : 0 + 2 ≤ _)⟩)
  dsimp only [Pt.U, Pt.locs, Pt.cells, Pt.slots] at X1 l1 y1 z1 st1 hQ1
  obtain ⟨b1, rfl, N1q, K1, V_b1⟩ := hQ1
  have Z2 : n0 ≤ T1.heap.size := Nat.le_trans Z0 K1.1
  have Z2h : h0.size ≤ T1.heap.size := Nat.le_trans (Nat.le_refl h0.size) K1.1
  obtain ⟨lc1, X1, N1⟩ := own_pack X1 l1 y1 z1 N0 N1q (C := 1) (S' := 2) rfl rfl
  refine own_thr (a := T1.setTop (mkF m 3 #[.val (.ref o0), .unset, .unset, .unset, .unset] [(.ref b1)])) (fun t kt => st1 t kt) ?_
  refine own_thr (a := T1.setTop (mkF m 5 #[.val (.ref o0), .val (.ref b1), .unset, .unset, .unset] [(.ref b1)])) (fun t kt => ?_) ?_
  · refine XS.astoreN X1.here hx rfl (hb hby d7_3) rfl rfl (l' := #[.val (.ref o0), .val (.ref b1), .unset, .unset, .unset]) rfl ?_
    refine XS.aloadN X1.here hx rfl (hb hby d7_4) rfl rfl ?_
    exact kt
  obtain ⟨cl3, Ar3, -, S3, M3, -, -⟩ := id V_b1
  refine own_thr (a := T1.setTop (mkF m 16 #[.val (.ref o0), .val (.ref b1), .val (.int 2), .val (.int 0), .unset] [(.int 0), (.ref b1)])) (fun t kt => ?_) ?_
  · refine X1.arraylength hx Ar3.1 (State.isArrayOf_alike hZ.alike Ar3.2.1) (g := (mkF m 5 #[.val (.ref o0), .val (.ref b1), .unset, .unset, .unset] [(.ref b1)])) rfl rfl (hb hby d7_5) _ ?_
    rw [len_of S3 M3]
    refine XS.istoreN X1.here hx rfl (hb hby d7_6) rfl (l' := #[.val (.ref o0), .val (.ref b1), .val (.int 2), .unset, .unset]) rfl ?_
    refine XS.iconst X1.here hx rfl (hb hby d7_7) ?_
    refine XS.istoreN X1.here hx rfl (hb hby d7_8) rfl (l' := #[.val (.ref o0), .val (.ref b1), .val (.int 2), .val (.int 0), .unset]) rfl ?_
    refine XS.iloadN X1.here hx rfl (hb hby d7_9) rfl ?_
    refine XS.iloadN X1.here hx rfl (hb hby d7_10) rfl ?_
    refine XS.icmpNo X1.here hx rfl (hb hby d7_11) rfl (tlt (by decide)).2.1 ?_
    refine XS.aloadN X1.here hx rfl (hb hby d7_14) rfl rfl ?_
    refine XS.iloadN X1.here hx rfl (hb hby d7_15) rfl ?_
    exact kt
  obtain ⟨cl4, Ar4, -, S4, M4, H4, -⟩ := id V_b1
  have hin4 : ¬ ((0 : Int32) < 0 ∨ cl4.slots.size ≤ ((0 : Int32)).toNatClampNeg) := inb_of S4 ⟨by decide, by decide⟩
  have hat4 : cl4.slots[((0 : Int32)).toNatClampNeg]? = some (.ref ou) := Has.at H4 hin4 rfl
  refine own_thr (a := T1.setTop (mkF m 21 #[.val (.ref o0), .val (.ref b1), .val (.int 2), .val (.int 0), .val (.ref ou)] [(.ref ou)])) (fun t kt => ?_) ?_
  · refine X1.aaload hx (j := (0 : Int32)) (v := (.ref ou)) Ar4.1 (State.isArrayOf_alike hZ.alike Ar4.2.1) rfl Ar4.2.2 hin4 hat4 (g := (mkF m 16 #[.val (.ref o0), .val (.ref b1), .val (.int 2), .val (.int 0), .unset] [(.int 0), (.ref b1)])) rfl rfl (hb hby d7_16) _ ?_
    refine XS.astore X1.here hx rfl (hb hby d7_17) rfl rfl (l' := #[.val (.ref o0), .val (.ref b1), .val (.int 2), .val (.int 0), .val (.ref ou)]) rfl ?_
    refine XS.aload X1.here hx rfl (hb hby d7_19) rfl rfl ?_
    exact kt
  obtain ⟨T5, X5, e5, st5⟩ := getF X1 hx hZ hown (host := "") (Or.inl (hw _ (own_i 51 rfl))) Via.refl rfl (F_flu.keep K1 nin0) (g := (mkF m 21 #[.val (.ref o0), .val (.ref b1), .val (.int 2), .val (.int 0), .val (.ref ou)] [(.ref ou)])) rfl rfl (hb hby d7_21)
  refine own_thr (a := T5.setTop (mkF m 24 #[.val (.ref o0), .val (.ref b1), .val (.int 2), .val (.int 0), .val (.ref ou)] [(.ref flu)])) (fun t kt => st5 t kt) ?_
  have S6 := S_cs.ext (hO.keep K1 all0).2
  refine own_thr (a := T5.setTop (mkF m 25 #[.val (.ref o0), .val (.ref b1), .val (.int 2), .val (.int 0), .val (.ref ou)] [(.ref o0), (.ref flu)])) (fun t kt => ?_) ?_
  · refine XS.aloadN X5.here hx rfl (hb hby d7_24) rfl rfl ?_
    exact kt
  obtain ⟨cq7, kq7, q7a, q7b, q7c⟩ := isOf hZ e5 (E_flu.keep K1)
  obtain ⟨_, _, ⟨T7, L7, k7, n7⟩, -, X7, ⟨Lc7, hQ7, l7, y7, z7⟩, st7⟩ := X5.virtualBack hx (y := (⟨"java/lang/String", "equals", "(Ljava/lang/Object;)Z"⟩ : MethodName)) (z := (⟨"java/lang/String", "equals", "(Ljava/lang/Object;)Z"⟩ : MethodName)) hown (mvT hZ (hw _ (own_i 53 rfl))) (mvT hZ (hw _ (own_i 54 rfl))) (notFace_of_selects (args := #[]) (mvT hZ (hw _ (own_i 56 rfl)))) (mvT hZ (hw _ (own_i 56 rfl))) (mvT hZ (hw _ (own_i 55 rfl))) (by decide) (backOf (W := 0) (rmEQD l Z a0 hw [] flu o0 fvu sv (5 : Int32) (7 : Int32) [(.int 45), (.int 45), (.int 117), (.int 114), (.int 108)] [(.int 45), (.int 45), (.int 113), (.int 117), (.int 101), (.int 117), (.int 101)] kfu ks cs T1.heap n0 Z2 (E_flu.keep K1) (F_fvu.keep K1 nin0) (F_fluc.keep K1 nin0) (E_o0.keep K1) (F_sv.keep K1 nin0) (F_o0c.keep K1 nin0) (V_fvu.keep K1 nin0) (V_sv.keep K1 nin0) S6 hcs (own_sd (F_fvu.keep K1 nin0) (F_sv.keep K1 nin0) (V_fvu.keep K1 nin0) (V_sv.keep K1 nin0) (by decide)) (by decide)) hZ (hw _ (own_i 57 rfl)) (hw _ (own_i 2 rfl)) (by decide) (by decide)) q7a q7c (g := (mkF m 25 #[.val (.ref o0), .val (.ref b1), .val (.int 2), .val (.int 0), .val (.ref ou)] [(.ref o0), (.ref flu)])) rfl (by rw [hml]; rfl) (Steps.refl _) (argsL := [(.ref o0)]) (rest := []) (lenOf pd__28Ljava_2flang_2fObject_3b_29Z rfl) rfl (by show 2 * 0 + _ ≤ _; exact Nat.le_of_eq rfl) (hb hby d7_25) (fun _ _ => ⟨rfl, e5, (by decide : 1 + 0 ≤ _), (by decide : 2 + 0 ≤ _)⟩)
  dsimp only [Pt.U, Pt.locs, Pt.cells, Pt.slots] at X7 l7 y7 z7 st7 hQ7
  obtain ⟨rfl, N7q, e7⟩ := hQ7
  obtain ⟨lc7, X7, N7⟩ := own_pack X7 l7 y7 z7 N1 N7q (C := 1) (S' := 2) rfl rfl
  refine own_thr (a := T7.setTop (mkF m 28 #[.val (.ref o0), .val (.ref b1), .val (.int 2), .val (.int 0), .val (.ref ou)] [(.int 0)])) (fun t kt => st7.trans kt) ?_
  refine own_thr (a := T7.setTop (mkF m 16 #[.val (.ref o0), .val (.ref b1), .val (.int 2), .val (.int 1), .val (.ref ou)] [(.int 1), (.ref b1)])) (fun t kt => ?_) ?_
  · refine XS.ifYes X7.here hx rfl (pc0 := 28) (pc' := 37) rfl (hb hby d7_28) rfl ((if0 _ _).trans (teq rfl).1) (by decide) (by decide) ?_
    refine XS.iinc X7.here hx rfl (hb hby d7_37) rfl (l' := #[.val (.ref o0), .val (.ref b1), .val (.int 2), .val (.int 1), .val (.ref ou)]) rfl ?_
    refine XS.goto X7.here hx rfl (pc0 := 40) (pc' := 9) rfl (hb hby d7_40) (by decide) (by decide) ?_
    refine XS.iloadN X7.here hx rfl (hb hby d7_9) rfl ?_
    refine XS.iloadN X7.here hx rfl (hb hby d7_10) rfl ?_
    refine XS.icmpNo X7.here hx rfl (hb hby d7_11) rfl (tlt (by decide)).2.1 ?_
    refine XS.aloadN X7.here hx rfl (hb hby d7_14) rfl rfl ?_
    refine XS.iloadN X7.here hx rfl (hb hby d7_15) rfl ?_
    exact kt
  obtain ⟨cl8, Ar8, -, S8, M8, H8, -⟩ := id V_b1
  have hin8 : ¬ ((1 : Int32) < 0 ∨ cl8.slots.size ≤ ((1 : Int32)).toNatClampNeg) := inb_of S8 ⟨by decide, by decide⟩
  have hat8 : cl8.slots[((1 : Int32)).toNatClampNeg]? = some (.ref oq) := Has.at H8 hin8 rfl
  refine own_thr (a := T7.setTop (mkF m 21 #[.val (.ref o0), .val (.ref b1), .val (.int 2), .val (.int 1), .val (.ref oq)] [(.ref oq)])) (fun t kt => ?_) ?_
  · refine X7.aaload hx (j := (1 : Int32)) (v := (.ref oq)) (by rw [e7]; exact Ar8.1) (State.isArrayOf_alike hZ.alike Ar8.2.1) rfl Ar8.2.2 hin8 hat8 (g := (mkF m 16 #[.val (.ref o0), .val (.ref b1), .val (.int 2), .val (.int 1), .val (.ref ou)] [(.int 1), (.ref b1)])) rfl rfl (hb hby d7_16) _ ?_
    refine XS.astore X7.here hx rfl (hb hby d7_17) rfl rfl (l' := #[.val (.ref o0), .val (.ref b1), .val (.int 2), .val (.int 1), .val (.ref oq)]) rfl ?_
    refine XS.aload X7.here hx rfl (hb hby d7_19) rfl rfl ?_
    exact kt
  obtain ⟨T9, X9, e9, st9⟩ := getF X7 hx hZ hown (host := "") (Or.inl (hw _ (own_i 51 rfl))) Via.refl e7 (F_flq.keep K1 nin0) (g := (mkF m 21 #[.val (.ref o0), .val (.ref b1), .val (.int 2), .val (.int 1), .val (.ref oq)] [(.ref oq)])) rfl rfl (hb hby d7_21)
  refine own_thr (a := T9.setTop (mkF m 24 #[.val (.ref o0), .val (.ref b1), .val (.int 2), .val (.int 1), .val (.ref oq)] [(.ref flq)])) (fun t kt => st9 t kt) ?_
  have S10 := S_cs.ext (hO.keep K1 all0).2
  refine own_thr (a := T9.setTop (mkF m 25 #[.val (.ref o0), .val (.ref b1), .val (.int 2), .val (.int 1), .val (.ref oq)] [(.ref o0), (.ref flq)])) (fun t kt => ?_) ?_
  · refine XS.aloadN X9.here hx rfl (hb hby d7_24) rfl rfl ?_
    exact kt
  obtain ⟨cq11, kq11, q11a, q11b, q11c⟩ := isOf hZ e9 (E_flq.keep K1)
  obtain ⟨_, _, ⟨T11, L11, k11, n11⟩, -, X11, ⟨Lc11, hQ11, l11, y11, z11⟩, st11⟩ := X9.virtualBack hx (y := (⟨"java/lang/String", "equals", "(Ljava/lang/Object;)Z"⟩ : MethodName)) (z := (⟨"java/lang/String", "equals", "(Ljava/lang/Object;)Z"⟩ : MethodName)) hown (mvT hZ (hw _ (own_i 53 rfl))) (mvT hZ (hw _ (own_i 54 rfl))) (notFace_of_selects (args := #[]) (mvT hZ (hw _ (own_i 56 rfl)))) (mvT hZ (hw _ (own_i 56 rfl))) (mvT hZ (hw _ (own_i 55 rfl))) (by decide) (backOf (W := 0) (rmEQH7 l Z a0 hw [] flq o0 fvq sv kfq ks cs T1.heap n0 Z2 (E_flq.keep K1) (F_fvq.keep K1 nin0) (F_flqc.keep K1 nin0) (E_o0.keep K1) (F_sv.keep K1 nin0) (F_o0c.keep K1 nin0) (V_fvq.keep K1 nin0) (V_sv.keep K1 nin0) S10 hcs) hZ (hw _ (own_i 57 rfl)) (hw _ (own_i 2 rfl)) (by decide) (by decide)) q11a q11c (g := (mkF m 25 #[.val (.ref o0), .val (.ref b1), .val (.int 2), .val (.int 1), .val (.ref oq)] [(.ref o0), (.ref flq)])) rfl (by rw [hml]; rfl) (Steps.refl _) (argsL := [(.ref o0)]) (rest := []) (lenOf pd__28Ljava_2flang_2fObject_3b_29Z rfl) rfl (by show 2 * 0 + _ ≤ _; exact Nat.le_of_eq rfl) (hb hby d7_25) (fun _ _ => ⟨rfl, e9, (by decide : 1 + 0 ≤ _), (by decide : 2 + 0 ≤ _)⟩)
  dsimp only [Pt.U, Pt.locs, Pt.cells, Pt.slots] at X11 l11 y11 z11 st11 hQ11
  obtain ⟨rfl, N11q, e11⟩ := hQ11
  obtain ⟨lc11, X11, N11⟩ := own_pack X11 l11 y11 z11 N7 N11q (C := 1) (S' := 2) rfl rfl
  refine own_thr (a := T11.setTop (mkF m 28 #[.val (.ref o0), .val (.ref b1), .val (.int 2), .val (.int 1), .val (.ref oq)] [(.int 1)])) (fun t kt => st11.trans kt) ?_
  refine own_thr (a := T11.setTop (mkF m 33 #[.val (.ref o0), .val (.ref b1), .val (.int 2), .val (.int 1), .val (.ref oq)] [(.ref oq)])) (fun t kt => ?_) ?_
  · refine XS.ifNo X11.here hx rfl (hb hby d7_28) rfl ((if0 _ _).trans (feq (by decide)).1) ?_
    refine XS.aload X11.here hx rfl (hb hby d7_31) rfl rfl ?_
    exact kt
  obtain ⟨_, _, ⟨T12, L12, k12, n12⟩, -, X12, ⟨Lc12, hQ12, l12, y12, z12⟩, st12⟩ := Jvm.LawKit.callS X11 hx (y := (⟨"java/util/Optional", "of", "(Ljava/lang/Object;)Ljava/util/Optional;"⟩ : MethodName)) hown (mvT hZ (hw _ (own_i 63 rfl))) (mvT hZ (hw _ (own_i 64 rfl))) (mvT hZ (hw _ (own_i 65 rfl))) (mvT hZ (hw _ (own_i 66 rfl))) (by decide) (backOf (W := 0) (rmOF l Z a0 hw [] oq T1.heap n0 Z2) hZ (hw _ (own_i 66 rfl)) (hw _ (own_i 65 rfl)) (by decide) (by decide)) (g := (mkF m 33 #[.val (.ref o0), .val (.ref b1), .val (.int 2), .val (.int 1), .val (.ref oq)] [(.ref oq)])) rfl (by rw [hml]; rfl) (argsL := [(.ref oq)]) (rest := []) (lenOf pd__28Ljava_2flang_2fObject_3b_29Ljava_2futil_2fOptional_3b rfl) rfl (by show 2 * 0 + _ ≤ _; exact Nat.le_of_eq rfl) (hb hby d7_33) (fun _ _ => ⟨rfl, e11, (by decide : 1 + 1 ≤ _), (by decide : 2 + 1 ≤ _)⟩)
  dsimp only [Pt.U, Pt.locs, Pt.cells, Pt.slots] at X12 l12 y12 z12 st12 hQ12
  obtain ⟨r12, rfl, N12q, K12, o12_0, o12_1⟩ := hQ12
  have Z13 : n0 ≤ T12.heap.size := Nat.le_trans Z2 K12.1
  have Z13h : h0.size ≤ T12.heap.size := Nat.le_trans Z2h K12.1
  obtain ⟨lc12, X12, N12⟩ := own_pack X12 l12 y12 z12 N11 N12q (C := 2) (S' := 3) rfl rfl
  refine own_thr (a := T12.setTop (mkF m 36 #[.val (.ref o0), .val (.ref b1), .val (.int 2), .val (.int 1), .val (.ref oq)] [(.ref r12)])) (fun t kt => st12 t kt) ?_
  exact own_end X12 hlk (v := some (.ref r12)) (fun h => by rw [Bd.returns] at h; cases h) (fun fs hr => retA X12 hx Bd.returns rfl rfl (hb hby d7_36) hr) ⟨r12, rfl, N12, (((Keep.refl h0 []).trans K1 all0).trans K12 all0), o12_0, o12_1⟩ (by decide : 2 ≤ _) (by decide : 3 ≤ _)
theorem pd__28_29Ljava_2futil_2fOptional_3b : parseMethodDescriptor "()Ljava/util/Optional;" = some ⟨[], some (.object "java/util/Optional")⟩ := by decide +kernel
theorem d7_43 : decode prog_1_method_4_code 43 = .ok (.invokestatic 52, 3) := by decide +kernel
theorem d7_46 : decode prog_1_method_4_code 46 = .ok (.areturn, 1) := by decide +kernel
theorem ef_rmBFA (m : MethodId) (o0 : Addr)  : entryFrame m #[(.ref o0)] 5 = mkF m 0 #[.val (.ref o0), .unset, .unset, .unset, .unset] [] := by first |  (simp [entryFrame, mkF, argsToLocals, Value.category]; done) | rfl
def Q_rmBFA (Z : State) (o0 : Addr) (va : Addr) (kv : ClassId) (ou : Addr) (oq : Addr) (em : Addr) (flu : Addr) (fvu : Addr) (kfu : ClassId) (flq : Addr) (fvq : Addr) (kfq : ClassId) (cs : Int32) (sv : Addr) (ks : ClassId) (x0 : Int32) (x1 : Int32) (x2 : Int32) (x3 : Int32) (x4 : Int32) (h0 : Heap) (n0 : Nat) (v : Option Value) (h : Heap) (L : List Loc) : Prop := v = some (.ref em) ∧ Fr n0 L ∧ Keep h0 h []
set_option maxRecDepth 65536 in
set_option maxHeartbeats 40000000 in
theorem rmBFA (l : Launch) (Z : State) (a0 : Array Value) (hw : ∀ d ∈ tables_1, d.before a0 Z = true) (ws : List Jvm.Cond) (o0 : Addr) (va : Addr) (kv : ClassId) (ou : Addr) (oq : Addr) (em : Addr) (flu : Addr) (fvu : Addr) (kfu : ClassId) (flq : Addr) (fvq : Addr) (kfq : ClassId) (cs : Int32) (sv : Addr) (ks : ClassId) (x0 : Int32) (x1 : Int32) (x2 : Int32) (x3 : Int32) (x4 : Int32) (h0 : Heap) (n0 : Nat) (Z0 : n0 ≤ h0.size) (S_V : Sta Z Z.heap "com/example/durable_dispatch/durabledispatch/cli/Option" "$VALUES" "[Lcom/example/durable_dispatch/durabledispatch/cli/Option;" (.ref va)) (V_va : Arv Z Z.heap va kv (.object "com/example/durable_dispatch/durabledispatch/cli/Option") (2 : Int32) [(.ref ou), (.ref oq)] .null) (E_va : Exa Z Z.heap va "[Lcom/example/durable_dispatch/durabledispatch/cli/Option;") (hfit : Fit Z) (S_em : Sta Z Z.heap "java/util/Optional" "EMPTY" "Ljava/util/Optional;" (.ref em)) (S_cs : Sta Z Z.heap "java/lang/String" "COMPACT_STRINGS" "Z" (.int cs)) (hcs : ¬ cs = (0 : Int32)) (hO : Old Z n0 h0) (F_flu : Fld Z h0 ou "com/example/durable_dispatch/durabledispatch/cli/Option" "flag" "Ljava/lang/String;" (.ref flu)) (E_flu : Exa Z h0 flu "java/lang/String") (F_fvu : Fld Z h0 flu "java/lang/String" "value" "[B" (.ref fvu)) (F_fluc : Fld Z h0 flu "java/lang/String" "coder" "B" (.int 0)) (V_fvu : Arv Z h0 fvu kfu .byte (5 : Int32) [(.int 45), (.int 45), (.int 117), (.int 114), (.int 108)] (.int 0)) (F_flq : Fld Z h0 oq "com/example/durable_dispatch/durabledispatch/cli/Option" "flag" "Ljava/lang/String;" (.ref flq)) (E_flq : Exa Z h0 flq "java/lang/String") (F_fvq : Fld Z h0 flq "java/lang/String" "value" "[B" (.ref fvq)) (F_flqc : Fld Z h0 flq "java/lang/String" "coder" "B" (.int 0)) (V_fvq : Arv Z h0 fvq kfq .byte (7 : Int32) [(.int 45), (.int 45), (.int 113), (.int 117), (.int 101), (.int 117), (.int 101)] (.int 0)) (E_o0 : Exa Z h0 o0 "java/lang/String") (F_sv : Fld Z h0 o0 "java/lang/String" "value" "[B" (.ref sv)) (F_o0c : Fld Z h0 o0 "java/lang/String" "coder" "B" (.int 0)) (V_sv : Arv Z h0 sv ks .byte (5 : Int32) [(.int x0), (.int x1), (.int x2), (.int x3), (.int x4)] (.int 0)) (hm : ¬ (x0 = (45 : Int32) ∧ x1 = (45 : Int32) ∧ x2 = (117 : Int32) ∧ x3 = (114 : Int32) ∧ x4 = (108 : Int32))) :
    MetFree l (⟨"com/example/durable_dispatch/durabledispatch/cli/Option", "byFlag", "(Ljava/lang/String;)Ljava/util/Optional;"⟩ : MethodName) (head1 (Jvm.Cond.code (⟨"com/example/durable_dispatch/durabledispatch/cli/Option", "byFlag", "(Ljava/lang/String;)Ljava/util/Optional;"⟩ : MethodName) prog_1_method_4_code 5 (some (.object "java/util/Optional")) :: ws) ({ frames := 2, cells := 1, slots := 2, locals := 28 } : Room)) (fun a U => a = #[(.ref o0)] ∧ Z.Warmed39 U.vm ∧ U.heap = h0) (fun _ _ _ _ _ => True) (fun _ U o U' => ∃ v L, o = .returned v ∧ Q_rmBFA Z o0 va kv ou oq em flu fvu kfu flq fvq kfq cs sv ks x0 x1 x2 x3 x4 h0 n0 v U'.heap L ∧ FrameEnd U o U' L ({ frames := 2, cells := 1, slots := 2, locals := 28 } : Room).cells ({ frames := 2, cells := 1, slots := 2, locals := 28 } : Room).slots) := by
  refine MetFree.of_bodySF (plainFor_of_name pn_com_example_durable_dispatch_durabledispatch_cli_Option) hisR ?_
  intro p e s m args below meth c s₁ Bd hml0 hP hK
  obtain ⟨rfl, hZ, hh⟩ := hP
  have hx := Bd.exec
  have hby := Bd.bytes
  have hml : c.maxLocals = 5 := hml0
  have hown : s.vm.findClass "com/example/durable_dispatch/durabledispatch/cli/Option" = some m.cls := findClass_of_methodNamed Bd.named
  have hnm := (name_of_methodNamed Bd.named Bd.method).1
  have hlk := Bd.notSynchronized
  have X0 : Stand p l e ({ frames := 2, cells := 1, slots := 2, locals := 28 } : Room) s m #[(.ref o0)] below meth c s₁ [] 0 0 := Stand.of_body Bd
  have e0 : s₁.heap = h0 := by rw [← hh, Bd.state]; rfl
  have N0 := Fr.nil n0
  show own_G p.tables e below s (Q_rmBFA Z o0 va kv ou oq em flu fvu kfu flq fvq kfq cs sv ks x0 x1 x2 x3 x4 h0 n0) ({ frames := 2, cells := 1, slots := 2, locals := 28 } : Room).cells ({ frames := 2, cells := 1, slots := 2, locals := 28 } : Room).slots _
  refine own_thr (a := s₁.setTop (mkF m 0 #[.val (.ref o0), .unset, .unset, .unset, .unset] [])) (fun t kt => castTop (ef_rmBFA m o0) kt) ?_
  obtain ⟨_, _, ⟨T1, L1, k1, n1⟩, -, X1, ⟨Lc1, hQ1, l1, y1, z1⟩, st1⟩ := Jvm.LawKit.callS X0 hx (y := (⟨"com/example/durable_dispatch/durabledispatch/cli/Option", "values", "()[Lcom/example/durable_dispatch/durabledispatch/cli/Option;"⟩ : MethodName)) hown (mvT hZ (hw _ (own_i 34 rfl))) (mvT hZ (hw _ (own_i 35 rfl))) (mvT hZ (hw _ (own_i 32 rfl))) (mvT hZ (hw _ (own_i 36 rfl))) (by decide) (backOf (W := 0) (rmV l Z a0 hw [] va kv ou oq h0 n0 Z0 (S_V.ext hO.2) V_va (E_va.ext hO.2) hfit hO) hZ (hw _ (own_i 36 rfl)) (hw _ (own_i 32 rfl)) (by decide) (by decide)) (g := (mkF m 0 #[.val (.ref o0), .unset, .unset, .unset, .unset] [])) rfl (by rw [hml]; rfl) (argsL := []) (rest := []) (lenOf pd__28_29_5bLcom_2fexample_2fdurable_dispatch_2fdurabledispatch_2fcli_2fOption_3b rfl) rfl (by show 2 * 0 + _ ≤ _; exact Nat.le_of_eq rfl) (hb hby d7_0) (fun _ _ => ⟨rfl, e0, (by decide : 0 + 1 ≤ _), (by decide : 0 + 2 ≤ _)⟩)
  dsimp only [Pt.U, Pt.locs, Pt.cells, Pt.slots] at X1 l1 y1 z1 st1 hQ1
  obtain ⟨b1, rfl, N1q, K1, V_b1⟩ := hQ1
  have Z2 : n0 ≤ T1.heap.size := Nat.le_trans Z0 K1.1
  have Z2h : h0.size ≤ T1.heap.size := Nat.le_trans (Nat.le_refl h0.size) K1.1
  obtain ⟨lc1, X1, N1⟩ := own_pack X1 l1 y1 z1 N0 N1q (C := 1) (S' := 2) rfl rfl
  refine own_thr (a := T1.setTop (mkF m 3 #[.val (.ref o0), .unset, .unset, .unset, .unset] [(.ref b1)])) (fun t kt => st1 t kt) ?_
  refine own_thr (a := T1.setTop (mkF m 5 #[.val (.ref o0), .val (.ref b1), .unset, .unset, .unset] [(.ref b1)])) (fun t kt => ?_) ?_
  · refine XS.astoreN X1.here hx rfl (hb hby d7_3) rfl rfl (l' := #[.val (.ref o0), .val (.ref b1), .unset, .unset, .unset]) rfl ?_
    refine XS.aloadN X1.here hx rfl (hb hby d7_4) rfl rfl ?_
    exact kt
  obtain ⟨cl3, Ar3, -, S3, M3, -, -⟩ := id V_b1
  refine own_thr (a := T1.setTop (mkF m 16 #[.val (.ref o0), .val (.ref b1), .val (.int 2), .val (.int 0), .unset] [(.int 0), (.ref b1)])) (fun t kt => ?_) ?_
  · refine X1.arraylength hx Ar3.1 (State.isArrayOf_alike hZ.alike Ar3.2.1) (g := (mkF m 5 #[.val (.ref o0), .val (.ref b1), .unset, .unset, .unset] [(.ref b1)])) rfl rfl (hb hby d7_5) _ ?_
    rw [len_of S3 M3]
    refine XS.istoreN X1.here hx rfl (hb hby d7_6) rfl (l' := #[.val (.ref o0), .val (.ref b1), .val (.int 2), .unset, .unset]) rfl ?_
    refine XS.iconst X1.here hx rfl (hb hby d7_7) ?_
    refine XS.istoreN X1.here hx rfl (hb hby d7_8) rfl (l' := #[.val (.ref o0), .val (.ref b1), .val (.int 2), .val (.int 0), .unset]) rfl ?_
    refine XS.iloadN X1.here hx rfl (hb hby d7_9) rfl ?_
    refine XS.iloadN X1.here hx rfl (hb hby d7_10) rfl ?_
    refine XS.icmpNo X1.here hx rfl (hb hby d7_11) rfl (tlt (by decide)).2.1 ?_
    refine XS.aloadN X1.here hx rfl (hb hby d7_14) rfl rfl ?_
    refine XS.iloadN X1.here hx rfl (hb hby d7_15) rfl ?_
    exact kt
  obtain ⟨cl4, Ar4, -, S4, M4, H4, -⟩ := id V_b1
  have hin4 : ¬ ((0 : Int32) < 0 ∨ cl4.slots.size ≤ ((0 : Int32)).toNatClampNeg) := inb_of S4 ⟨by decide, by decide⟩
  have hat4 : cl4.slots[((0 : Int32)).toNatClampNeg]? = some (.ref ou) := Has.at H4 hin4 rfl
  refine own_thr (a := T1.setTop (mkF m 21 #[.val (.ref o0), .val (.ref b1), .val (.int 2), .val (.int 0), .val (.ref ou)] [(.ref ou)])) (fun t kt => ?_) ?_
  · refine X1.aaload hx (j := (0 : Int32)) (v := (.ref ou)) Ar4.1 (State.isArrayOf_alike hZ.alike Ar4.2.1) rfl Ar4.2.2 hin4 hat4 (g := (mkF m 16 #[.val (.ref o0), .val (.ref b1), .val (.int 2), .val (.int 0), .unset] [(.int 0), (.ref b1)])) rfl rfl (hb hby d7_16) _ ?_
    refine XS.astore X1.here hx rfl (hb hby d7_17) rfl rfl (l' := #[.val (.ref o0), .val (.ref b1), .val (.int 2), .val (.int 0), .val (.ref ou)]) rfl ?_
    refine XS.aload X1.here hx rfl (hb hby d7_19) rfl rfl ?_
    exact kt
  obtain ⟨T5, X5, e5, st5⟩ := getF X1 hx hZ hown (host := "") (Or.inl (hw _ (own_i 51 rfl))) Via.refl rfl (F_flu.keep K1 nin0) (g := (mkF m 21 #[.val (.ref o0), .val (.ref b1), .val (.int 2), .val (.int 0), .val (.ref ou)] [(.ref ou)])) rfl rfl (hb hby d7_21)
  refine own_thr (a := T5.setTop (mkF m 24 #[.val (.ref o0), .val (.ref b1), .val (.int 2), .val (.int 0), .val (.ref ou)] [(.ref flu)])) (fun t kt => st5 t kt) ?_
  have S6 := S_cs.ext (hO.keep K1 all0).2
  refine own_thr (a := T5.setTop (mkF m 25 #[.val (.ref o0), .val (.ref b1), .val (.int 2), .val (.int 0), .val (.ref ou)] [(.ref o0), (.ref flu)])) (fun t kt => ?_) ?_
  · refine XS.aloadN X5.here hx rfl (hb hby d7_24) rfl rfl ?_
    exact kt
  have hmr8 : ¬ ((45 : Int32) = x0 ∧ (45 : Int32) = x1 ∧ (117 : Int32) = x2 ∧ (114 : Int32) = x3 ∧ (108 : Int32) = x4) := fun q => hm ⟨q.1.symm, q.2.1.symm, q.2.2.1.symm, q.2.2.2.1.symm, q.2.2.2.2.symm⟩
  obtain ⟨cq7, kq7, q7a, q7b, q7c⟩ := isOf hZ e5 (E_flu.keep K1)
  obtain ⟨_, _, ⟨T7, L7, k7, n7⟩, -, X7, ⟨Lc7, hQ7, l7, y7, z7⟩, st7⟩ := X5.virtualBack hx (y := (⟨"java/lang/String", "equals", "(Ljava/lang/Object;)Z"⟩ : MethodName)) (z := (⟨"java/lang/String", "equals", "(Ljava/lang/Object;)Z"⟩ : MethodName)) hown (mvT hZ (hw _ (own_i 53 rfl))) (mvT hZ (hw _ (own_i 54 rfl))) (notFace_of_selects (args := #[]) (mvT hZ (hw _ (own_i 56 rfl)))) (mvT hZ (hw _ (own_i 56 rfl))) (mvT hZ (hw _ (own_i 55 rfl))) (by decide) (backOf (W := 0) (rmEQM5 l Z a0 hw [] flu o0 fvu sv (45 : Int32) (45 : Int32) (117 : Int32) (114 : Int32) (108 : Int32) x0 x1 x2 x3 x4 kfu ks cs T1.heap n0 Z2 (E_flu.keep K1) (F_fvu.keep K1 nin0) (F_fluc.keep K1 nin0) (E_o0.keep K1) (F_sv.keep K1 nin0) (F_o0c.keep K1 nin0) (V_fvu.keep K1 nin0) (V_sv.keep K1 nin0) S6 hcs (own_sl (F_fvu.keep K1 nin0) (F_sv.keep K1 nin0) (V_fvu.keep K1 nin0) (V_sv.keep K1 nin0) (fun q => hmr8 ⟨Value.int.inj (q 0 (by decide)), Value.int.inj (q 1 (by decide)), Value.int.inj (q 2 (by decide)), Value.int.inj (q 3 (by decide)), Value.int.inj (q 4 (by decide))⟩)) hmr8) hZ (hw _ (own_i 57 rfl)) (hw _ (own_i 2 rfl)) (by decide) (by decide)) q7a q7c (g := (mkF m 25 #[.val (.ref o0), .val (.ref b1), .val (.int 2), .val (.int 0), .val (.ref ou)] [(.ref o0), (.ref flu)])) rfl (by rw [hml]; rfl) (Steps.refl _) (argsL := [(.ref o0)]) (rest := []) (lenOf pd__28Ljava_2flang_2fObject_3b_29Z rfl) rfl (by show 2 * 0 + _ ≤ _; exact Nat.le_of_eq rfl) (hb hby d7_25) (fun _ _ => ⟨rfl, e5, (by decide : 1 + 0 ≤ _), (by decide : 2 + 0 ≤ _)⟩)
  dsimp only [Pt.U, Pt.locs, Pt.cells, Pt.slots] at X7 l7 y7 z7 st7 hQ7
  obtain ⟨rfl, N7q, e7⟩ := hQ7
  obtain ⟨lc7, X7, N7⟩ := own_pack X7 l7 y7 z7 N1 N7q (C := 1) (S' := 2) rfl rfl
  refine own_thr (a := T7.setTop (mkF m 28 #[.val (.ref o0), .val (.ref b1), .val (.int 2), .val (.int 0), .val (.ref ou)] [(.int 0)])) (fun t kt => st7.trans kt) ?_
  refine own_thr (a := T7.setTop (mkF m 16 #[.val (.ref o0), .val (.ref b1), .val (.int 2), .val (.int 1), .val (.ref ou)] [(.int 1), (.ref b1)])) (fun t kt => ?_) ?_
  · refine XS.ifYes X7.here hx rfl (pc0 := 28) (pc' := 37) rfl (hb hby d7_28) rfl ((if0 _ _).trans (teq rfl).1) (by decide) (by decide) ?_
    refine XS.iinc X7.here hx rfl (hb hby d7_37) rfl (l' := #[.val (.ref o0), .val (.ref b1), .val (.int 2), .val (.int 1), .val (.ref ou)]) rfl ?_
    refine XS.goto X7.here hx rfl (pc0 := 40) (pc' := 9) rfl (hb hby d7_40) (by decide) (by decide) ?_
    refine XS.iloadN X7.here hx rfl (hb hby d7_9) rfl ?_
    refine XS.iloadN X7.here hx rfl (hb hby d7_10) rfl ?_
    refine XS.icmpNo X7.here hx rfl (hb hby d7_11) rfl (tlt (by decide)).2.1 ?_
    refine XS.aloadN X7.here hx rfl (hb hby d7_14) rfl rfl ?_
    refine XS.iloadN X7.here hx rfl (hb hby d7_15) rfl ?_
    exact kt
  obtain ⟨cl9, Ar9, -, S9, M9, H9, -⟩ := id V_b1
  have hin9 : ¬ ((1 : Int32) < 0 ∨ cl9.slots.size ≤ ((1 : Int32)).toNatClampNeg) := inb_of S9 ⟨by decide, by decide⟩
  have hat9 : cl9.slots[((1 : Int32)).toNatClampNeg]? = some (.ref oq) := Has.at H9 hin9 rfl
  refine own_thr (a := T7.setTop (mkF m 21 #[.val (.ref o0), .val (.ref b1), .val (.int 2), .val (.int 1), .val (.ref oq)] [(.ref oq)])) (fun t kt => ?_) ?_
  · refine X7.aaload hx (j := (1 : Int32)) (v := (.ref oq)) (by rw [e7]; exact Ar9.1) (State.isArrayOf_alike hZ.alike Ar9.2.1) rfl Ar9.2.2 hin9 hat9 (g := (mkF m 16 #[.val (.ref o0), .val (.ref b1), .val (.int 2), .val (.int 1), .val (.ref ou)] [(.int 1), (.ref b1)])) rfl rfl (hb hby d7_16) _ ?_
    refine XS.astore X7.here hx rfl (hb hby d7_17) rfl rfl (l' := #[.val (.ref o0), .val (.ref b1), .val (.int 2), .val (.int 1), .val (.ref oq)]) rfl ?_
    refine XS.aload X7.here hx rfl (hb hby d7_19) rfl rfl ?_
    exact kt
  obtain ⟨T10, X10, e10, st10⟩ := getF X7 hx hZ hown (host := "") (Or.inl (hw _ (own_i 51 rfl))) Via.refl e7 (F_flq.keep K1 nin0) (g := (mkF m 21 #[.val (.ref o0), .val (.ref b1), .val (.int 2), .val (.int 1), .val (.ref oq)] [(.ref oq)])) rfl rfl (hb hby d7_21)
  refine own_thr (a := T10.setTop (mkF m 24 #[.val (.ref o0), .val (.ref b1), .val (.int 2), .val (.int 1), .val (.ref oq)] [(.ref flq)])) (fun t kt => st10 t kt) ?_
  have S11 := S_cs.ext (hO.keep K1 all0).2
  refine own_thr (a := T10.setTop (mkF m 25 #[.val (.ref o0), .val (.ref b1), .val (.int 2), .val (.int 1), .val (.ref oq)] [(.ref o0), (.ref flq)])) (fun t kt => ?_) ?_
  · refine XS.aloadN X10.here hx rfl (hb hby d7_24) rfl rfl ?_
    exact kt
  obtain ⟨cq12, kq12, q12a, q12b, q12c⟩ := isOf hZ e10 (E_flq.keep K1)
  obtain ⟨_, _, ⟨T12, L12, k12, n12⟩, -, X12, ⟨Lc12, hQ12, l12, y12, z12⟩, st12⟩ := X10.virtualBack hx (y := (⟨"java/lang/String", "equals", "(Ljava/lang/Object;)Z"⟩ : MethodName)) (z := (⟨"java/lang/String", "equals", "(Ljava/lang/Object;)Z"⟩ : MethodName)) hown (mvT hZ (hw _ (own_i 53 rfl))) (mvT hZ (hw _ (own_i 54 rfl))) (notFace_of_selects (args := #[]) (mvT hZ (hw _ (own_i 56 rfl)))) (mvT hZ (hw _ (own_i 56 rfl))) (mvT hZ (hw _ (own_i 55 rfl))) (by decide) (backOf (W := 0) (rmEQD l Z a0 hw [] flq o0 fvq sv (7 : Int32) (5 : Int32) [(.int 45), (.int 45), (.int 113), (.int 117), (.int 101), (.int 117), (.int 101)] [(.int x0), (.int x1), (.int x2), (.int x3), (.int x4)] kfq ks cs T1.heap n0 Z2 (E_flq.keep K1) (F_fvq.keep K1 nin0) (F_flqc.keep K1 nin0) (E_o0.keep K1) (F_sv.keep K1 nin0) (F_o0c.keep K1 nin0) (V_fvq.keep K1 nin0) (V_sv.keep K1 nin0) S11 hcs (own_sd (F_fvq.keep K1 nin0) (F_sv.keep K1 nin0) (V_fvq.keep K1 nin0) (V_sv.keep K1 nin0) (by decide)) (by decide)) hZ (hw _ (own_i 57 rfl)) (hw _ (own_i 2 rfl)) (by decide) (by decide)) q12a q12c (g := (mkF m 25 #[.val (.ref o0), .val (.ref b1), .val (.int 2), .val (.int 1), .val (.ref oq)] [(.ref o0), (.ref flq)])) rfl (by rw [hml]; rfl) (Steps.refl _) (argsL := [(.ref o0)]) (rest := []) (lenOf pd__28Ljava_2flang_2fObject_3b_29Z rfl) rfl (by show 2 * 0 + _ ≤ _; exact Nat.le_of_eq rfl) (hb hby d7_25) (fun _ _ => ⟨rfl, e10, (by decide : 1 + 0 ≤ _), (by decide : 2 + 0 ≤ _)⟩)
  dsimp only [Pt.U, Pt.locs, Pt.cells, Pt.slots] at X12 l12 y12 z12 st12 hQ12
  obtain ⟨rfl, N12q, e12⟩ := hQ12
  obtain ⟨lc12, X12, N12⟩ := own_pack X12 l12 y12 z12 N7 N12q (C := 1) (S' := 2) rfl rfl
  refine own_thr (a := T12.setTop (mkF m 28 #[.val (.ref o0), .val (.ref b1), .val (.int 2), .val (.int 1), .val (.ref oq)] [(.int 0)])) (fun t kt => st12.trans kt) ?_
  have S13 := S_em.ext (hO.keep K1 all0).2
  refine own_thr (a := T12.setTop (mkF m 43 #[.val (.ref o0), .val (.ref b1), .val (.int 2), .val (.int 2), .val (.ref oq)] [])) (fun t kt => ?_) ?_
  · refine XS.ifYes X12.here hx rfl (pc0 := 28) (pc' := 37) rfl (hb hby d7_28) rfl ((if0 _ _).trans (teq rfl).1) (by decide) (by decide) ?_
    refine XS.iinc X12.here hx rfl (hb hby d7_37) rfl (l' := #[.val (.ref o0), .val (.ref b1), .val (.int 2), .val (.int 2), .val (.ref oq)]) rfl ?_
    refine XS.goto X12.here hx rfl (pc0 := 40) (pc' := 9) rfl (hb hby d7_40) (by decide) (by decide) ?_
    refine XS.iloadN X12.here hx rfl (hb hby d7_9) rfl ?_
    refine XS.iloadN X12.here hx rfl (hb hby d7_10) rfl ?_
    refine XS.icmpYes X12.here hx rfl (pc0 := 11) (pc' := 43) rfl (hb hby d7_11) rfl (flt (by decide)).2.1 (by decide) (by decide) ?_
    exact kt
  obtain ⟨_, _, ⟨T14, L14, k14, n14⟩, -, X14, ⟨Lc14, hQ14, l14, y14, z14⟩, st14⟩ := Jvm.LawKit.callS X12 hx (y := (⟨"java/util/Optional", "empty", "()Ljava/util/Optional;"⟩ : MethodName)) hown (mvT hZ (hw _ (own_i 107 rfl))) (mvT hZ (hw _ (own_i 108 rfl))) (mvT hZ (hw _ (own_i 65 rfl))) (mvT hZ (hw _ (own_i 109 rfl))) (by decide) (backOf (W := 0) (rmEM l Z a0 hw []  em T1.heap n0 Z2 S13) hZ (hw _ (own_i 109 rfl)) (hw _ (own_i 65 rfl)) (by decide) (by decide)) (g := (mkF m 43 #[.val (.ref o0), .val (.ref b1), .val (.int 2), .val (.int 2), .val (.ref oq)] [])) rfl (by rw [hml]; rfl) (argsL := []) (rest := []) (lenOf pd__28_29Ljava_2futil_2fOptional_3b rfl) rfl (by show 2 * 0 + _ ≤ _; exact Nat.le_of_eq rfl) (hb hby d7_43) (fun _ _ => ⟨rfl, e12, (by decide : 1 + 0 ≤ _), (by decide : 2 + 0 ≤ _)⟩)
  dsimp only [Pt.U, Pt.locs, Pt.cells, Pt.slots] at X14 l14 y14 z14 st14 hQ14
  obtain ⟨rfl, N14q, e14⟩ := hQ14
  obtain ⟨lc14, X14, N14⟩ := own_pack X14 l14 y14 z14 N12 N14q (C := 1) (S' := 2) rfl rfl
  refine own_thr (a := T14.setTop (mkF m 46 #[.val (.ref o0), .val (.ref b1), .val (.int 2), .val (.int 2), .val (.ref oq)] [(.ref em)])) (fun t kt => st14 t kt) ?_
  exact own_end X14 hlk (v := some (.ref em)) (fun h => by rw [Bd.returns] at h; cases h) (fun fs hr => retA X14 hx Bd.returns rfl rfl (hb hby d7_46) hr) (by rw [e14]; exact ⟨rfl, N14, ((Keep.refl h0 []).trans K1 all0)⟩) (by decide : 1 ≤ _) (by decide : 2 ≤ _)
theorem ef_rmBFB (m : MethodId) (o0 : Addr)  : entryFrame m #[(.ref o0)] 5 = mkF m 0 #[.val (.ref o0), .unset, .unset, .unset, .unset] [] := by first |  (simp [entryFrame, mkF, argsToLocals, Value.category]; done) | rfl
def Q_rmBFB (Z : State) (o0 : Addr) (va : Addr) (kv : ClassId) (ou : Addr) (oq : Addr) (em : Addr) (flu : Addr) (fvu : Addr) (kfu : ClassId) (flq : Addr) (fvq : Addr) (kfq : ClassId) (cs : Int32) (sv : Addr) (ks : ClassId) (x0 : Int32) (x1 : Int32) (x2 : Int32) (x3 : Int32) (x4 : Int32) (x5 : Int32) (x6 : Int32) (h0 : Heap) (n0 : Nat) (v : Option Value) (h : Heap) (L : List Loc) : Prop := v = some (.ref em) ∧ Fr n0 L ∧ Keep h0 h []
set_option maxRecDepth 65536 in
set_option maxHeartbeats 40000000 in
theorem rmBFB (l : Launch) (Z : State) (a0 : Array Value) (hw : ∀ d ∈ tables_1, d.before a0 Z = true) (ws : List Jvm.Cond) (o0 : Addr) (va : Addr) (kv : ClassId) (ou : Addr) (oq : Addr) (em : Addr) (flu : Addr) (fvu : Addr) (kfu : ClassId) (flq : Addr) (fvq : Addr) (kfq : ClassId) (cs : Int32) (sv : Addr) (ks : ClassId) (x0 : Int32) (x1 : Int32) (x2 : Int32) (x3 : Int32) (x4 : Int32) (x5 : Int32) (x6 : Int32) (h0 : Heap) (n0 : Nat) (Z0 : n0 ≤ h0.size) (S_V : Sta Z Z.heap "com/example/durable_dispatch/durabledispatch/cli/Option" "$VALUES" "[Lcom/example/durable_dispatch/durabledispatch/cli/Option;" (.ref va)) (V_va : Arv Z Z.heap va kv (.object "com/example/durable_dispatch/durabledispatch/cli/Option") (2 : Int32) [(.ref ou), (.ref oq)] .null) (E_va : Exa Z Z.heap va "[Lcom/example/durable_dispatch/durabledispatch/cli/Option;") (hfit : Fit Z) (S_em : Sta Z Z.heap "java/util/Optional" "EMPTY" "Ljava/util/Optional;" (.ref em)) (S_cs : Sta Z Z.heap "java/lang/String" "COMPACT_STRINGS" "Z" (.int cs)) (hcs : ¬ cs = (0 : Int32)) (hO : Old Z n0 h0) (F_flu : Fld Z h0 ou "com/example/durable_dispatch/durabledispatch/cli/Option" "flag" "Ljava/lang/String;" (.ref flu)) (E_flu : Exa Z h0 flu "java/lang/String") (F_fvu : Fld Z h0 flu "java/lang/String" "value" "[B" (.ref fvu)) (F_fluc : Fld Z h0 flu "java/lang/String" "coder" "B" (.int 0)) (V_fvu : Arv Z h0 fvu kfu .byte (5 : Int32) [(.int 45), (.int 45), (.int 117), (.int 114), (.int 108)] (.int 0)) (F_flq : Fld Z h0 oq "com/example/durable_dispatch/durabledispatch/cli/Option" "flag" "Ljava/lang/String;" (.ref flq)) (E_flq : Exa Z h0 flq "java/lang/String") (F_fvq : Fld Z h0 flq "java/lang/String" "value" "[B" (.ref fvq)) (F_flqc : Fld Z h0 flq "java/lang/String" "coder" "B" (.int 0)) (V_fvq : Arv Z h0 fvq kfq .byte (7 : Int32) [(.int 45), (.int 45), (.int 113), (.int 117), (.int 101), (.int 117), (.int 101)] (.int 0)) (E_o0 : Exa Z h0 o0 "java/lang/String") (F_sv : Fld Z h0 o0 "java/lang/String" "value" "[B" (.ref sv)) (F_o0c : Fld Z h0 o0 "java/lang/String" "coder" "B" (.int 0)) (V_sv : Arv Z h0 sv ks .byte (7 : Int32) [(.int x0), (.int x1), (.int x2), (.int x3), (.int x4), (.int x5), (.int x6)] (.int 0)) (hm : ¬ (x0 = (45 : Int32) ∧ x1 = (45 : Int32) ∧ x2 = (113 : Int32) ∧ x3 = (117 : Int32) ∧ x4 = (101 : Int32) ∧ x5 = (117 : Int32) ∧ x6 = (101 : Int32))) :
    MetFree l (⟨"com/example/durable_dispatch/durabledispatch/cli/Option", "byFlag", "(Ljava/lang/String;)Ljava/util/Optional;"⟩ : MethodName) (head1 (Jvm.Cond.code (⟨"com/example/durable_dispatch/durabledispatch/cli/Option", "byFlag", "(Ljava/lang/String;)Ljava/util/Optional;"⟩ : MethodName) prog_1_method_4_code 5 (some (.object "java/util/Optional")) :: ws) ({ frames := 2, cells := 1, slots := 2, locals := 28 } : Room)) (fun a U => a = #[(.ref o0)] ∧ Z.Warmed39 U.vm ∧ U.heap = h0) (fun _ _ _ _ _ => True) (fun _ U o U' => ∃ v L, o = .returned v ∧ Q_rmBFB Z o0 va kv ou oq em flu fvu kfu flq fvq kfq cs sv ks x0 x1 x2 x3 x4 x5 x6 h0 n0 v U'.heap L ∧ FrameEnd U o U' L ({ frames := 2, cells := 1, slots := 2, locals := 28 } : Room).cells ({ frames := 2, cells := 1, slots := 2, locals := 28 } : Room).slots) := by
  refine MetFree.of_bodySF (plainFor_of_name pn_com_example_durable_dispatch_durabledispatch_cli_Option) hisR ?_
  intro p e s m args below meth c s₁ Bd hml0 hP hK
  obtain ⟨rfl, hZ, hh⟩ := hP
  have hx := Bd.exec
  have hby := Bd.bytes
  have hml : c.maxLocals = 5 := hml0
  have hown : s.vm.findClass "com/example/durable_dispatch/durabledispatch/cli/Option" = some m.cls := findClass_of_methodNamed Bd.named
  have hnm := (name_of_methodNamed Bd.named Bd.method).1
  have hlk := Bd.notSynchronized
  have X0 : Stand p l e ({ frames := 2, cells := 1, slots := 2, locals := 28 } : Room) s m #[(.ref o0)] below meth c s₁ [] 0 0 := Stand.of_body Bd
  have e0 : s₁.heap = h0 := by rw [← hh, Bd.state]; rfl
  have N0 := Fr.nil n0
  show own_G p.tables e below s (Q_rmBFB Z o0 va kv ou oq em flu fvu kfu flq fvq kfq cs sv ks x0 x1 x2 x3 x4 x5 x6 h0 n0) ({ frames := 2, cells := 1, slots := 2, locals := 28 } : Room).cells ({ frames := 2, cells := 1, slots := 2, locals := 28 } : Room).slots _
  refine own_thr (a := s₁.setTop (mkF m 0 #[.val (.ref o0), .unset, .unset, .unset, .unset] [])) (fun t kt => castTop (ef_rmBFB m o0) kt) ?_
  obtain ⟨_, _, ⟨T1, L1, k1, n1⟩, -, X1, ⟨Lc1, hQ1, l1, y1, z1⟩, st1⟩ := Jvm.LawKit.callS X0 hx (y := (⟨"com/example/durable_dispatch/durabledispatch/cli/Option", "values", "()[Lcom/example/durable_dispatch/durabledispatch/cli/Option;"⟩ : MethodName)) hown (mvT hZ (hw _ (own_i 34 rfl))) (mvT hZ (hw _ (own_i 35 rfl))) (mvT hZ (hw _ (own_i 32 rfl))) (mvT hZ (hw _ (own_i 36 rfl))) (by decide) (backOf (W := 0) (rmV l Z a0 hw [] va kv ou oq h0 n0 Z0 (S_V.ext hO.2) V_va (E_va.ext hO.2) hfit hO) hZ (hw _ (own_i 36 rfl)) (hw _ (own_i 32 rfl)) (by decide) (by decide)) (g := (mkF m 0 #[.val (.ref o0), .unset, .unset, .unset, .unset] [])) rfl (by rw [hml]; rfl) (argsL := []) (rest := []) (lenOf pd__28_29_5bLcom_2fexample_2fdurable_dispatch_2fdurabledispatch_2fcli_2fOption_3b rfl) rfl (by show 2 * 0 + _ ≤ _; exact Nat.le_of_eq rfl) (hb hby d7_0) (fun _ _ => ⟨rfl, e0, (by decide : 0 + 1 ≤ _), (by decide : 0 + 2 ≤ _)⟩)
  dsimp only [Pt.U, Pt.locs, Pt.cells, Pt.slots] at X1 l1 y1 z1 st1 hQ1
  obtain ⟨b1, rfl, N1q, K1, V_b1⟩ := hQ1
  have Z2 : n0 ≤ T1.heap.size := Nat.le_trans Z0 K1.1
  have Z2h : h0.size ≤ T1.heap.size := Nat.le_trans (Nat.le_refl h0.size) K1.1
  obtain ⟨lc1, X1, N1⟩ := own_pack X1 l1 y1 z1 N0 N1q (C := 1) (S' := 2) rfl rfl
  refine own_thr (a := T1.setTop (mkF m 3 #[.val (.ref o0), .unset, .unset, .unset, .unset] [(.ref b1)])) (fun t kt => st1 t kt) ?_
  refine own_thr (a := T1.setTop (mkF m 5 #[.val (.ref o0), .val (.ref b1), .unset, .unset, .unset] [(.ref b1)])) (fun t kt => ?_) ?_
  · refine XS.astoreN X1.here hx rfl (hb hby d7_3) rfl rfl (l' := #[.val (.ref o0), .val (.ref b1), .unset, .unset, .unset]) rfl ?_
    refine XS.aloadN X1.here hx rfl (hb hby d7_4) rfl rfl ?_
    exact kt
  obtain ⟨cl3, Ar3, -, S3, M3, -, -⟩ := id V_b1
  refine own_thr (a := T1.setTop (mkF m 16 #[.val (.ref o0), .val (.ref b1), .val (.int 2), .val (.int 0), .unset] [(.int 0), (.ref b1)])) (fun t kt => ?_) ?_
  · refine X1.arraylength hx Ar3.1 (State.isArrayOf_alike hZ.alike Ar3.2.1) (g := (mkF m 5 #[.val (.ref o0), .val (.ref b1), .unset, .unset, .unset] [(.ref b1)])) rfl rfl (hb hby d7_5) _ ?_
    rw [len_of S3 M3]
    refine XS.istoreN X1.here hx rfl (hb hby d7_6) rfl (l' := #[.val (.ref o0), .val (.ref b1), .val (.int 2), .unset, .unset]) rfl ?_
    refine XS.iconst X1.here hx rfl (hb hby d7_7) ?_
    refine XS.istoreN X1.here hx rfl (hb hby d7_8) rfl (l' := #[.val (.ref o0), .val (.ref b1), .val (.int 2), .val (.int 0), .unset]) rfl ?_
    refine XS.iloadN X1.here hx rfl (hb hby d7_9) rfl ?_
    refine XS.iloadN X1.here hx rfl (hb hby d7_10) rfl ?_
    refine XS.icmpNo X1.here hx rfl (hb hby d7_11) rfl (tlt (by decide)).2.1 ?_
    refine XS.aloadN X1.here hx rfl (hb hby d7_14) rfl rfl ?_
    refine XS.iloadN X1.here hx rfl (hb hby d7_15) rfl ?_
    exact kt
  obtain ⟨cl4, Ar4, -, S4, M4, H4, -⟩ := id V_b1
  have hin4 : ¬ ((0 : Int32) < 0 ∨ cl4.slots.size ≤ ((0 : Int32)).toNatClampNeg) := inb_of S4 ⟨by decide, by decide⟩
  have hat4 : cl4.slots[((0 : Int32)).toNatClampNeg]? = some (.ref ou) := Has.at H4 hin4 rfl
  refine own_thr (a := T1.setTop (mkF m 21 #[.val (.ref o0), .val (.ref b1), .val (.int 2), .val (.int 0), .val (.ref ou)] [(.ref ou)])) (fun t kt => ?_) ?_
  · refine X1.aaload hx (j := (0 : Int32)) (v := (.ref ou)) Ar4.1 (State.isArrayOf_alike hZ.alike Ar4.2.1) rfl Ar4.2.2 hin4 hat4 (g := (mkF m 16 #[.val (.ref o0), .val (.ref b1), .val (.int 2), .val (.int 0), .unset] [(.int 0), (.ref b1)])) rfl rfl (hb hby d7_16) _ ?_
    refine XS.astore X1.here hx rfl (hb hby d7_17) rfl rfl (l' := #[.val (.ref o0), .val (.ref b1), .val (.int 2), .val (.int 0), .val (.ref ou)]) rfl ?_
    refine XS.aload X1.here hx rfl (hb hby d7_19) rfl rfl ?_
    exact kt
  obtain ⟨T5, X5, e5, st5⟩ := getF X1 hx hZ hown (host := "") (Or.inl (hw _ (own_i 51 rfl))) Via.refl rfl (F_flu.keep K1 nin0) (g := (mkF m 21 #[.val (.ref o0), .val (.ref b1), .val (.int 2), .val (.int 0), .val (.ref ou)] [(.ref ou)])) rfl rfl (hb hby d7_21)
  refine own_thr (a := T5.setTop (mkF m 24 #[.val (.ref o0), .val (.ref b1), .val (.int 2), .val (.int 0), .val (.ref ou)] [(.ref flu)])) (fun t kt => st5 t kt) ?_
  have S6 := S_cs.ext (hO.keep K1 all0).2
  refine own_thr (a := T5.setTop (mkF m 25 #[.val (.ref o0), .val (.ref b1), .val (.int 2), .val (.int 0), .val (.ref ou)] [(.ref o0), (.ref flu)])) (fun t kt => ?_) ?_
  · refine XS.aloadN X5.here hx rfl (hb hby d7_24) rfl rfl ?_
    exact kt
  obtain ⟨cq7, kq7, q7a, q7b, q7c⟩ := isOf hZ e5 (E_flu.keep K1)
  obtain ⟨_, _, ⟨T7, L7, k7, n7⟩, -, X7, ⟨Lc7, hQ7, l7, y7, z7⟩, st7⟩ := X5.virtualBack hx (y := (⟨"java/lang/String", "equals", "(Ljava/lang/Object;)Z"⟩ : MethodName)) (z := (⟨"java/lang/String", "equals", "(Ljava/lang/Object;)Z"⟩ : MethodName)) hown (mvT hZ (hw _ (own_i 53 rfl))) (mvT hZ (hw _ (own_i 54 rfl))) (notFace_of_selects (args := #[]) (mvT hZ (hw _ (own_i 56 rfl)))) (mvT hZ (hw _ (own_i 56 rfl))) (mvT hZ (hw _ (own_i 55 rfl))) (by decide) (backOf (W := 0) (rmEQD l Z a0 hw [] flu o0 fvu sv (5 : Int32) (7 : Int32) [(.int 45), (.int 45), (.int 117), (.int 114), (.int 108)] [(.int x0), (.int x1), (.int x2), (.int x3), (.int x4), (.int x5), (.int x6)] kfu ks cs T1.heap n0 Z2 (E_flu.keep K1) (F_fvu.keep K1 nin0) (F_fluc.keep K1 nin0) (E_o0.keep K1) (F_sv.keep K1 nin0) (F_o0c.keep K1 nin0) (V_fvu.keep K1 nin0) (V_sv.keep K1 nin0) S6 hcs (own_sd (F_fvu.keep K1 nin0) (F_sv.keep K1 nin0) (V_fvu.keep K1 nin0) (V_sv.keep K1 nin0) (by decide)) (by decide)) hZ (hw _ (own_i 57 rfl)) (hw _ (own_i 2 rfl)) (by decide) (by decide)) q7a q7c (g := (mkF m 25 #[.val (.ref o0), .val (.ref b1), .val (.int 2), .val (.int 0), .val (.ref ou)] [(.ref o0), (.ref flu)])) rfl (by rw [hml]; rfl) (Steps.refl _) (argsL := [(.ref o0)]) (rest := []) (lenOf pd__28Ljava_2flang_2fObject_3b_29Z rfl) rfl (by show 2 * 0 + _ ≤ _; exact Nat.le_of_eq rfl) (hb hby d7_25) (fun _ _ => ⟨rfl, e5, (by decide : 1 + 0 ≤ _), (by decide : 2 + 0 ≤ _)⟩)
  dsimp only [Pt.U, Pt.locs, Pt.cells, Pt.slots] at X7 l7 y7 z7 st7 hQ7
  obtain ⟨rfl, N7q, e7⟩ := hQ7
  obtain ⟨lc7, X7, N7⟩ := own_pack X7 l7 y7 z7 N1 N7q (C := 1) (S' := 2) rfl rfl
  refine own_thr (a := T7.setTop (mkF m 28 #[.val (.ref o0), .val (.ref b1), .val (.int 2), .val (.int 0), .val (.ref ou)] [(.int 0)])) (fun t kt => st7.trans kt) ?_
  refine own_thr (a := T7.setTop (mkF m 16 #[.val (.ref o0), .val (.ref b1), .val (.int 2), .val (.int 1), .val (.ref ou)] [(.int 1), (.ref b1)])) (fun t kt => ?_) ?_
  · refine XS.ifYes X7.here hx rfl (pc0 := 28) (pc' := 37) rfl (hb hby d7_28) rfl ((if0 _ _).trans (teq rfl).1) (by decide) (by decide) ?_
    refine XS.iinc X7.here hx rfl (hb hby d7_37) rfl (l' := #[.val (.ref o0), .val (.ref b1), .val (.int 2), .val (.int 1), .val (.ref ou)]) rfl ?_
    refine XS.goto X7.here hx rfl (pc0 := 40) (pc' := 9) rfl (hb hby d7_40) (by decide) (by decide) ?_
    refine XS.iloadN X7.here hx rfl (hb hby d7_9) rfl ?_
    refine XS.iloadN X7.here hx rfl (hb hby d7_10) rfl ?_
    refine XS.icmpNo X7.here hx rfl (hb hby d7_11) rfl (tlt (by decide)).2.1 ?_
    refine XS.aloadN X7.here hx rfl (hb hby d7_14) rfl rfl ?_
    refine XS.iloadN X7.here hx rfl (hb hby d7_15) rfl ?_
    exact kt
  obtain ⟨cl8, Ar8, -, S8, M8, H8, -⟩ := id V_b1
  have hin8 : ¬ ((1 : Int32) < 0 ∨ cl8.slots.size ≤ ((1 : Int32)).toNatClampNeg) := inb_of S8 ⟨by decide, by decide⟩
  have hat8 : cl8.slots[((1 : Int32)).toNatClampNeg]? = some (.ref oq) := Has.at H8 hin8 rfl
  refine own_thr (a := T7.setTop (mkF m 21 #[.val (.ref o0), .val (.ref b1), .val (.int 2), .val (.int 1), .val (.ref oq)] [(.ref oq)])) (fun t kt => ?_) ?_
  · refine X7.aaload hx (j := (1 : Int32)) (v := (.ref oq)) (by rw [e7]; exact Ar8.1) (State.isArrayOf_alike hZ.alike Ar8.2.1) rfl Ar8.2.2 hin8 hat8 (g := (mkF m 16 #[.val (.ref o0), .val (.ref b1), .val (.int 2), .val (.int 1), .val (.ref ou)] [(.int 1), (.ref b1)])) rfl rfl (hb hby d7_16) _ ?_
    refine XS.astore X7.here hx rfl (hb hby d7_17) rfl rfl (l' := #[.val (.ref o0), .val (.ref b1), .val (.int 2), .val (.int 1), .val (.ref oq)]) rfl ?_
    refine XS.aload X7.here hx rfl (hb hby d7_19) rfl rfl ?_
    exact kt
  obtain ⟨T9, X9, e9, st9⟩ := getF X7 hx hZ hown (host := "") (Or.inl (hw _ (own_i 51 rfl))) Via.refl e7 (F_flq.keep K1 nin0) (g := (mkF m 21 #[.val (.ref o0), .val (.ref b1), .val (.int 2), .val (.int 1), .val (.ref oq)] [(.ref oq)])) rfl rfl (hb hby d7_21)
  refine own_thr (a := T9.setTop (mkF m 24 #[.val (.ref o0), .val (.ref b1), .val (.int 2), .val (.int 1), .val (.ref oq)] [(.ref flq)])) (fun t kt => st9 t kt) ?_
  have S10 := S_cs.ext (hO.keep K1 all0).2
  refine own_thr (a := T9.setTop (mkF m 25 #[.val (.ref o0), .val (.ref b1), .val (.int 2), .val (.int 1), .val (.ref oq)] [(.ref o0), (.ref flq)])) (fun t kt => ?_) ?_
  · refine XS.aloadN X9.here hx rfl (hb hby d7_24) rfl rfl ?_
    exact kt
  have hmr12 : ¬ ((45 : Int32) = x0 ∧ (45 : Int32) = x1 ∧ (113 : Int32) = x2 ∧ (117 : Int32) = x3 ∧ (101 : Int32) = x4 ∧ (117 : Int32) = x5 ∧ (101 : Int32) = x6) := fun q => hm ⟨q.1.symm, q.2.1.symm, q.2.2.1.symm, q.2.2.2.1.symm, q.2.2.2.2.1.symm, q.2.2.2.2.2.1.symm, q.2.2.2.2.2.2.symm⟩
  obtain ⟨cq11, kq11, q11a, q11b, q11c⟩ := isOf hZ e9 (E_flq.keep K1)
  obtain ⟨_, _, ⟨T11, L11, k11, n11⟩, -, X11, ⟨Lc11, hQ11, l11, y11, z11⟩, st11⟩ := X9.virtualBack hx (y := (⟨"java/lang/String", "equals", "(Ljava/lang/Object;)Z"⟩ : MethodName)) (z := (⟨"java/lang/String", "equals", "(Ljava/lang/Object;)Z"⟩ : MethodName)) hown (mvT hZ (hw _ (own_i 53 rfl))) (mvT hZ (hw _ (own_i 54 rfl))) (notFace_of_selects (args := #[]) (mvT hZ (hw _ (own_i 56 rfl)))) (mvT hZ (hw _ (own_i 56 rfl))) (mvT hZ (hw _ (own_i 55 rfl))) (by decide) (backOf (W := 0) (rmEQM7 l Z a0 hw [] flq o0 fvq sv (45 : Int32) (45 : Int32) (113 : Int32) (117 : Int32) (101 : Int32) (117 : Int32) (101 : Int32) x0 x1 x2 x3 x4 x5 x6 kfq ks cs T1.heap n0 Z2 (E_flq.keep K1) (F_fvq.keep K1 nin0) (F_flqc.keep K1 nin0) (E_o0.keep K1) (F_sv.keep K1 nin0) (F_o0c.keep K1 nin0) (V_fvq.keep K1 nin0) (V_sv.keep K1 nin0) S10 hcs (own_sl (F_fvq.keep K1 nin0) (F_sv.keep K1 nin0) (V_fvq.keep K1 nin0) (V_sv.keep K1 nin0) (fun q => hmr12 ⟨Value.int.inj (q 0 (by decide)), Value.int.inj (q 1 (by decide)), Value.int.inj (q 2 (by decide)), Value.int.inj (q 3 (by decide)), Value.int.inj (q 4 (by decide)), Value.int.inj (q 5 (by decide)), Value.int.inj (q 6 (by decide))⟩)) hmr12) hZ (hw _ (own_i 57 rfl)) (hw _ (own_i 2 rfl)) (by decide) (by decide)) q11a q11c (g := (mkF m 25 #[.val (.ref o0), .val (.ref b1), .val (.int 2), .val (.int 1), .val (.ref oq)] [(.ref o0), (.ref flq)])) rfl (by rw [hml]; rfl) (Steps.refl _) (argsL := [(.ref o0)]) (rest := []) (lenOf pd__28Ljava_2flang_2fObject_3b_29Z rfl) rfl (by show 2 * 0 + _ ≤ _; exact Nat.le_of_eq rfl) (hb hby d7_25) (fun _ _ => ⟨rfl, e9, (by decide : 1 + 0 ≤ _), (by decide : 2 + 0 ≤ _)⟩)
  dsimp only [Pt.U, Pt.locs, Pt.cells, Pt.slots] at X11 l11 y11 z11 st11 hQ11
  obtain ⟨rfl, N11q, e11⟩ := hQ11
  obtain ⟨lc11, X11, N11⟩ := own_pack X11 l11 y11 z11 N7 N11q (C := 1) (S' := 2) rfl rfl
  refine own_thr (a := T11.setTop (mkF m 28 #[.val (.ref o0), .val (.ref b1), .val (.int 2), .val (.int 1), .val (.ref oq)] [(.int 0)])) (fun t kt => st11.trans kt) ?_
  have S13 := S_em.ext (hO.keep K1 all0).2
  refine own_thr (a := T11.setTop (mkF m 43 #[.val (.ref o0), .val (.ref b1), .val (.int 2), .val (.int 2), .val (.ref oq)] [])) (fun t kt => ?_) ?_
  · refine XS.ifYes X11.here hx rfl (pc0 := 28) (pc' := 37) rfl (hb hby d7_28) rfl ((if0 _ _).trans (teq rfl).1) (by decide) (by decide) ?_
    refine XS.iinc X11.here hx rfl (hb hby d7_37) rfl (l' := #[.val (.ref o0), .val (.ref b1), .val (.int 2), .val (.int 2), .val (.ref oq)]) rfl ?_
    refine XS.goto X11.here hx rfl (pc0 := 40) (pc' := 9) rfl (hb hby d7_40) (by decide) (by decide) ?_
    refine XS.iloadN X11.here hx rfl (hb hby d7_9) rfl ?_
    refine XS.iloadN X11.here hx rfl (hb hby d7_10) rfl ?_
    refine XS.icmpYes X11.here hx rfl (pc0 := 11) (pc' := 43) rfl (hb hby d7_11) rfl (flt (by decide)).2.1 (by decide) (by decide) ?_
    exact kt
  obtain ⟨_, _, ⟨T14, L14, k14, n14⟩, -, X14, ⟨Lc14, hQ14, l14, y14, z14⟩, st14⟩ := Jvm.LawKit.callS X11 hx (y := (⟨"java/util/Optional", "empty", "()Ljava/util/Optional;"⟩ : MethodName)) hown (mvT hZ (hw _ (own_i 107 rfl))) (mvT hZ (hw _ (own_i 108 rfl))) (mvT hZ (hw _ (own_i 65 rfl))) (mvT hZ (hw _ (own_i 109 rfl))) (by decide) (backOf (W := 0) (rmEM l Z a0 hw []  em T1.heap n0 Z2 S13) hZ (hw _ (own_i 109 rfl)) (hw _ (own_i 65 rfl)) (by decide) (by decide)) (g := (mkF m 43 #[.val (.ref o0), .val (.ref b1), .val (.int 2), .val (.int 2), .val (.ref oq)] [])) rfl (by rw [hml]; rfl) (argsL := []) (rest := []) (lenOf pd__28_29Ljava_2futil_2fOptional_3b rfl) rfl (by show 2 * 0 + _ ≤ _; exact Nat.le_of_eq rfl) (hb hby d7_43) (fun _ _ => ⟨rfl, e11, (by decide : 1 + 0 ≤ _), (by decide : 2 + 0 ≤ _)⟩)
  dsimp only [Pt.U, Pt.locs, Pt.cells, Pt.slots] at X14 l14 y14 z14 st14 hQ14
  obtain ⟨rfl, N14q, e14⟩ := hQ14
  obtain ⟨lc14, X14, N14⟩ := own_pack X14 l14 y14 z14 N11 N14q (C := 1) (S' := 2) rfl rfl
  refine own_thr (a := T14.setTop (mkF m 46 #[.val (.ref o0), .val (.ref b1), .val (.int 2), .val (.int 2), .val (.ref oq)] [(.ref em)])) (fun t kt => st14 t kt) ?_
  exact own_end X14 hlk (v := some (.ref em)) (fun h => by rw [Bd.returns] at h; cases h) (fun fs hr => retA X14 hx Bd.returns rfl rfl (hb hby d7_46) hr) (by rw [e14]; exact ⟨rfl, N14, ((Keep.refl h0 []).trans K1 all0)⟩) (by decide : 1 ≤ _) (by decide : 2 ≤ _)
theorem ef_rmBFD (m : MethodId) (o0 : Addr)  : entryFrame m #[(.ref o0)] 5 = mkF m 0 #[.val (.ref o0), .unset, .unset, .unset, .unset] [] := by first |  (simp [entryFrame, mkF, argsToLocals, Value.category]; done) | rfl
def Q_rmBFD (Z : State) (o0 : Addr) (va : Addr) (kv : ClassId) (ou : Addr) (oq : Addr) (em : Addr) (flu : Addr) (fvu : Addr) (kfu : ClassId) (flq : Addr) (fvq : Addr) (kfq : ClassId) (cs : Int32) (sv : Addr) (ks : ClassId) (ln : Int32) (xs : List Value) (h0 : Heap) (n0 : Nat) (v : Option Value) (h : Heap) (L : List Loc) : Prop := v = some (.ref em) ∧ Fr n0 L ∧ Keep h0 h []
set_option maxRecDepth 65536 in
set_option maxHeartbeats 40000000 in
theorem rmBFD (l : Launch) (Z : State) (a0 : Array Value) (hw : ∀ d ∈ tables_1, d.before a0 Z = true) (ws : List Jvm.Cond) (o0 : Addr) (va : Addr) (kv : ClassId) (ou : Addr) (oq : Addr) (em : Addr) (flu : Addr) (fvu : Addr) (kfu : ClassId) (flq : Addr) (fvq : Addr) (kfq : ClassId) (cs : Int32) (sv : Addr) (ks : ClassId) (ln : Int32) (xs : List Value) (h0 : Heap) (n0 : Nat) (Z0 : n0 ≤ h0.size) (S_V : Sta Z Z.heap "com/example/durable_dispatch/durabledispatch/cli/Option" "$VALUES" "[Lcom/example/durable_dispatch/durabledispatch/cli/Option;" (.ref va)) (V_va : Arv Z Z.heap va kv (.object "com/example/durable_dispatch/durabledispatch/cli/Option") (2 : Int32) [(.ref ou), (.ref oq)] .null) (E_va : Exa Z Z.heap va "[Lcom/example/durable_dispatch/durabledispatch/cli/Option;") (hfit : Fit Z) (S_em : Sta Z Z.heap "java/util/Optional" "EMPTY" "Ljava/util/Optional;" (.ref em)) (S_cs : Sta Z Z.heap "java/lang/String" "COMPACT_STRINGS" "Z" (.int cs)) (hcs : ¬ cs = (0 : Int32)) (hO : Old Z n0 h0) (F_flu : Fld Z h0 ou "com/example/durable_dispatch/durabledispatch/cli/Option" "flag" "Ljava/lang/String;" (.ref flu)) (E_flu : Exa Z h0 flu "java/lang/String") (F_fvu : Fld Z h0 flu "java/lang/String" "value" "[B" (.ref fvu)) (F_fluc : Fld Z h0 flu "java/lang/String" "coder" "B" (.int 0)) (V_fvu : Arv Z h0 fvu kfu .byte (5 : Int32) [(.int 45), (.int 45), (.int 117), (.int 114), (.int 108)] (.int 0)) (F_flq : Fld Z h0 oq "com/example/durable_dispatch/durabledispatch/cli/Option" "flag" "Ljava/lang/String;" (.ref flq)) (E_flq : Exa Z h0 flq "java/lang/String") (F_fvq : Fld Z h0 flq "java/lang/String" "value" "[B" (.ref fvq)) (F_flqc : Fld Z h0 flq "java/lang/String" "coder" "B" (.int 0)) (V_fvq : Arv Z h0 fvq kfq .byte (7 : Int32) [(.int 45), (.int 45), (.int 113), (.int 117), (.int 101), (.int 117), (.int 101)] (.int 0)) (E_o0 : Exa Z h0 o0 "java/lang/String") (F_sv : Fld Z h0 o0 "java/lang/String" "value" "[B" (.ref sv)) (F_o0c : Fld Z h0 o0 "java/lang/String" "coder" "B" (.int 0)) (V_sv : Arv Z h0 sv ks .byte ln xs (.int 0)) (h5 : ¬ (5 : Int32) = ln) (h7 : ¬ (7 : Int32) = ln) (h5' : ¬ ln = (5 : Int32)) (h7' : ¬ ln = (7 : Int32)) :
    MetFree l (⟨"com/example/durable_dispatch/durabledispatch/cli/Option", "byFlag", "(Ljava/lang/String;)Ljava/util/Optional;"⟩ : MethodName) (head1 (Jvm.Cond.code (⟨"com/example/durable_dispatch/durabledispatch/cli/Option", "byFlag", "(Ljava/lang/String;)Ljava/util/Optional;"⟩ : MethodName) prog_1_method_4_code 5 (some (.object "java/util/Optional")) :: ws) ({ frames := 2, cells := 1, slots := 2, locals := 28 } : Room)) (fun a U => a = #[(.ref o0)] ∧ Z.Warmed39 U.vm ∧ U.heap = h0) (fun _ _ _ _ _ => True) (fun _ U o U' => ∃ v L, o = .returned v ∧ Q_rmBFD Z o0 va kv ou oq em flu fvu kfu flq fvq kfq cs sv ks ln xs h0 n0 v U'.heap L ∧ FrameEnd U o U' L ({ frames := 2, cells := 1, slots := 2, locals := 28 } : Room).cells ({ frames := 2, cells := 1, slots := 2, locals := 28 } : Room).slots) := by
  refine MetFree.of_bodySF (plainFor_of_name pn_com_example_durable_dispatch_durabledispatch_cli_Option) hisR ?_
  intro p e s m args below meth c s₁ Bd hml0 hP hK
  obtain ⟨rfl, hZ, hh⟩ := hP
  have hx := Bd.exec
  have hby := Bd.bytes
  have hml : c.maxLocals = 5 := hml0
  have hown : s.vm.findClass "com/example/durable_dispatch/durabledispatch/cli/Option" = some m.cls := findClass_of_methodNamed Bd.named
  have hnm := (name_of_methodNamed Bd.named Bd.method).1
  have hlk := Bd.notSynchronized
  have X0 : Stand p l e ({ frames := 2, cells := 1, slots := 2, locals := 28 } : Room) s m #[(.ref o0)] below meth c s₁ [] 0 0 := Stand.of_body Bd
  have e0 : s₁.heap = h0 := by rw [← hh, Bd.state]; rfl
  have N0 := Fr.nil n0
  show own_G p.tables e below s (Q_rmBFD Z o0 va kv ou oq em flu fvu kfu flq fvq kfq cs sv ks ln xs h0 n0) ({ frames := 2, cells := 1, slots := 2, locals := 28 } : Room).cells ({ frames := 2, cells := 1, slots := 2, locals := 28 } : Room).slots _
  refine own_thr (a := s₁.setTop (mkF m 0 #[.val (.ref o0), .unset, .unset, .unset, .unset] [])) (fun t kt => castTop (ef_rmBFD m o0) kt) ?_
  obtain ⟨_, _, ⟨T1, L1, k1, n1⟩, -, X1, ⟨Lc1, hQ1, l1, y1, z1⟩, st1⟩ := Jvm.LawKit.callS X0 hx (y := (⟨"com/example/durable_dispatch/durabledispatch/cli/Option", "values", "()[Lcom/example/durable_dispatch/durabledispatch/cli/Option;"⟩ : MethodName)) hown (mvT hZ (hw _ (own_i 34 rfl))) (mvT hZ (hw _ (own_i 35 rfl))) (mvT hZ (hw _ (own_i 32 rfl))) (mvT hZ (hw _ (own_i 36 rfl))) (by decide) (backOf (W := 0) (rmV l Z a0 hw [] va kv ou oq h0 n0 Z0 (S_V.ext hO.2) V_va (E_va.ext hO.2) hfit hO) hZ (hw _ (own_i 36 rfl)) (hw _ (own_i 32 rfl)) (by decide) (by decide)) (g := (mkF m 0 #[.val (.ref o0), .unset, .unset, .unset, .unset] [])) rfl (by rw [hml]; rfl) (argsL := []) (rest := []) (lenOf pd__28_29_5bLcom_2fexample_2fdurable_dispatch_2fdurabledispatch_2fcli_2fOption_3b rfl) rfl (by show 2 * 0 + _ ≤ _; exact Nat.le_of_eq rfl) (hb hby d7_0) (fun _ _ => ⟨rfl, e0, (by decide : 0 + 1 ≤ _), (by decide : 0 + 2 ≤ _)⟩)
  dsimp only [Pt.U, Pt.locs, Pt.cells, Pt.slots] at X1 l1 y1 z1 st1 hQ1
  obtain ⟨b1, rfl, N1q, K1, V_b1⟩ := hQ1
  have Z2 : n0 ≤ T1.heap.size := Nat.le_trans Z0 K1.1
  have Z2h : h0.size ≤ T1.heap.size := Nat.le_trans (Nat.le_refl h0.size) K1.1
  obtain ⟨lc1, X1, N1⟩ := own_pack X1 l1 y1 z1 N0 N1q (C := 1) (S' := 2) rfl rfl
  refine own_thr (a := T1.setTop (mkF m 3 #[.val (.ref o0), .unset, .unset, .unset, .unset] [(.ref b1)])) (fun t kt => st1 t kt) ?_
  refine own_thr (a := T1.setTop (mkF m 5 #[.val (.ref o0), .val (.ref b1), .unset, .unset, .unset] [(.ref b1)])) (fun t kt => ?_) ?_
  · refine XS.astoreN X1.here hx rfl (hb hby d7_3) rfl rfl (l' := #[.val (.ref o0), .val (.ref b1), .unset, .unset, .unset]) rfl ?_
    refine XS.aloadN X1.here hx rfl (hb hby d7_4) rfl rfl ?_
    exact kt
  obtain ⟨cl3, Ar3, -, S3, M3, -, -⟩ := id V_b1
  refine own_thr (a := T1.setTop (mkF m 16 #[.val (.ref o0), .val (.ref b1), .val (.int 2), .val (.int 0), .unset] [(.int 0), (.ref b1)])) (fun t kt => ?_) ?_
  · refine X1.arraylength hx Ar3.1 (State.isArrayOf_alike hZ.alike Ar3.2.1) (g := (mkF m 5 #[.val (.ref o0), .val (.ref b1), .unset, .unset, .unset] [(.ref b1)])) rfl rfl (hb hby d7_5) _ ?_
    rw [len_of S3 M3]
    refine XS.istoreN X1.here hx rfl (hb hby d7_6) rfl (l' := #[.val (.ref o0), .val (.ref b1), .val (.int 2), .unset, .unset]) rfl ?_
    refine XS.iconst X1.here hx rfl (hb hby d7_7) ?_
    refine XS.istoreN X1.here hx rfl (hb hby d7_8) rfl (l' := #[.val (.ref o0), .val (.ref b1), .val (.int 2), .val (.int 0), .unset]) rfl ?_
    refine XS.iloadN X1.here hx rfl (hb hby d7_9) rfl ?_
    refine XS.iloadN X1.here hx rfl (hb hby d7_10) rfl ?_
    refine XS.icmpNo X1.here hx rfl (hb hby d7_11) rfl (tlt (by decide)).2.1 ?_
    refine XS.aloadN X1.here hx rfl (hb hby d7_14) rfl rfl ?_
    refine XS.iloadN X1.here hx rfl (hb hby d7_15) rfl ?_
    exact kt
  obtain ⟨cl4, Ar4, -, S4, M4, H4, -⟩ := id V_b1
  have hin4 : ¬ ((0 : Int32) < 0 ∨ cl4.slots.size ≤ ((0 : Int32)).toNatClampNeg) := inb_of S4 ⟨by decide, by decide⟩
  have hat4 : cl4.slots[((0 : Int32)).toNatClampNeg]? = some (.ref ou) := Has.at H4 hin4 rfl
  refine own_thr (a := T1.setTop (mkF m 21 #[.val (.ref o0), .val (.ref b1), .val (.int 2), .val (.int 0), .val (.ref ou)] [(.ref ou)])) (fun t kt => ?_) ?_
  · refine X1.aaload hx (j := (0 : Int32)) (v := (.ref ou)) Ar4.1 (State.isArrayOf_alike hZ.alike Ar4.2.1) rfl Ar4.2.2 hin4 hat4 (g := (mkF m 16 #[.val (.ref o0), .val (.ref b1), .val (.int 2), .val (.int 0), .unset] [(.int 0), (.ref b1)])) rfl rfl (hb hby d7_16) _ ?_
    refine XS.astore X1.here hx rfl (hb hby d7_17) rfl rfl (l' := #[.val (.ref o0), .val (.ref b1), .val (.int 2), .val (.int 0), .val (.ref ou)]) rfl ?_
    refine XS.aload X1.here hx rfl (hb hby d7_19) rfl rfl ?_
    exact kt
  obtain ⟨T5, X5, e5, st5⟩ := getF X1 hx hZ hown (host := "") (Or.inl (hw _ (own_i 51 rfl))) Via.refl rfl (F_flu.keep K1 nin0) (g := (mkF m 21 #[.val (.ref o0), .val (.ref b1), .val (.int 2), .val (.int 0), .val (.ref ou)] [(.ref ou)])) rfl rfl (hb hby d7_21)
  refine own_thr (a := T5.setTop (mkF m 24 #[.val (.ref o0), .val (.ref b1), .val (.int 2), .val (.int 0), .val (.ref ou)] [(.ref flu)])) (fun t kt => st5 t kt) ?_
  have S6 := S_cs.ext (hO.keep K1 all0).2
  refine own_thr (a := T5.setTop (mkF m 25 #[.val (.ref o0), .val (.ref b1), .val (.int 2), .val (.int 0), .val (.ref ou)] [(.ref o0), (.ref flu)])) (fun t kt => ?_) ?_
  · refine XS.aloadN X5.here hx rfl (hb hby d7_24) rfl rfl ?_
    exact kt
  obtain ⟨cq7, kq7, q7a, q7b, q7c⟩ := isOf hZ e5 (E_flu.keep K1)
  obtain ⟨_, _, ⟨T7, L7, k7, n7⟩, -, X7, ⟨Lc7, hQ7, l7, y7, z7⟩, st7⟩ := X5.virtualBack hx (y := (⟨"java/lang/String", "equals", "(Ljava/lang/Object;)Z"⟩ : MethodName)) (z := (⟨"java/lang/String", "equals", "(Ljava/lang/Object;)Z"⟩ : MethodName)) hown (mvT hZ (hw _ (own_i 53 rfl))) (mvT hZ (hw _ (own_i 54 rfl))) (notFace_of_selects (args := #[]) (mvT hZ (hw _ (own_i 56 rfl)))) (mvT hZ (hw _ (own_i 56 rfl))) (mvT hZ (hw _ (own_i 55 rfl))) (by decide) (backOf (W := 0) (rmEQD l Z a0 hw [] flu o0 fvu sv (5 : Int32) ln [(.int 45), (.int 45), (.int 117), (.int 114), (.int 108)] xs kfu ks cs T1.heap n0 Z2 (E_flu.keep K1) (F_fvu.keep K1 nin0) (F_fluc.keep K1 nin0) (E_o0.keep K1) (F_sv.keep K1 nin0) (F_o0c.keep K1 nin0) (V_fvu.keep K1 nin0) (V_sv.keep K1 nin0) S6 hcs (own_sd (F_fvu.keep K1 nin0) (F_sv.keep K1 nin0) (V_fvu.keep K1 nin0) (V_sv.keep K1 nin0) h5) h5) hZ (hw _ (own_i 57 rfl)) (hw _ (own_i 2 rfl)) (by decide) (by decide)) q7a q7c (g := (mkF m 25 #[.val (.ref o0), .val (.ref b1), .val (.int 2), .val (.int 0), .val (.ref ou)] [(.ref o0), (.ref flu)])) rfl (by rw [hml]; rfl) (Steps.refl _) (argsL := [(.ref o0)]) (rest := []) (lenOf pd__28Ljava_2flang_2fObject_3b_29Z rfl) rfl (by show 2 * 0 + _ ≤ _; exact Nat.le_of_eq rfl) (hb hby d7_25) (fun _ _ => ⟨rfl, e5, (by decide : 1 + 0 ≤ _), (by decide : 2 + 0 ≤ _)⟩)
  dsimp only [Pt.U, Pt.locs, Pt.cells, Pt.slots] at X7 l7 y7 z7 st7 hQ7
  obtain ⟨rfl, N7q, e7⟩ := hQ7
  obtain ⟨lc7, X7, N7⟩ := own_pack X7 l7 y7 z7 N1 N7q (C := 1) (S' := 2) rfl rfl
  refine own_thr (a := T7.setTop (mkF m 28 #[.val (.ref o0), .val (.ref b1), .val (.int 2), .val (.int 0), .val (.ref ou)] [(.int 0)])) (fun t kt => st7.trans kt) ?_
  refine own_thr (a := T7.setTop (mkF m 16 #[.val (.ref o0), .val (.ref b1), .val (.int 2), .val (.int 1), .val (.ref ou)] [(.int 1), (.ref b1)])) (fun t kt => ?_) ?_
  · refine XS.ifYes X7.here hx rfl (pc0 := 28) (pc' := 37) rfl (hb hby d7_28) rfl ((if0 _ _).trans (teq rfl).1) (by decide) (by decide) ?_
    refine XS.iinc X7.here hx rfl (hb hby d7_37) rfl (l' := #[.val (.ref o0), .val (.ref b1), .val (.int 2), .val (.int 1), .val (.ref ou)]) rfl ?_
    refine XS.goto X7.here hx rfl (pc0 := 40) (pc' := 9) rfl (hb hby d7_40) (by decide) (by decide) ?_
    refine XS.iloadN X7.here hx rfl (hb hby d7_9) rfl ?_
    refine XS.iloadN X7.here hx rfl (hb hby d7_10) rfl ?_
    refine XS.icmpNo X7.here hx rfl (hb hby d7_11) rfl (tlt (by decide)).2.1 ?_
    refine XS.aloadN X7.here hx rfl (hb hby d7_14) rfl rfl ?_
    refine XS.iloadN X7.here hx rfl (hb hby d7_15) rfl ?_
    exact kt
  obtain ⟨cl8, Ar8, -, S8, M8, H8, -⟩ := id V_b1
  have hin8 : ¬ ((1 : Int32) < 0 ∨ cl8.slots.size ≤ ((1 : Int32)).toNatClampNeg) := inb_of S8 ⟨by decide, by decide⟩
  have hat8 : cl8.slots[((1 : Int32)).toNatClampNeg]? = some (.ref oq) := Has.at H8 hin8 rfl
  refine own_thr (a := T7.setTop (mkF m 21 #[.val (.ref o0), .val (.ref b1), .val (.int 2), .val (.int 1), .val (.ref oq)] [(.ref oq)])) (fun t kt => ?_) ?_
  · refine X7.aaload hx (j := (1 : Int32)) (v := (.ref oq)) (by rw [e7]; exact Ar8.1) (State.isArrayOf_alike hZ.alike Ar8.2.1) rfl Ar8.2.2 hin8 hat8 (g := (mkF m 16 #[.val (.ref o0), .val (.ref b1), .val (.int 2), .val (.int 1), .val (.ref ou)] [(.int 1), (.ref b1)])) rfl rfl (hb hby d7_16) _ ?_
    refine XS.astore X7.here hx rfl (hb hby d7_17) rfl rfl (l' := #[.val (.ref o0), .val (.ref b1), .val (.int 2), .val (.int 1), .val (.ref oq)]) rfl ?_
    refine XS.aload X7.here hx rfl (hb hby d7_19) rfl rfl ?_
    exact kt
  obtain ⟨T9, X9, e9, st9⟩ := getF X7 hx hZ hown (host := "") (Or.inl (hw _ (own_i 51 rfl))) Via.refl e7 (F_flq.keep K1 nin0) (g := (mkF m 21 #[.val (.ref o0), .val (.ref b1), .val (.int 2), .val (.int 1), .val (.ref oq)] [(.ref oq)])) rfl rfl (hb hby d7_21)
  refine own_thr (a := T9.setTop (mkF m 24 #[.val (.ref o0), .val (.ref b1), .val (.int 2), .val (.int 1), .val (.ref oq)] [(.ref flq)])) (fun t kt => st9 t kt) ?_
  have S10 := S_cs.ext (hO.keep K1 all0).2
  refine own_thr (a := T9.setTop (mkF m 25 #[.val (.ref o0), .val (.ref b1), .val (.int 2), .val (.int 1), .val (.ref oq)] [(.ref o0), (.ref flq)])) (fun t kt => ?_) ?_
  · refine XS.aloadN X9.here hx rfl (hb hby d7_24) rfl rfl ?_
    exact kt
  obtain ⟨cq11, kq11, q11a, q11b, q11c⟩ := isOf hZ e9 (E_flq.keep K1)
  obtain ⟨_, _, ⟨T11, L11, k11, n11⟩, -, X11, ⟨Lc11, hQ11, l11, y11, z11⟩, st11⟩ := X9.virtualBack hx (y := (⟨"java/lang/String", "equals", "(Ljava/lang/Object;)Z"⟩ : MethodName)) (z := (⟨"java/lang/String", "equals", "(Ljava/lang/Object;)Z"⟩ : MethodName)) hown (mvT hZ (hw _ (own_i 53 rfl))) (mvT hZ (hw _ (own_i 54 rfl))) (notFace_of_selects (args := #[]) (mvT hZ (hw _ (own_i 56 rfl)))) (mvT hZ (hw _ (own_i 56 rfl))) (mvT hZ (hw _ (own_i 55 rfl))) (by decide) (backOf (W := 0) (rmEQD l Z a0 hw [] flq o0 fvq sv (7 : Int32) ln [(.int 45), (.int 45), (.int 113), (.int 117), (.int 101), (.int 117), (.int 101)] xs kfq ks cs T1.heap n0 Z2 (E_flq.keep K1) (F_fvq.keep K1 nin0) (F_flqc.keep K1 nin0) (E_o0.keep K1) (F_sv.keep K1 nin0) (F_o0c.keep K1 nin0) (V_fvq.keep K1 nin0) (V_sv.keep K1 nin0) S10 hcs (own_sd (F_fvq.keep K1 nin0) (F_sv.keep K1 nin0) (V_fvq.keep K1 nin0) (V_sv.keep K1 nin0) h7) h7) hZ (hw _ (own_i 57 rfl)) (hw _ (own_i 2 rfl)) (by decide) (by decide)) q11a q11c (g := (mkF m 25 #[.val (.ref o0), .val (.ref b1), .val (.int 2), .val (.int 1), .val (.ref oq)] [(.ref o0), (.ref flq)])) rfl (by rw [hml]; rfl) (Steps.refl _) (argsL := [(.ref o0)]) (rest := []) (lenOf pd__28Ljava_2flang_2fObject_3b_29Z rfl) rfl (by show 2 * 0 + _ ≤ _; exact Nat.le_of_eq rfl) (hb hby d7_25) (fun _ _ => ⟨rfl, e9, (by decide : 1 + 0 ≤ _), (by decide : 2 + 0 ≤ _)⟩)
  dsimp only [Pt.U, Pt.locs, Pt.cells, Pt.slots] at X11 l11 y11 z11 st11 hQ11
  obtain ⟨rfl, N11q, e11⟩ := hQ11
  obtain ⟨lc11, X11, N11⟩ := own_pack X11 l11 y11 z11 N7 N11q (C := 1) (S' := 2) rfl rfl
  refine own_thr (a := T11.setTop (mkF m 28 #[.val (.ref o0), .val (.ref b1), .val (.int 2), .val (.int 1), .val (.ref oq)] [(.int 0)])) (fun t kt => st11.trans kt) ?_
  have S12 := S_em.ext (hO.keep K1 all0).2
  refine own_thr (a := T11.setTop (mkF m 43 #[.val (.ref o0), .val (.ref b1), .val (.int 2), .val (.int 2), .val (.ref oq)] [])) (fun t kt => ?_) ?_
  · refine XS.ifYes X11.here hx rfl (pc0 := 28) (pc' := 37) rfl (hb hby d7_28) rfl ((if0 _ _).trans (teq rfl).1) (by decide) (by decide) ?_
    refine XS.iinc X11.here hx rfl (hb hby d7_37) rfl (l' := #[.val (.ref o0), .val (.ref b1), .val (.int 2), .val (.int 2), .val (.ref oq)]) rfl ?_
    refine XS.goto X11.here hx rfl (pc0 := 40) (pc' := 9) rfl (hb hby d7_40) (by decide) (by decide) ?_
    refine XS.iloadN X11.here hx rfl (hb hby d7_9) rfl ?_
    refine XS.iloadN X11.here hx rfl (hb hby d7_10) rfl ?_
    refine XS.icmpYes X11.here hx rfl (pc0 := 11) (pc' := 43) rfl (hb hby d7_11) rfl (flt (by decide)).2.1 (by decide) (by decide) ?_
    exact kt
  obtain ⟨_, _, ⟨T13, L13, k13, n13⟩, -, X13, ⟨Lc13, hQ13, l13, y13, z13⟩, st13⟩ := Jvm.LawKit.callS X11 hx (y := (⟨"java/util/Optional", "empty", "()Ljava/util/Optional;"⟩ : MethodName)) hown (mvT hZ (hw _ (own_i 107 rfl))) (mvT hZ (hw _ (own_i 108 rfl))) (mvT hZ (hw _ (own_i 65 rfl))) (mvT hZ (hw _ (own_i 109 rfl))) (by decide) (backOf (W := 0) (rmEM l Z a0 hw []  em T1.heap n0 Z2 S12) hZ (hw _ (own_i 109 rfl)) (hw _ (own_i 65 rfl)) (by decide) (by decide)) (g := (mkF m 43 #[.val (.ref o0), .val (.ref b1), .val (.int 2), .val (.int 2), .val (.ref oq)] [])) rfl (by rw [hml]; rfl) (argsL := []) (rest := []) (lenOf pd__28_29Ljava_2futil_2fOptional_3b rfl) rfl (by show 2 * 0 + _ ≤ _; exact Nat.le_of_eq rfl) (hb hby d7_43) (fun _ _ => ⟨rfl, e11, (by decide : 1 + 0 ≤ _), (by decide : 2 + 0 ≤ _)⟩)
  dsimp only [Pt.U, Pt.locs, Pt.cells, Pt.slots] at X13 l13 y13 z13 st13 hQ13
  obtain ⟨rfl, N13q, e13⟩ := hQ13
  obtain ⟨lc13, X13, N13⟩ := own_pack X13 l13 y13 z13 N11 N13q (C := 1) (S' := 2) rfl rfl
  refine own_thr (a := T13.setTop (mkF m 46 #[.val (.ref o0), .val (.ref b1), .val (.int 2), .val (.int 2), .val (.ref oq)] [(.ref em)])) (fun t kt => st13 t kt) ?_
  exact own_end X13 hlk (v := some (.ref em)) (fun h => by rw [Bd.returns] at h; cases h) (fun fs hr => retA X13 hx Bd.returns rfl rfl (hb hby d7_46) hr) (by rw [e13]; exact ⟨rfl, N13, ((Keep.refl h0 []).trans K1 all0)⟩) (by decide : 1 ≤ _) (by decide : 2 ≤ _)
theorem ef_rmBFN (m : MethodId)   : entryFrame m #[.null] 5 = mkF m 0 #[.val .null, .unset, .unset, .unset, .unset] [] := by first |  (simp [entryFrame, mkF, argsToLocals, Value.category]; done) | rfl
def Q_rmBFN (Z : State)  (va : Addr) (kv : ClassId) (ou : Addr) (oq : Addr) (em : Addr) (flu : Addr) (fvu : Addr) (kfu : ClassId) (flq : Addr) (fvq : Addr) (kfq : ClassId) (cs : Int32) (h0 : Heap) (n0 : Nat) (v : Option Value) (h : Heap) (L : List Loc) : Prop := v = some (.ref em) ∧ Fr n0 L ∧ Keep h0 h []
set_option maxRecDepth 65536 in
set_option maxHeartbeats 40000000 in
theorem rmBFN (l : Launch) (Z : State) (a0 : Array Value) (hw : ∀ d ∈ tables_1, d.before a0 Z = true) (ws : List Jvm.Cond)  (va : Addr) (kv : ClassId) (ou : Addr) (oq : Addr) (em : Addr) (flu : Addr) (fvu : Addr) (kfu : ClassId) (flq : Addr) (fvq : Addr) (kfq : ClassId) (cs : Int32) (h0 : Heap) (n0 : Nat) (Z0 : n0 ≤ h0.size) (S_V : Sta Z Z.heap "com/example/durable_dispatch/durabledispatch/cli/Option" "$VALUES" "[Lcom/example/durable_dispatch/durabledispatch/cli/Option;" (.ref va)) (V_va : Arv Z Z.heap va kv (.object "com/example/durable_dispatch/durabledispatch/cli/Option") (2 : Int32) [(.ref ou), (.ref oq)] .null) (E_va : Exa Z Z.heap va "[Lcom/example/durable_dispatch/durabledispatch/cli/Option;") (hfit : Fit Z) (S_em : Sta Z Z.heap "java/util/Optional" "EMPTY" "Ljava/util/Optional;" (.ref em)) (S_cs : Sta Z Z.heap "java/lang/String" "COMPACT_STRINGS" "Z" (.int cs)) (hcs : ¬ cs = (0 : Int32)) (hO : Old Z n0 h0) (F_flu : Fld Z h0 ou "com/example/durable_dispatch/durabledispatch/cli/Option" "flag" "Ljava/lang/String;" (.ref flu)) (E_flu : Exa Z h0 flu "java/lang/String") (F_fvu : Fld Z h0 flu "java/lang/String" "value" "[B" (.ref fvu)) (F_fluc : Fld Z h0 flu "java/lang/String" "coder" "B" (.int 0)) (V_fvu : Arv Z h0 fvu kfu .byte (5 : Int32) [(.int 45), (.int 45), (.int 117), (.int 114), (.int 108)] (.int 0)) (F_flq : Fld Z h0 oq "com/example/durable_dispatch/durabledispatch/cli/Option" "flag" "Ljava/lang/String;" (.ref flq)) (E_flq : Exa Z h0 flq "java/lang/String") (F_fvq : Fld Z h0 flq "java/lang/String" "value" "[B" (.ref fvq)) (F_flqc : Fld Z h0 flq "java/lang/String" "coder" "B" (.int 0)) (V_fvq : Arv Z h0 fvq kfq .byte (7 : Int32) [(.int 45), (.int 45), (.int 113), (.int 117), (.int 101), (.int 117), (.int 101)] (.int 0)) :
    MetFree l (⟨"com/example/durable_dispatch/durabledispatch/cli/Option", "byFlag", "(Ljava/lang/String;)Ljava/util/Optional;"⟩ : MethodName) (head1 (Jvm.Cond.code (⟨"com/example/durable_dispatch/durabledispatch/cli/Option", "byFlag", "(Ljava/lang/String;)Ljava/util/Optional;"⟩ : MethodName) prog_1_method_4_code 5 (some (.object "java/util/Optional")) :: ws) ({ frames := 2, cells := 1, slots := 2, locals := 25 } : Room)) (fun a U => a = #[.null] ∧ Z.Warmed39 U.vm ∧ U.heap = h0) (fun _ _ _ _ _ => True) (fun _ U o U' => ∃ v L, o = .returned v ∧ Q_rmBFN Z  va kv ou oq em flu fvu kfu flq fvq kfq cs h0 n0 v U'.heap L ∧ FrameEnd U o U' L ({ frames := 2, cells := 1, slots := 2, locals := 25 } : Room).cells ({ frames := 2, cells := 1, slots := 2, locals := 25 } : Room).slots) := by
  refine MetFree.of_bodySF (plainFor_of_name pn_com_example_durable_dispatch_durabledispatch_cli_Option) hisR ?_
  intro p e s m args below meth c s₁ Bd hml0 hP hK
  obtain ⟨rfl, hZ, hh⟩ := hP
  have hx := Bd.exec
  have hby := Bd.bytes
  have hml : c.maxLocals = 5 := hml0
  have hown : s.vm.findClass "com/example/durable_dispatch/durabledispatch/cli/Option" = some m.cls := findClass_of_methodNamed Bd.named
  have hnm := (name_of_methodNamed Bd.named Bd.method).1
  have hlk := Bd.notSynchronized
  have X0 : Stand p l e ({ frames := 2, cells := 1, slots := 2, locals := 25 } : Room) s m #[.null] below meth c s₁ [] 0 0 := Stand.of_body Bd
  have e0 : s₁.heap = h0 := by rw [← hh, Bd.state]; rfl
  have N0 := Fr.nil n0
  show own_G p.tables e below s (Q_rmBFN Z  va kv ou oq em flu fvu kfu flq fvq kfq cs h0 n0) ({ frames := 2, cells := 1, slots := 2, locals := 25 } : Room).cells ({ frames := 2, cells := 1, slots := 2, locals := 25 } : Room).slots _
  refine own_thr (a := s₁.setTop (mkF m 0 #[.val .null, .unset, .unset, .unset, .unset] [])) (fun t kt => castTop (ef_rmBFN m ) kt) ?_
  obtain ⟨_, _, ⟨T1, L1, k1, n1⟩, -, X1, ⟨Lc1, hQ1, l1, y1, z1⟩, st1⟩ := Jvm.LawKit.callS X0 hx (y := (⟨"com/example/durable_dispatch/durabledispatch/cli/Option", "values", "()[Lcom/example/durable_dispatch/durabledispatch/cli/Option;"⟩ : MethodName)) hown (mvT hZ (hw _ (own_i 34 rfl))) (mvT hZ (hw _ (own_i 35 rfl))) (mvT hZ (hw _ (own_i 32 rfl))) (mvT hZ (hw _ (own_i 36 rfl))) (by decide) (backOf (W := 0) (rmV l Z a0 hw [] va kv ou oq h0 n0 Z0 (S_V.ext hO.2) V_va (E_va.ext hO.2) hfit hO) hZ (hw _ (own_i 36 rfl)) (hw _ (own_i 32 rfl)) (by decide) (by decide)) (g := (mkF m 0 #[.val .null, .unset, .unset, .unset, .unset] [])) rfl (by rw [hml]; rfl) (argsL := []) (rest := []) (lenOf pd__28_29_5bLcom_2fexample_2fdurable_dispatch_2fdurabledispatch_2fcli_2fOption_3b rfl) rfl (by show 2 * 0 + _ ≤ _; exact Nat.le_of_eq rfl) (hb hby d7_0) (fun _ _ => ⟨rfl, e0, (by decide : 0 + 1 ≤ _), (by decide : 0 + 2 ≤ _)⟩)
  dsimp only [Pt.U, Pt.locs, Pt.cells, Pt.slots] at X1 l1 y1 z1 st1 hQ1
  obtain ⟨b1, rfl, N1q, K1, V_b1⟩ := hQ1
  have Z2 : n0 ≤ T1.heap.size := Nat.le_trans Z0 K1.1
  have Z2h : h0.size ≤ T1.heap.size := Nat.le_trans (Nat.le_refl h0.size) K1.1
  obtain ⟨lc1, X1, N1⟩ := own_pack X1 l1 y1 z1 N0 N1q (C := 1) (S' := 2) rfl rfl
  refine own_thr (a := T1.setTop (mkF m 3 #[.val .null, .unset, .unset, .unset, .unset] [(.ref b1)])) (fun t kt => st1 t kt) ?_
  refine own_thr (a := T1.setTop (mkF m 5 #[.val .null, .val (.ref b1), .unset, .unset, .unset] [(.ref b1)])) (fun t kt => ?_) ?_
  · refine XS.astoreN X1.here hx rfl (hb hby d7_3) rfl rfl (l' := #[.val .null, .val (.ref b1), .unset, .unset, .unset]) rfl ?_
    refine XS.aloadN X1.here hx rfl (hb hby d7_4) rfl rfl ?_
    exact kt
  obtain ⟨cl3, Ar3, -, S3, M3, -, -⟩ := id V_b1
  refine own_thr (a := T1.setTop (mkF m 16 #[.val .null, .val (.ref b1), .val (.int 2), .val (.int 0), .unset] [(.int 0), (.ref b1)])) (fun t kt => ?_) ?_
  · refine X1.arraylength hx Ar3.1 (State.isArrayOf_alike hZ.alike Ar3.2.1) (g := (mkF m 5 #[.val .null, .val (.ref b1), .unset, .unset, .unset] [(.ref b1)])) rfl rfl (hb hby d7_5) _ ?_
    rw [len_of S3 M3]
    refine XS.istoreN X1.here hx rfl (hb hby d7_6) rfl (l' := #[.val .null, .val (.ref b1), .val (.int 2), .unset, .unset]) rfl ?_
    refine XS.iconst X1.here hx rfl (hb hby d7_7) ?_
    refine XS.istoreN X1.here hx rfl (hb hby d7_8) rfl (l' := #[.val .null, .val (.ref b1), .val (.int 2), .val (.int 0), .unset]) rfl ?_
    refine XS.iloadN X1.here hx rfl (hb hby d7_9) rfl ?_
    refine XS.iloadN X1.here hx rfl (hb hby d7_10) rfl ?_
    refine XS.icmpNo X1.here hx rfl (hb hby d7_11) rfl (tlt (by decide)).2.1 ?_
    refine XS.aloadN X1.here hx rfl (hb hby d7_14) rfl rfl ?_
    refine XS.iloadN X1.here hx rfl (hb hby d7_15) rfl ?_
    exact kt
  obtain ⟨cl4, Ar4, -, S4, M4, H4, -⟩ := id V_b1
  have hin4 : ¬ ((0 : Int32) < 0 ∨ cl4.slots.size ≤ ((0 : Int32)).toNatClampNeg) := inb_of S4 ⟨by decide, by decide⟩
  have hat4 : cl4.slots[((0 : Int32)).toNatClampNeg]? = some (.ref ou) := Has.at H4 hin4 rfl
  refine own_thr (a := T1.setTop (mkF m 21 #[.val .null, .val (.ref b1), .val (.int 2), .val (.int 0), .val (.ref ou)] [(.ref ou)])) (fun t kt => ?_) ?_
  · refine X1.aaload hx (j := (0 : Int32)) (v := (.ref ou)) Ar4.1 (State.isArrayOf_alike hZ.alike Ar4.2.1) rfl Ar4.2.2 hin4 hat4 (g := (mkF m 16 #[.val .null, .val (.ref b1), .val (.int 2), .val (.int 0), .unset] [(.int 0), (.ref b1)])) rfl rfl (hb hby d7_16) _ ?_
    refine XS.astore X1.here hx rfl (hb hby d7_17) rfl rfl (l' := #[.val .null, .val (.ref b1), .val (.int 2), .val (.int 0), .val (.ref ou)]) rfl ?_
    refine XS.aload X1.here hx rfl (hb hby d7_19) rfl rfl ?_
    exact kt
  obtain ⟨T5, X5, e5, st5⟩ := getF X1 hx hZ hown (host := "") (Or.inl (hw _ (own_i 51 rfl))) Via.refl rfl (F_flu.keep K1 nin0) (g := (mkF m 21 #[.val .null, .val (.ref b1), .val (.int 2), .val (.int 0), .val (.ref ou)] [(.ref ou)])) rfl rfl (hb hby d7_21)
  refine own_thr (a := T5.setTop (mkF m 24 #[.val .null, .val (.ref b1), .val (.int 2), .val (.int 0), .val (.ref ou)] [(.ref flu)])) (fun t kt => st5 t kt) ?_
  have S6 := S_cs.ext (hO.keep K1 all0).2
  refine own_thr (a := T5.setTop (mkF m 25 #[.val .null, .val (.ref b1), .val (.int 2), .val (.int 0), .val (.ref ou)] [.null, (.ref flu)])) (fun t kt => ?_) ?_
  · refine XS.aloadN X5.here hx rfl (hb hby d7_24) rfl rfl ?_
    exact kt
  obtain ⟨cq7, kq7, q7a, q7b, q7c⟩ := isOf hZ e5 (E_flu.keep K1)
  obtain ⟨_, _, ⟨T7, L7, k7, n7⟩, -, X7, ⟨Lc7, hQ7, l7, y7, z7⟩, st7⟩ := X5.virtualBack hx (y := (⟨"java/lang/String", "equals", "(Ljava/lang/Object;)Z"⟩ : MethodName)) (z := (⟨"java/lang/String", "equals", "(Ljava/lang/Object;)Z"⟩ : MethodName)) hown (mvT hZ (hw _ (own_i 53 rfl))) (mvT hZ (hw _ (own_i 54 rfl))) (notFace_of_selects (args := #[]) (mvT hZ (hw _ (own_i 56 rfl)))) (mvT hZ (hw _ (own_i 56 rfl))) (mvT hZ (hw _ (own_i 55 rfl))) (by decide) (backOf (W := 0) (rmEQN l Z a0 hw [] flu T1.heap n0 Z2) hZ (hw _ (own_i 57 rfl)) (hw _ (own_i 2 rfl)) (by decide) (by decide)) q7a q7c (g := (mkF m 25 #[.val .null, .val (.ref b1), .val (.int 2), .val (.int 0), .val (.ref ou)] [.null, (.ref flu)])) rfl (by rw [hml]; rfl) (Steps.refl _) (argsL := [.null]) (rest := []) (lenOf pd__28Ljava_2flang_2fObject_3b_29Z rfl) rfl (by show 2 * 0 + _ ≤ _; exact Nat.le_of_eq rfl) (hb hby d7_25) (fun _ _ => ⟨rfl, e5, (by decide : 1 + 0 ≤ _), (by decide : 2 + 0 ≤ _)⟩)
  dsimp only [Pt.U, Pt.locs, Pt.cells, Pt.slots] at X7 l7 y7 z7 st7 hQ7
  obtain ⟨rfl, N7q, e7⟩ := hQ7
  obtain ⟨lc7, X7, N7⟩ := own_pack X7 l7 y7 z7 N1 N7q (C := 1) (S' := 2) rfl rfl
  refine own_thr (a := T7.setTop (mkF m 28 #[.val .null, .val (.ref b1), .val (.int 2), .val (.int 0), .val (.ref ou)] [(.int 0)])) (fun t kt => st7.trans kt) ?_
  refine own_thr (a := T7.setTop (mkF m 16 #[.val .null, .val (.ref b1), .val (.int 2), .val (.int 1), .val (.ref ou)] [(.int 1), (.ref b1)])) (fun t kt => ?_) ?_
  · refine XS.ifYes X7.here hx rfl (pc0 := 28) (pc' := 37) rfl (hb hby d7_28) rfl ((if0 _ _).trans (teq rfl).1) (by decide) (by decide) ?_
    refine XS.iinc X7.here hx rfl (hb hby d7_37) rfl (l' := #[.val .null, .val (.ref b1), .val (.int 2), .val (.int 1), .val (.ref ou)]) rfl ?_
    refine XS.goto X7.here hx rfl (pc0 := 40) (pc' := 9) rfl (hb hby d7_40) (by decide) (by decide) ?_
    refine XS.iloadN X7.here hx rfl (hb hby d7_9) rfl ?_
    refine XS.iloadN X7.here hx rfl (hb hby d7_10) rfl ?_
    refine XS.icmpNo X7.here hx rfl (hb hby d7_11) rfl (tlt (by decide)).2.1 ?_
    refine XS.aloadN X7.here hx rfl (hb hby d7_14) rfl rfl ?_
    refine XS.iloadN X7.here hx rfl (hb hby d7_15) rfl ?_
    exact kt
  obtain ⟨cl8, Ar8, -, S8, M8, H8, -⟩ := id V_b1
  have hin8 : ¬ ((1 : Int32) < 0 ∨ cl8.slots.size ≤ ((1 : Int32)).toNatClampNeg) := inb_of S8 ⟨by decide, by decide⟩
  have hat8 : cl8.slots[((1 : Int32)).toNatClampNeg]? = some (.ref oq) := Has.at H8 hin8 rfl
  refine own_thr (a := T7.setTop (mkF m 21 #[.val .null, .val (.ref b1), .val (.int 2), .val (.int 1), .val (.ref oq)] [(.ref oq)])) (fun t kt => ?_) ?_
  · refine X7.aaload hx (j := (1 : Int32)) (v := (.ref oq)) (by rw [e7]; exact Ar8.1) (State.isArrayOf_alike hZ.alike Ar8.2.1) rfl Ar8.2.2 hin8 hat8 (g := (mkF m 16 #[.val .null, .val (.ref b1), .val (.int 2), .val (.int 1), .val (.ref ou)] [(.int 1), (.ref b1)])) rfl rfl (hb hby d7_16) _ ?_
    refine XS.astore X7.here hx rfl (hb hby d7_17) rfl rfl (l' := #[.val .null, .val (.ref b1), .val (.int 2), .val (.int 1), .val (.ref oq)]) rfl ?_
    refine XS.aload X7.here hx rfl (hb hby d7_19) rfl rfl ?_
    exact kt
  obtain ⟨T9, X9, e9, st9⟩ := getF X7 hx hZ hown (host := "") (Or.inl (hw _ (own_i 51 rfl))) Via.refl e7 (F_flq.keep K1 nin0) (g := (mkF m 21 #[.val .null, .val (.ref b1), .val (.int 2), .val (.int 1), .val (.ref oq)] [(.ref oq)])) rfl rfl (hb hby d7_21)
  refine own_thr (a := T9.setTop (mkF m 24 #[.val .null, .val (.ref b1), .val (.int 2), .val (.int 1), .val (.ref oq)] [(.ref flq)])) (fun t kt => st9 t kt) ?_
  have S10 := S_cs.ext (hO.keep K1 all0).2
  refine own_thr (a := T9.setTop (mkF m 25 #[.val .null, .val (.ref b1), .val (.int 2), .val (.int 1), .val (.ref oq)] [.null, (.ref flq)])) (fun t kt => ?_) ?_
  · refine XS.aloadN X9.here hx rfl (hb hby d7_24) rfl rfl ?_
    exact kt
  obtain ⟨cq11, kq11, q11a, q11b, q11c⟩ := isOf hZ e9 (E_flq.keep K1)
  obtain ⟨_, _, ⟨T11, L11, k11, n11⟩, -, X11, ⟨Lc11, hQ11, l11, y11, z11⟩, st11⟩ := X9.virtualBack hx (y := (⟨"java/lang/String", "equals", "(Ljava/lang/Object;)Z"⟩ : MethodName)) (z := (⟨"java/lang/String", "equals", "(Ljava/lang/Object;)Z"⟩ : MethodName)) hown (mvT hZ (hw _ (own_i 53 rfl))) (mvT hZ (hw _ (own_i 54 rfl))) (notFace_of_selects (args := #[]) (mvT hZ (hw _ (own_i 56 rfl)))) (mvT hZ (hw _ (own_i 56 rfl))) (mvT hZ (hw _ (own_i 55 rfl))) (by decide) (backOf (W := 0) (rmEQN l Z a0 hw [] flq T1.heap n0 Z2) hZ (hw _ (own_i 57 rfl)) (hw _ (own_i 2 rfl)) (by decide) (by decide)) q11a q11c (g := (mkF m 25 #[.val .null, .val (.ref b1), .val (.int 2), .val (.int 1), .val (.ref oq)] [.null, (.ref flq)])) rfl (by rw [hml]; rfl) (Steps.refl _) (argsL := [.null]) (rest := []) (lenOf pd__28Ljava_2flang_2fObject_3b_29Z rfl) rfl (by show 2 * 0 + _ ≤ _; exact Nat.le_of_eq rfl) (hb hby d7_25) (fun _ _ => ⟨rfl, e9, (by decide : 1 + 0 ≤ _), (by decide : 2 + 0 ≤ _)⟩)
  dsimp only [Pt.U, Pt.locs, Pt.cells, Pt.slots] at X11 l11 y11 z11 st11 hQ11
  obtain ⟨rfl, N11q, e11⟩ := hQ11
  obtain ⟨lc11, X11, N11⟩ := own_pack X11 l11 y11 z11 N7 N11q (C := 1) (S' := 2) rfl rfl
  refine own_thr (a := T11.setTop (mkF m 28 #[.val .null, .val (.ref b1), .val (.int 2), .val (.int 1), .val (.ref oq)] [(.int 0)])) (fun t kt => st11.trans kt) ?_
  have S12 := S_em.ext (hO.keep K1 all0).2
  refine own_thr (a := T11.setTop (mkF m 43 #[.val .null, .val (.ref b1), .val (.int 2), .val (.int 2), .val (.ref oq)] [])) (fun t kt => ?_) ?_
  · refine XS.ifYes X11.here hx rfl (pc0 := 28) (pc' := 37) rfl (hb hby d7_28) rfl ((if0 _ _).trans (teq rfl).1) (by decide) (by decide) ?_
    refine XS.iinc X11.here hx rfl (hb hby d7_37) rfl (l' := #[.val .null, .val (.ref b1), .val (.int 2), .val (.int 2), .val (.ref oq)]) rfl ?_
    refine XS.goto X11.here hx rfl (pc0 := 40) (pc' := 9) rfl (hb hby d7_40) (by decide) (by decide) ?_
    refine XS.iloadN X11.here hx rfl (hb hby d7_9) rfl ?_
    refine XS.iloadN X11.here hx rfl (hb hby d7_10) rfl ?_
    refine XS.icmpYes X11.here hx rfl (pc0 := 11) (pc' := 43) rfl (hb hby d7_11) rfl (flt (by decide)).2.1 (by decide) (by decide) ?_
    exact kt
  obtain ⟨_, _, ⟨T13, L13, k13, n13⟩, -, X13, ⟨Lc13, hQ13, l13, y13, z13⟩, st13⟩ := Jvm.LawKit.callS X11 hx (y := (⟨"java/util/Optional", "empty", "()Ljava/util/Optional;"⟩ : MethodName)) hown (mvT hZ (hw _ (own_i 107 rfl))) (mvT hZ (hw _ (own_i 108 rfl))) (mvT hZ (hw _ (own_i 65 rfl))) (mvT hZ (hw _ (own_i 109 rfl))) (by decide) (backOf (W := 0) (rmEM l Z a0 hw []  em T1.heap n0 Z2 S12) hZ (hw _ (own_i 109 rfl)) (hw _ (own_i 65 rfl)) (by decide) (by decide)) (g := (mkF m 43 #[.val .null, .val (.ref b1), .val (.int 2), .val (.int 2), .val (.ref oq)] [])) rfl (by rw [hml]; rfl) (argsL := []) (rest := []) (lenOf pd__28_29Ljava_2futil_2fOptional_3b rfl) rfl (by show 2 * 0 + _ ≤ _; exact Nat.le_of_eq rfl) (hb hby d7_43) (fun _ _ => ⟨rfl, e11, (by decide : 1 + 0 ≤ _), (by decide : 2 + 0 ≤ _)⟩)
  dsimp only [Pt.U, Pt.locs, Pt.cells, Pt.slots] at X13 l13 y13 z13 st13 hQ13
  obtain ⟨rfl, N13q, e13⟩ := hQ13
  obtain ⟨lc13, X13, N13⟩ := own_pack X13 l13 y13 z13 N11 N13q (C := 1) (S' := 2) rfl rfl
  refine own_thr (a := T13.setTop (mkF m 46 #[.val .null, .val (.ref b1), .val (.int 2), .val (.int 2), .val (.ref oq)] [(.ref em)])) (fun t kt => st13 t kt) ?_
  exact own_end X13 hlk (v := some (.ref em)) (fun h => by rw [Bd.returns] at h; cases h) (fun fs hr => retA X13 hx Bd.returns rfl rfl (hb hby d7_46) hr) (by rw [e13]; exact ⟨rfl, N13, ((Keep.refl h0 []).trans K1 all0)⟩) (by decide : 1 ≤ _) (by decide : 2 ≤ _)
def Q0 (Z : State) (p0 : Int32) (p1 : Int32) (p2 : Int32) (p3 : Int32) (va : Addr) (kv : ClassId) (ou : Addr) (oq : Addr) (em : Addr) (flu : Addr) (fvu : Addr) (kfu : ClassId) (flq : Addr) (fvq : Addr) (kfq : ClassId) (cs : Int32) (h0 : Heap) (n0 : Nat) (v : Option Value) (h : Heap) (L : List Loc) : Prop := v = some (.int 1) ∧ Fr n0 L
theorem pd__28Ljava_2flang_2fString_3b_29Ljava_2futil_2fOptional_3b : parseMethodDescriptor "(Ljava/lang/String;)Ljava/util/Optional;" = some ⟨[(.object "java/lang/String")], some (.object "java/util/Optional")⟩ := by decide +kernel
theorem pd__28_29Z : parseMethodDescriptor "()Z" = some ⟨[], some .boolean⟩ := by decide +kernel
theorem pd__28_29Ljava_2flang_2fObject_3b : parseMethodDescriptor "()Ljava/lang/Object;" = some ⟨[], some (.object "java/lang/Object")⟩ := by decide +kernel
set_option maxRecDepth 65536 in
set_option maxHeartbeats 40000000 in
theorem own_tailU {p : Program} {l : Launch} {e : Env} {s : State} {m : MethodId} {below : List Frame} {meth : Method} {c : Code} {Z : State} {a0 : Array Value} (p0 : Int32) (p1 : Int32) (p2 : Int32) (p3 : Int32) (va : Addr) (kv : ClassId) (ou : Addr) (oq : Addr) (em : Addr) (flu : Addr) (fvu : Addr) (kfu : ClassId) (flq : Addr) (fvq : Addr) (kfq : ClassId) (cs : Int32) {h0 : Heap} {n0 : Nat} (hw : ∀ d ∈ tables_1, d.before a0 Z = true) (hx : p.tables.exec = Jvm.exec) (hby : c.code = code) (hml : c.maxLocals = 11) (hlk : meth.locks = false) (hret : meth.sig.returnType = ret) (hh : s.heap = h0) (hEL : EW Z a0 own_EL) {vm1 : Vm} {H1 : Heap} {k1 : Nat} (hZ : Z.Warmed39 (s.setVm vm1).vm) (hown : (s.setVm vm1).vm.findClass "com/example/durable_dispatch/durabledispatch/cli/OptionByFlagPinLaw" = some m.cls) (hS0 : s.Since vm1 k1) (hk0 : k1 ≤ H1.size) (CH0 : CHr Z own_EL s.vm h0 vm1 H1) (Z1 : n0 ≤ H1.size) (Zh : h0.size ≤ H1.size)
    (q4 q5 q6 q7 : Int32) (o8 : Addr) (sv : Addr) (ks : ClassId) (l9 l10 : Slot) (hl9 : l9 = .unset ∨ ∃ w : Value, l9 = .val w ∧ w.category = 1) (hl10 : l10 = .unset ∨ ∃ w : Value, l10 = .val w ∧ w.category = 1) (S_V : Sta Z Z.heap "com/example/durable_dispatch/durabledispatch/cli/Option" "$VALUES" "[Lcom/example/durable_dispatch/durabledispatch/cli/Option;" (.ref va)) (V_va : Arv Z Z.heap va kv (.object "com/example/durable_dispatch/durabledispatch/cli/Option") (2 : Int32) [(.ref ou), (.ref oq)] .null) (E_va : Exa Z Z.heap va "[Lcom/example/durable_dispatch/durabledispatch/cli/Option;") (hfit : Fit Z) (S_em : Sta Z Z.heap "java/util/Optional" "EMPTY" "Ljava/util/Optional;" (.ref em)) (S_cs : Sta Z Z.heap "java/lang/String" "COMPACT_STRINGS" "Z" (.int cs)) (hcs : ¬ cs = (0 : Int32)) (hO : Old Z n0 H1) (F_flu : Fld Z H1 ou "com/example/durable_dispatch/durabledispatch/cli/Option" "flag" "Ljava/lang/String;" (.ref flu)) (E_flu : Exa Z H1 flu "java/lang/String") (F_fvu : Fld Z H1 flu "java/lang/String" "value" "[B" (.ref fvu)) (F_fluc : Fld Z H1 flu "java/lang/String" "coder" "B" (.int 0)) (V_fvu : Arv Z H1 fvu kfu .byte (5 : Int32) [(.int 45), (.int 45), (.int 117), (.int 114), (.int 108)] (.int 0)) (F_flq : Fld Z H1 oq "com/example/durable_dispatch/durabledispatch/cli/Option" "flag" "Ljava/lang/String;" (.ref flq)) (E_flq : Exa Z H1 flq "java/lang/String") (F_fvq : Fld Z H1 flq "java/lang/String" "value" "[B" (.ref fvq)) (F_flqc : Fld Z H1 flq "java/lang/String" "coder" "B" (.int 0)) (V_fvq : Arv Z H1 fvq kfq .byte (7 : Int32) [(.int 45), (.int 45), (.int 113), (.int 117), (.int 101), (.int 117), (.int 101)] (.int 0)) (S_ou : Sta Z Z.heap "com/example/durable_dispatch/durabledispatch/cli/Option" "URL" "Lcom/example/durable_dispatch/durabledispatch/cli/Option;" (.ref ou)) (S_oq : Sta Z Z.heap "com/example/durable_dispatch/durabledispatch/cli/Option" "QUEUE" "Lcom/example/durable_dispatch/durabledispatch/cli/Option;" (.ref oq)) (E_em : Exa Z H1 em "java/util/Optional") (F_em : Fld Z H1 em "java/util/Optional" "value" "Ljava/lang/Object;" .null) (E_o8 : Exa Z H1 o8 "java/lang/String") (F_sv : Fld Z H1 o8 "java/lang/String" "value" "[B" (.ref sv)) (F_o8c : Fld Z H1 o8 "java/lang/String" "coder" "B" (.int 0)) (V_sv : Arv Z H1 sv ks .byte (5 : Int32) [(.int 45), (.int 45), (.int 117), (.int 114), (.int 108)] (.int 0)) {C1 S1 : Nat} (hC1 : C1 + 8 ≤ 24) (hS1 : S1 + 100 ≤ 3200) {T0 : State} {lc0 : List Loc} (X0 : Stand p l e room_1 (s.setVm vm1) m #[(.int p0), (.int p1), (.int p2), (.int p3)] below meth c T0 lc0 C1 S1) (N0 : Fr n0 lc0) (e0 : T0.heap = H1) : own_GH p.tables e below s Z own_EL (Q0 Z p0 p1 p2 p3 va kv ou oq em flu fvu kfu flq fvq kfq cs h0 n0) room_1.cells room_1.slots (T0.setTop (mkF m 510 #[.val (.int p0), .val (.int p1), .val (.int p2), .val (.int p3), .val (.int q4), .val (.int q5), .val (.int q6), .val (.int q7), .val (.ref o8), l9, l10] [])) := by
  refine own_thrH (a := T0.setTop (mkF m 512 #[.val (.int p0), .val (.int p1), .val (.int p2), .val (.int p3), .val (.int q4), .val (.int q5), .val (.int q6), .val (.int q7), .val (.ref o8), l9, l10] [(.ref o8)])) (fun t kt => ?_) ?_
  · refine XS.aload X0.here hx rfl (hb hby at_510) rfl rfl ?_
    exact kt
  obtain ⟨_, _, ⟨T1, L1, k1, n1⟩, -, X1, ⟨Lc1, hQ1, l1, y1, z1⟩, st1⟩ := Jvm.LawKit.callS X0 hx (y := (⟨"com/example/durable_dispatch/durabledispatch/cli/Option", "byFlag", "(Ljava/lang/String;)Ljava/util/Optional;"⟩ : MethodName)) hown (mvT hZ (hw _ (own_i 30 rfl))) (mvT hZ (hw _ (own_i 31 rfl))) (mvT hZ (hw _ (own_i 32 rfl))) (mvT hZ (hw _ (own_i 33 rfl))) (by decide) (backOf (W := 0) (rmBFU l Z a0 hw [] o8 va kv ou oq em flu fvu kfu flq fvq kfq cs sv ks H1 n0 Z1 S_V V_va E_va hfit S_em S_cs hcs hO F_flu E_flu F_fvu F_fluc V_fvu F_flq E_flq F_fvq F_flqc V_fvq E_o8 F_sv F_o8c V_sv) hZ (hw _ (own_i 33 rfl)) (hw _ (own_i 32 rfl)) (by decide) (by decide)) (g := (mkF m 512 #[.val (.int p0), .val (.int p1), .val (.int p2), .val (.int p3), .val (.int q4), .val (.int q5), .val (.int q6), .val (.int q7), .val (.ref o8), l9, l10] [(.ref o8)])) rfl (by rw [hml]; rfl) (argsL := [(.ref o8)]) (rest := []) (lenOf pd__28Ljava_2flang_2fString_3b_29Ljava_2futil_2fOptional_3b rfl) rfl (by show 2 * 0 + _ ≤ _; exact Nat.le_of_eq rfl) (hb hby at_512) (fun _ _ => ⟨rfl, e0, (show C1 + 0 + 2 ≤ 24 from by omega), (show S1 + 0 + 3 ≤ 3200 from by omega)⟩)
  dsimp only [Pt.U, Pt.locs, Pt.cells, Pt.slots] at X1 l1 y1 z1 st1 hQ1
  obtain ⟨r1, rfl, N1q, K1, o1_e, o1_v⟩ := hQ1
  have CH2 := CH0.trans (CHr.keep K1 all0 CH0.1)
  have Z3 : n0 ≤ T1.heap.size := Nat.le_trans Z1 K1.1
  have Z3h : h0.size ≤ T1.heap.size := Nat.le_trans Zh K1.1
  have Z3k := Nat.le_trans hk0 K1.1
  obtain ⟨lc1, X1, N1⟩ := own_pack X1 l1 y1 z1 N0 N1q (C := C1 + 2) (S' := S1 + 3) rfl rfl
  refine own_thrH (a := T1.setTop (mkF m 515 #[.val (.int p0), .val (.int p1), .val (.int p2), .val (.int p3), .val (.int q4), .val (.int q5), .val (.int q6), .val (.int q7), .val (.ref o8), l9, l10] [(.ref r1)])) (fun t kt => st1 t kt) ?_
  refine own_thrH (a := T1.setTop (mkF m 534 #[.val (.int p0), .val (.int p1), .val (.int p2), .val (.int p3), .val (.int q4), .val (.int q5), .val (.int q6), .val (.int q7), .val (.ref o8), .val (.ref r1), .val .null] [(.ref o8)])) (fun t kt => ?_) ?_
  · refine XS.astore X1.here hx rfl (hb hby at_515) rfl rfl (l' := #[.val (.int p0), .val (.int p1), .val (.int p2), .val (.int p3), .val (.int q4), .val (.int q5), .val (.int q6), .val (.int q7), .val (.ref o8), .val (.ref r1), l10]) (by rcases hl9 with hq_ | ⟨wq_, hq_, hw_⟩ <;> rw [hq_] <;> first | rfl | (cases wq_ <;> first | rfl | (simp [Value.category] at hw_))) ?_
    refine XS.aload X1.here hx rfl (hb hby at_517) rfl rfl ?_
    refine XS.ifnonnullYes X1.here hx rfl (pc0 := 519) (pc' := 524) rfl (hb hby at_519) rfl (by decide) (by decide) ?_
    refine XS.aconstNull X1.here hx rfl (hb hby at_524) ?_
    refine XS.astore X1.here hx rfl (hb hby at_525) rfl rfl (l' := #[.val (.int p0), .val (.int p1), .val (.int p2), .val (.int p3), .val (.int q4), .val (.int q5), .val (.int q6), .val (.int q7), .val (.ref o8), .val (.ref r1), .val .null]) (by rcases hl10 with hq_ | ⟨wq_, hq_, hw_⟩ <;> rw [hq_] <;> first | rfl | (cases wq_ <;> first | rfl | (simp [Value.category] at hw_))) ?_
    refine XS.aload X1.here hx rfl (hb hby at_527) rfl rfl ?_
    refine XS.ifnullNo X1.here hx rfl (hb hby at_529) rfl ?_
    refine XS.aload X1.here hx rfl (hb hby at_532) rfl rfl ?_
    exact kt
  obtain ⟨b4, T4, h4, kk4, d4, kc4, X4, e4, E4, hS4, hk4, hZ4, hown4, oE4, oC4, oV4, oA4, -, -, ch4, -, sfq4, st4⟩ := ldcCH X1 hx hZ hown (hw _ (own_i 80 rfl)) (fun a ha => hw a (own_sa a ha)) rfl hS0 Z3k hEL (by decide) CH2.1 (vs := [(.int 45), (.int 45), (.int 117), (.int 114), (.int 108)]) (z := (5 : Int32)) ⟨by decide, rfl⟩ (by decide) rfl (g := (mkF m 534 #[.val (.int p0), .val (.int p1), .val (.int p2), .val (.int p3), .val (.int q4), .val (.int q5), .val (.int q6), .val (.int q7), .val (.ref o8), .val (.ref r1), .val .null] [(.ref o8)])) rfl (hb hby at_534) (n := 20) (by decide) (by decide) (show C1 + 2 + 2 ≤ 24 from by omega) (show S1 + 3 + 24 ≤ 3200 from by omega)
  have Z5 : n0 ≤ h4.size := Nat.le_trans Z3 E4.1
  have Z5h : h0.size ≤ h4.size := Nat.le_trans Z3h E4.1
  have CHl4 := CH2.trans ch4
  refine own_thrH (a := T4.setTop (mkF m 536 #[.val (.int p0), .val (.int p1), .val (.int p2), .val (.int p3), .val (.int q4), .val (.int q5), .val (.int q6), .val (.int q7), .val (.ref o8), .val (.ref r1), .val .null] [(.ref b4), (.ref o8)])) (fun t kt => st4 t kt) ?_
  have S6 := S_cs.ext ((hO.keep K1 all0).ext E4).2
  obtain ⟨cq7, kq7, q7a, q7b, q7c⟩ := isOf hZ4 e4 ((E_o8.keep K1).ext E4)
  obtain ⟨_, _, ⟨T7, L7, k7, n7⟩, -, X7, ⟨Lc7, hQ7, l7, y7, z7⟩, st7⟩ := X4.virtualBack hx (y := (⟨"java/lang/String", "equals", "(Ljava/lang/Object;)Z"⟩ : MethodName)) (z := (⟨"java/lang/String", "equals", "(Ljava/lang/Object;)Z"⟩ : MethodName)) hown4 (mvT hZ4 (hw _ (own_i 83 rfl))) (mvT hZ4 (hw _ (own_i 54 rfl))) (notFace_of_selects (args := #[]) (mvT hZ4 (hw _ (own_i 56 rfl)))) (mvT hZ4 (hw _ (own_i 56 rfl))) (mvT hZ4 (hw _ (own_i 55 rfl))) (by decide) (backOf (W := 0) (rmEQH5 l Z a0 hw [] o8 b4 sv d4 ks kc4 cs h4 n0 Z5 ((E_o8.keep K1).ext E4) ((F_sv.keep K1 nin0).ext E4) ((F_o8c.keep K1 nin0).ext E4) oE4 oV4 oC4 ((V_sv.keep K1 nin0).ext E4) oA4 S6 hcs) hZ4 (hw _ (own_i 57 rfl)) (hw _ (own_i 2 rfl)) (by decide) (by decide)) q7a q7c (g := (mkF m 536 #[.val (.int p0), .val (.int p1), .val (.int p2), .val (.int p3), .val (.int q4), .val (.int q5), .val (.int q6), .val (.int q7), .val (.ref o8), .val (.ref r1), .val .null] [(.ref b4), (.ref o8)])) rfl (by rw [hml]; rfl) (Steps.refl _) (argsL := [(.ref b4)]) (rest := []) (lenOf pd__28Ljava_2flang_2fObject_3b_29Z rfl) rfl (by show 2 * 0 + _ ≤ _; exact Nat.le_of_eq rfl) (hb hby at_536) (fun _ _ => ⟨rfl, e4, (show C1 + 4 + 0 ≤ 24 from by omega), (show S1 + 27 + 0 ≤ 3200 from by omega)⟩)
  dsimp only [Pt.U, Pt.locs, Pt.cells, Pt.slots] at X7 l7 y7 z7 st7 hQ7
  obtain ⟨rfl, N7q, e7⟩ := hQ7
  obtain ⟨lc7, X7, N7⟩ := own_pack X7 l7 y7 z7 N1 N7q (C := C1 + 4) (S' := S1 + 27) rfl rfl
  refine own_thrH (a := T7.setTop (mkF m 539 #[.val (.int p0), .val (.int p1), .val (.int p2), .val (.int p3), .val (.int q4), .val (.int q5), .val (.int q6), .val (.int q7), .val (.ref o8), .val (.ref r1), .val .null] [(.int 1)])) (fun t kt => st7.trans kt) ?_
  have S8 := S_ou.ext ((hO.keep K1 all0).ext E4).2
  refine own_thrH (a := T7.setTop (mkF m 542 #[.val (.int p0), .val (.int p1), .val (.int p2), .val (.int p3), .val (.int q4), .val (.int q5), .val (.int q6), .val (.int q7), .val (.ref o8), .val (.ref r1), .val .null] [])) (fun t kt => ?_) ?_
  · refine XS.ifNo X7.here hx rfl (hb hby at_539) rfl ((if0 _ _).trans (feq (by decide)).1) ?_
    exact kt
  obtain ⟨T9, X9, e9, st9⟩ := getS2 X7 hx hZ4 hown4 (host := "") (Or.inl (hw _ (own_i 84 rfl))) Via.refl e7 S8 (g := (mkF m 542 #[.val (.int p0), .val (.int p1), .val (.int p2), .val (.int p3), .val (.int q4), .val (.int q5), .val (.int q6), .val (.int q7), .val (.ref o8), .val (.ref r1), .val .null] [])) rfl (hb hby at_542)
  refine own_thrH (a := T9.setTop (mkF m 545 #[.val (.int p0), .val (.int p1), .val (.int p2), .val (.int p3), .val (.int q4), .val (.int q5), .val (.int q6), .val (.int q7), .val (.ref o8), .val (.ref r1), .val .null] [(.ref ou)])) (fun t kt => st9 t kt) ?_
  refine own_thrH (a := T9.setTop (mkF m 586 #[.val (.int p0), .val (.int p1), .val (.int p2), .val (.int p3), .val (.int q4), .val (.int q5), .val (.int q6), .val (.int q7), .val (.ref o8), .val (.ref r1), .val (.ref ou)] [(.ref r1)])) (fun t kt => ?_) ?_
  · refine XS.astore X9.here hx rfl (hb hby at_545) rfl rfl (l' := #[.val (.int p0), .val (.int p1), .val (.int p2), .val (.int p3), .val (.int q4), .val (.int q5), .val (.int q6), .val (.int q7), .val (.ref o8), .val (.ref r1), .val (.ref ou)]) rfl ?_
    refine XS.goto X9.here hx rfl (pc0 := 547) (pc' := 565) rfl (hb hby at_547) (by decide) (by decide) ?_
    refine XS.aload X9.here hx rfl (hb hby at_565) rfl rfl ?_
    refine XS.ifnonnullYes X9.here hx rfl (pc0 := 567) (pc' := 584) rfl (hb hby at_567) rfl (by decide) (by decide) ?_
    refine XS.aload X9.here hx rfl (hb hby at_584) rfl rfl ?_
    exact kt
  obtain ⟨cq10, kq10, q10a, q10b, q10c⟩ := isOf hZ4 e9 (o1_e.ext E4)
  obtain ⟨_, _, ⟨T10, L10, k10, n10⟩, -, X10, ⟨Lc10, hQ10, l10, y10, z10⟩, st10⟩ := X9.virtualBack hx (y := (⟨"java/util/Optional", "isPresent", "()Z"⟩ : MethodName)) (z := (⟨"java/util/Optional", "isPresent", "()Z"⟩ : MethodName)) hown4 (mvT hZ4 (hw _ (own_i 85 rfl))) (mvT hZ4 (hw _ (own_i 86 rfl))) (notFace_of_selects (args := #[]) (mvT hZ4 (hw _ (own_i 88 rfl)))) (mvT hZ4 (hw _ (own_i 88 rfl))) (mvT hZ4 (hw _ (own_i 87 rfl))) (by decide) (backOf (W := 0) (rmP1 l Z a0 hw [] r1 ou h4 n0 Z5 (o1_v.ext E4)) hZ4 (hw _ (own_i 89 rfl)) (hw _ (own_i 65 rfl)) (by decide) (by decide)) q10a q10c (g := (mkF m 586 #[.val (.int p0), .val (.int p1), .val (.int p2), .val (.int p3), .val (.int q4), .val (.int q5), .val (.int q6), .val (.int q7), .val (.ref o8), .val (.ref r1), .val (.ref ou)] [(.ref r1)])) rfl (by rw [hml]; rfl) (Steps.refl _) (argsL := []) (rest := []) (lenOf pd__28_29Z rfl) rfl (by show 2 * 0 + _ ≤ _; exact Nat.le_of_eq rfl) (hb hby at_586) (fun _ _ => ⟨rfl, e9, (show C1 + 4 + 0 ≤ 24 from by omega), (show S1 + 27 + 0 ≤ 3200 from by omega)⟩)
  dsimp only [Pt.U, Pt.locs, Pt.cells, Pt.slots] at X10 l10 y10 z10 st10 hQ10
  obtain ⟨rfl, N10q, e10⟩ := hQ10
  obtain ⟨lc10, X10, N10⟩ := own_pack X10 l10 y10 z10 N7 N10q (C := C1 + 4) (S' := S1 + 27) rfl rfl
  refine own_thrH (a := T10.setTop (mkF m 589 #[.val (.int p0), .val (.int p1), .val (.int p2), .val (.int p3), .val (.int q4), .val (.int q5), .val (.int q6), .val (.int q7), .val (.ref o8), .val (.ref r1), .val (.ref ou)] [(.int 1)])) (fun t kt => st10.trans kt) ?_
  refine own_thrH (a := T10.setTop (mkF m 594 #[.val (.int p0), .val (.int p1), .val (.int p2), .val (.int p3), .val (.int q4), .val (.int q5), .val (.int q6), .val (.int q7), .val (.ref o8), .val (.ref r1), .val (.ref ou)] [(.ref r1)])) (fun t kt => ?_) ?_
  · refine XS.ifNo X10.here hx rfl (hb hby at_589) rfl ((if0 _ _).trans (feq (by decide)).1) ?_
    refine XS.aload X10.here hx rfl (hb hby at_592) rfl rfl ?_
    exact kt
  obtain ⟨cq11, kq11, q11a, q11b, q11c⟩ := isOf hZ4 e10 (o1_e.ext E4)
  obtain ⟨_, _, ⟨T11, L11, k11, n11⟩, -, X11, ⟨Lc11, hQ11, l11, y11, z11⟩, st11⟩ := X10.virtualBack hx (y := (⟨"java/util/Optional", "get", "()Ljava/lang/Object;"⟩ : MethodName)) (z := (⟨"java/util/Optional", "get", "()Ljava/lang/Object;"⟩ : MethodName)) hown4 (mvT hZ4 (hw _ (own_i 90 rfl))) (mvT hZ4 (hw _ (own_i 91 rfl))) (notFace_of_selects (args := #[]) (mvT hZ4 (hw _ (own_i 93 rfl)))) (mvT hZ4 (hw _ (own_i 93 rfl))) (mvT hZ4 (hw _ (own_i 92 rfl))) (by decide) (backOf (W := 0) (rmGT l Z a0 hw [] r1 ou h4 n0 Z5 (o1_v.ext E4)) hZ4 (hw _ (own_i 94 rfl)) (hw _ (own_i 65 rfl)) (by decide) (by decide)) q11a q11c (g := (mkF m 594 #[.val (.int p0), .val (.int p1), .val (.int p2), .val (.int p3), .val (.int q4), .val (.int q5), .val (.int q6), .val (.int q7), .val (.ref o8), .val (.ref r1), .val (.ref ou)] [(.ref r1)])) rfl (by rw [hml]; rfl) (Steps.refl _) (argsL := []) (rest := []) (lenOf pd__28_29Ljava_2flang_2fObject_3b rfl) rfl (by show 2 * 0 + _ ≤ _; exact Nat.le_of_eq rfl) (hb hby at_594) (fun _ _ => ⟨rfl, e10, (show C1 + 4 + 0 ≤ 24 from by omega), (show S1 + 27 + 0 ≤ 3200 from by omega)⟩)
  dsimp only [Pt.U, Pt.locs, Pt.cells, Pt.slots] at X11 l11 y11 z11 st11 hQ11
  obtain ⟨rfl, N11q, e11⟩ := hQ11
  obtain ⟨lc11, X11, N11⟩ := own_pack X11 l11 y11 z11 N10 N11q (C := C1 + 4) (S' := S1 + 27) rfl rfl
  refine own_thrH (a := T11.setTop (mkF m 597 #[.val (.int p0), .val (.int p1), .val (.int p2), .val (.int p3), .val (.int q4), .val (.int q5), .val (.int q6), .val (.int q7), .val (.ref o8), .val (.ref r1), .val (.ref ou)] [(.ref ou)])) (fun t kt => st11.trans kt) ?_
  refine own_thrH (a := T11.setTop (mkF m 599 #[.val (.int p0), .val (.int p1), .val (.int p2), .val (.int p3), .val (.int q4), .val (.int q5), .val (.int q6), .val (.int q7), .val (.ref o8), .val (.ref r1), .val (.ref ou)] [(.ref ou), (.ref ou)])) (fun t kt => ?_) ?_
  · refine XS.aload X11.here hx rfl (hb hby at_597) rfl rfl ?_
    exact kt
  refine own_thrH (a := T11.setTop (mkF m 607 #[.val (.int p0), .val (.int p1), .val (.int p2), .val (.int p3), .val (.int q4), .val (.int q5), .val (.int q6), .val (.int q7), .val (.ref o8), .val (.ref r1), .val (.ref ou)] [(.int 1)])) (fun t kt => ?_) ?_
  · refine Jvm.RoadKit.acmp (g := (mkF m 599 #[.val (.int p0), .val (.int p1), .val (.int p2), .val (.int p3), .val (.int q4), .val (.int q5), .val (.int q6), .val (.int q7), .val (.ref o8), .val (.ref r1), .val (.ref ou)] [(.ref ou), (.ref ou)])) X11 hx rfl rfl rfl (pc0 := 599) (pc' := 602) (same := true) rfl (hb hby at_599) rfl (decide_eq_true rfl) (by decide) (by decide) ?_
    refine XS.iconst X11.here hx rfl (hb hby at_602) ?_
    refine XS.goto X11.here hx rfl (pc0 := 603) (pc' := 607) rfl (hb hby at_603) (by decide) (by decide) ?_
    exact kt
  exact own_endH X11 hS4 (by rw [e11]; exact hk4) hZ4 hEL CHl4 hh e11 hlk (v := some (.int 1)) (fun h => by rw [hret] at h; cases h) (fun fs hr => retN X11 hx (t := .boolean) hret (by simp) (hb hby at_607) hr) ⟨rfl, N11⟩ (show C1 + 4 ≤ 24 from by omega) (show S1 + 27 ≤ 3200 from by omega)
set_option maxRecDepth 65536 in
set_option maxHeartbeats 40000000 in
theorem own_tailQ {p : Program} {l : Launch} {e : Env} {s : State} {m : MethodId} {below : List Frame} {meth : Method} {c : Code} {Z : State} {a0 : Array Value} (p0 : Int32) (p1 : Int32) (p2 : Int32) (p3 : Int32) (va : Addr) (kv : ClassId) (ou : Addr) (oq : Addr) (em : Addr) (flu : Addr) (fvu : Addr) (kfu : ClassId) (flq : Addr) (fvq : Addr) (kfq : ClassId) (cs : Int32) {h0 : Heap} {n0 : Nat} (hw : ∀ d ∈ tables_1, d.before a0 Z = true) (hx : p.tables.exec = Jvm.exec) (hby : c.code = code) (hml : c.maxLocals = 11) (hlk : meth.locks = false) (hret : meth.sig.returnType = ret) (hh : s.heap = h0) (hEL : EW Z a0 own_EL) {vm1 : Vm} {H1 : Heap} {k1 : Nat} (hZ : Z.Warmed39 (s.setVm vm1).vm) (hown : (s.setVm vm1).vm.findClass "com/example/durable_dispatch/durabledispatch/cli/OptionByFlagPinLaw" = some m.cls) (hS0 : s.Since vm1 k1) (hk0 : k1 ≤ H1.size) (CH0 : CHr Z own_EL s.vm h0 vm1 H1) (Z1 : n0 ≤ H1.size) (Zh : h0.size ≤ H1.size)
    (q4 q5 q6 q7 : Int32) (o8 : Addr) (sv : Addr) (ks : ClassId) (l9 l10 : Slot) (hl9 : l9 = .unset ∨ ∃ w : Value, l9 = .val w ∧ w.category = 1) (hl10 : l10 = .unset ∨ ∃ w : Value, l10 = .val w ∧ w.category = 1) (S_V : Sta Z Z.heap "com/example/durable_dispatch/durabledispatch/cli/Option" "$VALUES" "[Lcom/example/durable_dispatch/durabledispatch/cli/Option;" (.ref va)) (V_va : Arv Z Z.heap va kv (.object "com/example/durable_dispatch/durabledispatch/cli/Option") (2 : Int32) [(.ref ou), (.ref oq)] .null) (E_va : Exa Z Z.heap va "[Lcom/example/durable_dispatch/durabledispatch/cli/Option;") (hfit : Fit Z) (S_em : Sta Z Z.heap "java/util/Optional" "EMPTY" "Ljava/util/Optional;" (.ref em)) (S_cs : Sta Z Z.heap "java/lang/String" "COMPACT_STRINGS" "Z" (.int cs)) (hcs : ¬ cs = (0 : Int32)) (hO : Old Z n0 H1) (F_flu : Fld Z H1 ou "com/example/durable_dispatch/durabledispatch/cli/Option" "flag" "Ljava/lang/String;" (.ref flu)) (E_flu : Exa Z H1 flu "java/lang/String") (F_fvu : Fld Z H1 flu "java/lang/String" "value" "[B" (.ref fvu)) (F_fluc : Fld Z H1 flu "java/lang/String" "coder" "B" (.int 0)) (V_fvu : Arv Z H1 fvu kfu .byte (5 : Int32) [(.int 45), (.int 45), (.int 117), (.int 114), (.int 108)] (.int 0)) (F_flq : Fld Z H1 oq "com/example/durable_dispatch/durabledispatch/cli/Option" "flag" "Ljava/lang/String;" (.ref flq)) (E_flq : Exa Z H1 flq "java/lang/String") (F_fvq : Fld Z H1 flq "java/lang/String" "value" "[B" (.ref fvq)) (F_flqc : Fld Z H1 flq "java/lang/String" "coder" "B" (.int 0)) (V_fvq : Arv Z H1 fvq kfq .byte (7 : Int32) [(.int 45), (.int 45), (.int 113), (.int 117), (.int 101), (.int 117), (.int 101)] (.int 0)) (S_ou : Sta Z Z.heap "com/example/durable_dispatch/durabledispatch/cli/Option" "URL" "Lcom/example/durable_dispatch/durabledispatch/cli/Option;" (.ref ou)) (S_oq : Sta Z Z.heap "com/example/durable_dispatch/durabledispatch/cli/Option" "QUEUE" "Lcom/example/durable_dispatch/durabledispatch/cli/Option;" (.ref oq)) (E_em : Exa Z H1 em "java/util/Optional") (F_em : Fld Z H1 em "java/util/Optional" "value" "Ljava/lang/Object;" .null) (E_o8 : Exa Z H1 o8 "java/lang/String") (F_sv : Fld Z H1 o8 "java/lang/String" "value" "[B" (.ref sv)) (F_o8c : Fld Z H1 o8 "java/lang/String" "coder" "B" (.int 0)) (V_sv : Arv Z H1 sv ks .byte (7 : Int32) [(.int 45), (.int 45), (.int 113), (.int 117), (.int 101), (.int 117), (.int 101)] (.int 0)) {C1 S1 : Nat} (hC1 : C1 + 8 ≤ 24) (hS1 : S1 + 100 ≤ 3200) {T0 : State} {lc0 : List Loc} (X0 : Stand p l e room_1 (s.setVm vm1) m #[(.int p0), (.int p1), (.int p2), (.int p3)] below meth c T0 lc0 C1 S1) (N0 : Fr n0 lc0) (e0 : T0.heap = H1) : own_GH p.tables e below s Z own_EL (Q0 Z p0 p1 p2 p3 va kv ou oq em flu fvu kfu flq fvq kfq cs h0 n0) room_1.cells room_1.slots (T0.setTop (mkF m 510 #[.val (.int p0), .val (.int p1), .val (.int p2), .val (.int p3), .val (.int q4), .val (.int q5), .val (.int q6), .val (.int q7), .val (.ref o8), l9, l10] [])) := by
  refine own_thrH (a := T0.setTop (mkF m 512 #[.val (.int p0), .val (.int p1), .val (.int p2), .val (.int p3), .val (.int q4), .val (.int q5), .val (.int q6), .val (.int q7), .val (.ref o8), l9, l10] [(.ref o8)])) (fun t kt => ?_) ?_
  · refine XS.aload X0.here hx rfl (hb hby at_510) rfl rfl ?_
    exact kt
  obtain ⟨_, _, ⟨T1, L1, k1, n1⟩, -, X1, ⟨Lc1, hQ1, l1, y1, z1⟩, st1⟩ := Jvm.LawKit.callS X0 hx (y := (⟨"com/example/durable_dispatch/durabledispatch/cli/Option", "byFlag", "(Ljava/lang/String;)Ljava/util/Optional;"⟩ : MethodName)) hown (mvT hZ (hw _ (own_i 30 rfl))) (mvT hZ (hw _ (own_i 31 rfl))) (mvT hZ (hw _ (own_i 32 rfl))) (mvT hZ (hw _ (own_i 33 rfl))) (by decide) (backOf (W := 0) (rmBFQ l Z a0 hw [] o8 va kv ou oq em flu fvu kfu flq fvq kfq cs sv ks H1 n0 Z1 S_V V_va E_va hfit S_em S_cs hcs hO F_flu E_flu F_fvu F_fluc V_fvu F_flq E_flq F_fvq F_flqc V_fvq E_o8 F_sv F_o8c V_sv) hZ (hw _ (own_i 33 rfl)) (hw _ (own_i 32 rfl)) (by decide) (by decide)) (g := (mkF m 512 #[.val (.int p0), .val (.int p1), .val (.int p2), .val (.int p3), .val (.int q4), .val (.int q5), .val (.int q6), .val (.int q7), .val (.ref o8), l9, l10] [(.ref o8)])) rfl (by rw [hml]; rfl) (argsL := [(.ref o8)]) (rest := []) (lenOf pd__28Ljava_2flang_2fString_3b_29Ljava_2futil_2fOptional_3b rfl) rfl (by show 2 * 0 + _ ≤ _; exact Nat.le_of_eq rfl) (hb hby at_512) (fun _ _ => ⟨rfl, e0, (show C1 + 0 + 2 ≤ 24 from by omega), (show S1 + 0 + 3 ≤ 3200 from by omega)⟩)
  dsimp only [Pt.U, Pt.locs, Pt.cells, Pt.slots] at X1 l1 y1 z1 st1 hQ1
  obtain ⟨r1, rfl, N1q, K1, o1_e, o1_v⟩ := hQ1
  have CH2 := CH0.trans (CHr.keep K1 all0 CH0.1)
  have Z3 : n0 ≤ T1.heap.size := Nat.le_trans Z1 K1.1
  have Z3h : h0.size ≤ T1.heap.size := Nat.le_trans Zh K1.1
  have Z3k := Nat.le_trans hk0 K1.1
  obtain ⟨lc1, X1, N1⟩ := own_pack X1 l1 y1 z1 N0 N1q (C := C1 + 2) (S' := S1 + 3) rfl rfl
  refine own_thrH (a := T1.setTop (mkF m 515 #[.val (.int p0), .val (.int p1), .val (.int p2), .val (.int p3), .val (.int q4), .val (.int q5), .val (.int q6), .val (.int q7), .val (.ref o8), l9, l10] [(.ref r1)])) (fun t kt => st1 t kt) ?_
  refine own_thrH (a := T1.setTop (mkF m 534 #[.val (.int p0), .val (.int p1), .val (.int p2), .val (.int p3), .val (.int q4), .val (.int q5), .val (.int q6), .val (.int q7), .val (.ref o8), .val (.ref r1), .val .null] [(.ref o8)])) (fun t kt => ?_) ?_
  · refine XS.astore X1.here hx rfl (hb hby at_515) rfl rfl (l' := #[.val (.int p0), .val (.int p1), .val (.int p2), .val (.int p3), .val (.int q4), .val (.int q5), .val (.int q6), .val (.int q7), .val (.ref o8), .val (.ref r1), l10]) (by rcases hl9 with hq_ | ⟨wq_, hq_, hw_⟩ <;> rw [hq_] <;> first | rfl | (cases wq_ <;> first | rfl | (simp [Value.category] at hw_))) ?_
    refine XS.aload X1.here hx rfl (hb hby at_517) rfl rfl ?_
    refine XS.ifnonnullYes X1.here hx rfl (pc0 := 519) (pc' := 524) rfl (hb hby at_519) rfl (by decide) (by decide) ?_
    refine XS.aconstNull X1.here hx rfl (hb hby at_524) ?_
    refine XS.astore X1.here hx rfl (hb hby at_525) rfl rfl (l' := #[.val (.int p0), .val (.int p1), .val (.int p2), .val (.int p3), .val (.int q4), .val (.int q5), .val (.int q6), .val (.int q7), .val (.ref o8), .val (.ref r1), .val .null]) (by rcases hl10 with hq_ | ⟨wq_, hq_, hw_⟩ <;> rw [hq_] <;> first | rfl | (cases wq_ <;> first | rfl | (simp [Value.category] at hw_))) ?_
    refine XS.aload X1.here hx rfl (hb hby at_527) rfl rfl ?_
    refine XS.ifnullNo X1.here hx rfl (hb hby at_529) rfl ?_
    refine XS.aload X1.here hx rfl (hb hby at_532) rfl rfl ?_
    exact kt
  obtain ⟨b4, T4, h4, kk4, d4, kc4, X4, e4, E4, hS4, hk4, hZ4, hown4, oE4, oC4, oV4, oA4, -, -, ch4, -, sfq4, st4⟩ := ldcCH X1 hx hZ hown (hw _ (own_i 80 rfl)) (fun a ha => hw a (own_sa a ha)) rfl hS0 Z3k hEL (by decide) CH2.1 (vs := [(.int 45), (.int 45), (.int 117), (.int 114), (.int 108)]) (z := (5 : Int32)) ⟨by decide, rfl⟩ (by decide) rfl (g := (mkF m 534 #[.val (.int p0), .val (.int p1), .val (.int p2), .val (.int p3), .val (.int q4), .val (.int q5), .val (.int q6), .val (.int q7), .val (.ref o8), .val (.ref r1), .val .null] [(.ref o8)])) rfl (hb hby at_534) (n := 20) (by decide) (by decide) (show C1 + 2 + 2 ≤ 24 from by omega) (show S1 + 3 + 24 ≤ 3200 from by omega)
  have Z5 : n0 ≤ h4.size := Nat.le_trans Z3 E4.1
  have Z5h : h0.size ≤ h4.size := Nat.le_trans Z3h E4.1
  have CHl4 := CH2.trans ch4
  refine own_thrH (a := T4.setTop (mkF m 536 #[.val (.int p0), .val (.int p1), .val (.int p2), .val (.int p3), .val (.int q4), .val (.int q5), .val (.int q6), .val (.int q7), .val (.ref o8), .val (.ref r1), .val .null] [(.ref b4), (.ref o8)])) (fun t kt => st4 t kt) ?_
  have S6 := S_cs.ext ((hO.keep K1 all0).ext E4).2
  obtain ⟨cq7, kq7, q7a, q7b, q7c⟩ := isOf hZ4 e4 ((E_o8.keep K1).ext E4)
  obtain ⟨_, _, ⟨T7, L7, k7, n7⟩, -, X7, ⟨Lc7, hQ7, l7, y7, z7⟩, st7⟩ := X4.virtualBack hx (y := (⟨"java/lang/String", "equals", "(Ljava/lang/Object;)Z"⟩ : MethodName)) (z := (⟨"java/lang/String", "equals", "(Ljava/lang/Object;)Z"⟩ : MethodName)) hown4 (mvT hZ4 (hw _ (own_i 83 rfl))) (mvT hZ4 (hw _ (own_i 54 rfl))) (notFace_of_selects (args := #[]) (mvT hZ4 (hw _ (own_i 56 rfl)))) (mvT hZ4 (hw _ (own_i 56 rfl))) (mvT hZ4 (hw _ (own_i 55 rfl))) (by decide) (backOf (W := 0) (rmEQD l Z a0 hw [] o8 b4 sv d4 (7 : Int32) (5 : Int32) [(.int 45), (.int 45), (.int 113), (.int 117), (.int 101), (.int 117), (.int 101)] [(.int 45), (.int 45), (.int 117), (.int 114), (.int 108)] ks kc4 cs h4 n0 Z5 ((E_o8.keep K1).ext E4) ((F_sv.keep K1 nin0).ext E4) ((F_o8c.keep K1 nin0).ext E4) oE4 oV4 oC4 ((V_sv.keep K1 nin0).ext E4) oA4 S6 hcs (own_sd ((F_sv.keep K1 nin0).ext E4) oV4 ((V_sv.keep K1 nin0).ext E4) oA4 (by decide)) (by decide)) hZ4 (hw _ (own_i 57 rfl)) (hw _ (own_i 2 rfl)) (by decide) (by decide)) q7a q7c (g := (mkF m 536 #[.val (.int p0), .val (.int p1), .val (.int p2), .val (.int p3), .val (.int q4), .val (.int q5), .val (.int q6), .val (.int q7), .val (.ref o8), .val (.ref r1), .val .null] [(.ref b4), (.ref o8)])) rfl (by rw [hml]; rfl) (Steps.refl _) (argsL := [(.ref b4)]) (rest := []) (lenOf pd__28Ljava_2flang_2fObject_3b_29Z rfl) rfl (by show 2 * 0 + _ ≤ _; exact Nat.le_of_eq rfl) (hb hby at_536) (fun _ _ => ⟨rfl, e4, (show C1 + 4 + 0 ≤ 24 from by omega), (show S1 + 27 + 0 ≤ 3200 from by omega)⟩)
  dsimp only [Pt.U, Pt.locs, Pt.cells, Pt.slots] at X7 l7 y7 z7 st7 hQ7
  obtain ⟨rfl, N7q, e7⟩ := hQ7
  obtain ⟨lc7, X7, N7⟩ := own_pack X7 l7 y7 z7 N1 N7q (C := C1 + 4) (S' := S1 + 27) rfl rfl
  refine own_thrH (a := T7.setTop (mkF m 539 #[.val (.int p0), .val (.int p1), .val (.int p2), .val (.int p3), .val (.int q4), .val (.int q5), .val (.int q6), .val (.int q7), .val (.ref o8), .val (.ref r1), .val .null] [(.int 0)])) (fun t kt => st7.trans kt) ?_
  refine own_thrH (a := T7.setTop (mkF m 552 #[.val (.int p0), .val (.int p1), .val (.int p2), .val (.int p3), .val (.int q4), .val (.int q5), .val (.int q6), .val (.int q7), .val (.ref o8), .val (.ref r1), .val .null] [(.ref o8)])) (fun t kt => ?_) ?_
  · refine XS.ifYes X7.here hx rfl (pc0 := 539) (pc' := 550) rfl (hb hby at_539) rfl ((if0 _ _).trans (teq rfl).1) (by decide) (by decide) ?_
    refine XS.aload X7.here hx rfl (hb hby at_550) rfl rfl ?_
    exact kt
  obtain ⟨b8, T8, h8, kk8, d8, kc8, X8, e8, E8, hS8, hk8, hZ8, hown8, oE8, oC8, oV8, oA8, -, -, ch8, -, sfq8, st8⟩ := ldcCH X7 hx hZ4 hown4 (hw _ (own_i 111 rfl)) (fun a ha => hw a (own_sa a ha)) e7 hS4 hk4 hEL (by decide) CHl4.1 (vs := [(.int 45), (.int 45), (.int 113), (.int 117), (.int 101), (.int 117), (.int 101)]) (z := (7 : Int32)) ⟨by decide, rfl⟩ (by decide) rfl (g := (mkF m 552 #[.val (.int p0), .val (.int p1), .val (.int p2), .val (.int p3), .val (.int q4), .val (.int q5), .val (.int q6), .val (.int q7), .val (.ref o8), .val (.ref r1), .val .null] [(.ref o8)])) rfl (hb hby at_552) (n := 28) (by decide) (by decide) (show C1 + 4 + 2 ≤ 24 from by omega) (show S1 + 27 + 32 ≤ 3200 from by omega)
  have Z9 : n0 ≤ h8.size := Nat.le_trans Z5 E8.1
  have Z9h : h0.size ≤ h8.size := Nat.le_trans Z5h E8.1
  have CHl8 := CHl4.trans ch8
  refine own_thrH (a := T8.setTop (mkF m 554 #[.val (.int p0), .val (.int p1), .val (.int p2), .val (.int p3), .val (.int q4), .val (.int q5), .val (.int q6), .val (.int q7), .val (.ref o8), .val (.ref r1), .val .null] [(.ref b8), (.ref o8)])) (fun t kt => st8 t kt) ?_
  have S10 := S_cs.ext (((hO.keep K1 all0).ext E4).ext E8).2
  obtain ⟨cq11, kq11, q11a, q11b, q11c⟩ := isOf hZ8 e8 (((E_o8.keep K1).ext E4).ext E8)
  obtain ⟨_, _, ⟨T11, L11, k11, n11⟩, -, X11, ⟨Lc11, hQ11, l11, y11, z11⟩, st11⟩ := X8.virtualBack hx (y := (⟨"java/lang/String", "equals", "(Ljava/lang/Object;)Z"⟩ : MethodName)) (z := (⟨"java/lang/String", "equals", "(Ljava/lang/Object;)Z"⟩ : MethodName)) hown8 (mvT hZ8 (hw _ (own_i 83 rfl))) (mvT hZ8 (hw _ (own_i 54 rfl))) (notFace_of_selects (args := #[]) (mvT hZ8 (hw _ (own_i 56 rfl)))) (mvT hZ8 (hw _ (own_i 56 rfl))) (mvT hZ8 (hw _ (own_i 55 rfl))) (by decide) (backOf (W := 0) (rmEQH7 l Z a0 hw [] o8 b8 sv d8 ks kc8 cs h8 n0 Z9 (((E_o8.keep K1).ext E4).ext E8) (((F_sv.keep K1 nin0).ext E4).ext E8) (((F_o8c.keep K1 nin0).ext E4).ext E8) oE8 oV8 oC8 (((V_sv.keep K1 nin0).ext E4).ext E8) oA8 S10 hcs) hZ8 (hw _ (own_i 57 rfl)) (hw _ (own_i 2 rfl)) (by decide) (by decide)) q11a q11c (g := (mkF m 554 #[.val (.int p0), .val (.int p1), .val (.int p2), .val (.int p3), .val (.int q4), .val (.int q5), .val (.int q6), .val (.int q7), .val (.ref o8), .val (.ref r1), .val .null] [(.ref b8), (.ref o8)])) rfl (by rw [hml]; rfl) (Steps.refl _) (argsL := [(.ref b8)]) (rest := []) (lenOf pd__28Ljava_2flang_2fObject_3b_29Z rfl) rfl (by show 2 * 0 + _ ≤ _; exact Nat.le_of_eq rfl) (hb hby at_554) (fun _ _ => ⟨rfl, e8, (show C1 + 6 + 0 ≤ 24 from by omega), (show S1 + 59 + 0 ≤ 3200 from by omega)⟩)
  dsimp only [Pt.U, Pt.locs, Pt.cells, Pt.slots] at X11 l11 y11 z11 st11 hQ11
  obtain ⟨rfl, N11q, e11⟩ := hQ11
  obtain ⟨lc11, X11, N11⟩ := own_pack X11 l11 y11 z11 N7 N11q (C := C1 + 6) (S' := S1 + 59) rfl rfl
  refine own_thrH (a := T11.setTop (mkF m 557 #[.val (.int p0), .val (.int p1), .val (.int p2), .val (.int p3), .val (.int q4), .val (.int q5), .val (.int q6), .val (.int q7), .val (.ref o8), .val (.ref r1), .val .null] [(.int 1)])) (fun t kt => st11.trans kt) ?_
  have S12 := S_oq.ext (((hO.keep K1 all0).ext E4).ext E8).2
  refine own_thrH (a := T11.setTop (mkF m 560 #[.val (.int p0), .val (.int p1), .val (.int p2), .val (.int p3), .val (.int q4), .val (.int q5), .val (.int q6), .val (.int q7), .val (.ref o8), .val (.ref r1), .val .null] [])) (fun t kt => ?_) ?_
  · refine XS.ifNo X11.here hx rfl (hb hby at_557) rfl ((if0 _ _).trans (feq (by decide)).1) ?_
    exact kt
  obtain ⟨T13, X13, e13, st13⟩ := getS2 X11 hx hZ8 hown8 (host := "") (Or.inl (hw _ (own_i 114 rfl))) Via.refl e11 S12 (g := (mkF m 560 #[.val (.int p0), .val (.int p1), .val (.int p2), .val (.int p3), .val (.int q4), .val (.int q5), .val (.int q6), .val (.int q7), .val (.ref o8), .val (.ref r1), .val .null] [])) rfl (hb hby at_560)
  refine own_thrH (a := T13.setTop (mkF m 563 #[.val (.int p0), .val (.int p1), .val (.int p2), .val (.int p3), .val (.int q4), .val (.int q5), .val (.int q6), .val (.int q7), .val (.ref o8), .val (.ref r1), .val .null] [(.ref oq)])) (fun t kt => st13 t kt) ?_
  refine own_thrH (a := T13.setTop (mkF m 586 #[.val (.int p0), .val (.int p1), .val (.int p2), .val (.int p3), .val (.int q4), .val (.int q5), .val (.int q6), .val (.int q7), .val (.ref o8), .val (.ref r1), .val (.ref oq)] [(.ref r1)])) (fun t kt => ?_) ?_
  · refine XS.astore X13.here hx rfl (hb hby at_563) rfl rfl (l' := #[.val (.int p0), .val (.int p1), .val (.int p2), .val (.int p3), .val (.int q4), .val (.int q5), .val (.int q6), .val (.int q7), .val (.ref o8), .val (.ref r1), .val (.ref oq)]) rfl ?_
    refine XS.aload X13.here hx rfl (hb hby at_565) rfl rfl ?_
    refine XS.ifnonnullYes X13.here hx rfl (pc0 := 567) (pc' := 584) rfl (hb hby at_567) rfl (by decide) (by decide) ?_
    refine XS.aload X13.here hx rfl (hb hby at_584) rfl rfl ?_
    exact kt
  obtain ⟨cq14, kq14, q14a, q14b, q14c⟩ := isOf hZ8 e13 ((o1_e.ext E4).ext E8)
  obtain ⟨_, _, ⟨T14, L14, k14, n14⟩, -, X14, ⟨Lc14, hQ14, l14, y14, z14⟩, st14⟩ := X13.virtualBack hx (y := (⟨"java/util/Optional", "isPresent", "()Z"⟩ : MethodName)) (z := (⟨"java/util/Optional", "isPresent", "()Z"⟩ : MethodName)) hown8 (mvT hZ8 (hw _ (own_i 85 rfl))) (mvT hZ8 (hw _ (own_i 86 rfl))) (notFace_of_selects (args := #[]) (mvT hZ8 (hw _ (own_i 88 rfl)))) (mvT hZ8 (hw _ (own_i 88 rfl))) (mvT hZ8 (hw _ (own_i 87 rfl))) (by decide) (backOf (W := 0) (rmP1 l Z a0 hw [] r1 oq h8 n0 Z9 ((o1_v.ext E4).ext E8)) hZ8 (hw _ (own_i 89 rfl)) (hw _ (own_i 65 rfl)) (by decide) (by decide)) q14a q14c (g := (mkF m 586 #[.val (.int p0), .val (.int p1), .val (.int p2), .val (.int p3), .val (.int q4), .val (.int q5), .val (.int q6), .val (.int q7), .val (.ref o8), .val (.ref r1), .val (.ref oq)] [(.ref r1)])) rfl (by rw [hml]; rfl) (Steps.refl _) (argsL := []) (rest := []) (lenOf pd__28_29Z rfl) rfl (by show 2 * 0 + _ ≤ _; exact Nat.le_of_eq rfl) (hb hby at_586) (fun _ _ => ⟨rfl, e13, (show C1 + 6 + 0 ≤ 24 from by omega), (show S1 + 59 + 0 ≤ 3200 from by omega)⟩)
  dsimp only [Pt.U, Pt.locs, Pt.cells, Pt.slots] at X14 l14 y14 z14 st14 hQ14
  obtain ⟨rfl, N14q, e14⟩ := hQ14
  obtain ⟨lc14, X14, N14⟩ := own_pack X14 l14 y14 z14 N11 N14q (C := C1 + 6) (S' := S1 + 59) rfl rfl
  refine own_thrH (a := T14.setTop (mkF m 589 #[.val (.int p0), .val (.int p1), .val (.int p2), .val (.int p3), .val (.int q4), .val (.int q5), .val (.int q6), .val (.int q7), .val (.ref o8), .val (.ref r1), .val (.ref oq)] [(.int 1)])) (fun t kt => st14.trans kt) ?_
  refine own_thrH (a := T14.setTop (mkF m 594 #[.val (.int p0), .val (.int p1), .val (.int p2), .val (.int p3), .val (.int q4), .val (.int q5), .val (.int q6), .val (.int q7), .val (.ref o8), .val (.ref r1), .val (.ref oq)] [(.ref r1)])) (fun t kt => ?_) ?_
  · refine XS.ifNo X14.here hx rfl (hb hby at_589) rfl ((if0 _ _).trans (feq (by decide)).1) ?_
    refine XS.aload X14.here hx rfl (hb hby at_592) rfl rfl ?_
    exact kt
  obtain ⟨cq15, kq15, q15a, q15b, q15c⟩ := isOf hZ8 e14 ((o1_e.ext E4).ext E8)
  obtain ⟨_, _, ⟨T15, L15, k15, n15⟩, -, X15, ⟨Lc15, hQ15, l15, y15, z15⟩, st15⟩ := X14.virtualBack hx (y := (⟨"java/util/Optional", "get", "()Ljava/lang/Object;"⟩ : MethodName)) (z := (⟨"java/util/Optional", "get", "()Ljava/lang/Object;"⟩ : MethodName)) hown8 (mvT hZ8 (hw _ (own_i 90 rfl))) (mvT hZ8 (hw _ (own_i 91 rfl))) (notFace_of_selects (args := #[]) (mvT hZ8 (hw _ (own_i 93 rfl)))) (mvT hZ8 (hw _ (own_i 93 rfl))) (mvT hZ8 (hw _ (own_i 92 rfl))) (by decide) (backOf (W := 0) (rmGT l Z a0 hw [] r1 oq h8 n0 Z9 ((o1_v.ext E4).ext E8)) hZ8 (hw _ (own_i 94 rfl)) (hw _ (own_i 65 rfl)) (by decide) (by decide)) q15a q15c (g := (mkF m 594 #[.val (.int p0), .val (.int p1), .val (.int p2), .val (.int p3), .val (.int q4), .val (.int q5), .val (.int q6), .val (.int q7), .val (.ref o8), .val (.ref r1), .val (.ref oq)] [(.ref r1)])) rfl (by rw [hml]; rfl) (Steps.refl _) (argsL := []) (rest := []) (lenOf pd__28_29Ljava_2flang_2fObject_3b rfl) rfl (by show 2 * 0 + _ ≤ _; exact Nat.le_of_eq rfl) (hb hby at_594) (fun _ _ => ⟨rfl, e14, (show C1 + 6 + 0 ≤ 24 from by omega), (show S1 + 59 + 0 ≤ 3200 from by omega)⟩)
  dsimp only [Pt.U, Pt.locs, Pt.cells, Pt.slots] at X15 l15 y15 z15 st15 hQ15
  obtain ⟨rfl, N15q, e15⟩ := hQ15
  obtain ⟨lc15, X15, N15⟩ := own_pack X15 l15 y15 z15 N14 N15q (C := C1 + 6) (S' := S1 + 59) rfl rfl
  refine own_thrH (a := T15.setTop (mkF m 597 #[.val (.int p0), .val (.int p1), .val (.int p2), .val (.int p3), .val (.int q4), .val (.int q5), .val (.int q6), .val (.int q7), .val (.ref o8), .val (.ref r1), .val (.ref oq)] [(.ref oq)])) (fun t kt => st15.trans kt) ?_
  refine own_thrH (a := T15.setTop (mkF m 599 #[.val (.int p0), .val (.int p1), .val (.int p2), .val (.int p3), .val (.int q4), .val (.int q5), .val (.int q6), .val (.int q7), .val (.ref o8), .val (.ref r1), .val (.ref oq)] [(.ref oq), (.ref oq)])) (fun t kt => ?_) ?_
  · refine XS.aload X15.here hx rfl (hb hby at_597) rfl rfl ?_
    exact kt
  refine own_thrH (a := T15.setTop (mkF m 607 #[.val (.int p0), .val (.int p1), .val (.int p2), .val (.int p3), .val (.int q4), .val (.int q5), .val (.int q6), .val (.int q7), .val (.ref o8), .val (.ref r1), .val (.ref oq)] [(.int 1)])) (fun t kt => ?_) ?_
  · refine Jvm.RoadKit.acmp (g := (mkF m 599 #[.val (.int p0), .val (.int p1), .val (.int p2), .val (.int p3), .val (.int q4), .val (.int q5), .val (.int q6), .val (.int q7), .val (.ref o8), .val (.ref r1), .val (.ref oq)] [(.ref oq), (.ref oq)])) X15 hx rfl rfl rfl (pc0 := 599) (pc' := 602) (same := true) rfl (hb hby at_599) rfl (decide_eq_true rfl) (by decide) (by decide) ?_
    refine XS.iconst X15.here hx rfl (hb hby at_602) ?_
    refine XS.goto X15.here hx rfl (pc0 := 603) (pc' := 607) rfl (hb hby at_603) (by decide) (by decide) ?_
    exact kt
  exact own_endH X15 hS8 (by rw [e15]; exact hk8) hZ8 hEL CHl8 hh e15 hlk (v := some (.int 1)) (fun h => by rw [hret] at h; cases h) (fun fs hr => retN X15 hx (t := .boolean) hret (by simp) (hb hby at_607) hr) ⟨rfl, N15⟩ (show C1 + 6 ≤ 24 from by omega) (show S1 + 59 ≤ 3200 from by omega)
set_option maxRecDepth 65536 in
set_option maxHeartbeats 40000000 in
theorem own_tailA {p : Program} {l : Launch} {e : Env} {s : State} {m : MethodId} {below : List Frame} {meth : Method} {c : Code} {Z : State} {a0 : Array Value} (p0 : Int32) (p1 : Int32) (p2 : Int32) (p3 : Int32) (va : Addr) (kv : ClassId) (ou : Addr) (oq : Addr) (em : Addr) (flu : Addr) (fvu : Addr) (kfu : ClassId) (flq : Addr) (fvq : Addr) (kfq : ClassId) (cs : Int32) {h0 : Heap} {n0 : Nat} (hw : ∀ d ∈ tables_1, d.before a0 Z = true) (hx : p.tables.exec = Jvm.exec) (hby : c.code = code) (hml : c.maxLocals = 11) (hlk : meth.locks = false) (hret : meth.sig.returnType = ret) (hh : s.heap = h0) (hEL : EW Z a0 own_EL) {vm1 : Vm} {H1 : Heap} {k1 : Nat} (hZ : Z.Warmed39 (s.setVm vm1).vm) (hown : (s.setVm vm1).vm.findClass "com/example/durable_dispatch/durabledispatch/cli/OptionByFlagPinLaw" = some m.cls) (hS0 : s.Since vm1 k1) (hk0 : k1 ≤ H1.size) (CH0 : CHr Z own_EL s.vm h0 vm1 H1) (Z1 : n0 ≤ H1.size) (Zh : h0.size ≤ H1.size)
    (q4 q5 q6 q7 : Int32) (o8 : Addr) (sv : Addr) (ks : ClassId) (x0 : Int32) (x1 : Int32) (x2 : Int32) (x3 : Int32) (x4 : Int32) (l9 l10 : Slot) (hl9 : l9 = .unset ∨ ∃ w : Value, l9 = .val w ∧ w.category = 1) (hl10 : l10 = .unset ∨ ∃ w : Value, l10 = .val w ∧ w.category = 1) (S_V : Sta Z Z.heap "com/example/durable_dispatch/durabledispatch/cli/Option" "$VALUES" "[Lcom/example/durable_dispatch/durabledispatch/cli/Option;" (.ref va)) (V_va : Arv Z Z.heap va kv (.object "com/example/durable_dispatch/durabledispatch/cli/Option") (2 : Int32) [(.ref ou), (.ref oq)] .null) (E_va : Exa Z Z.heap va "[Lcom/example/durable_dispatch/durabledispatch/cli/Option;") (hfit : Fit Z) (S_em : Sta Z Z.heap "java/util/Optional" "EMPTY" "Ljava/util/Optional;" (.ref em)) (S_cs : Sta Z Z.heap "java/lang/String" "COMPACT_STRINGS" "Z" (.int cs)) (hcs : ¬ cs = (0 : Int32)) (hO : Old Z n0 H1) (F_flu : Fld Z H1 ou "com/example/durable_dispatch/durabledispatch/cli/Option" "flag" "Ljava/lang/String;" (.ref flu)) (E_flu : Exa Z H1 flu "java/lang/String") (F_fvu : Fld Z H1 flu "java/lang/String" "value" "[B" (.ref fvu)) (F_fluc : Fld Z H1 flu "java/lang/String" "coder" "B" (.int 0)) (V_fvu : Arv Z H1 fvu kfu .byte (5 : Int32) [(.int 45), (.int 45), (.int 117), (.int 114), (.int 108)] (.int 0)) (F_flq : Fld Z H1 oq "com/example/durable_dispatch/durabledispatch/cli/Option" "flag" "Ljava/lang/String;" (.ref flq)) (E_flq : Exa Z H1 flq "java/lang/String") (F_fvq : Fld Z H1 flq "java/lang/String" "value" "[B" (.ref fvq)) (F_flqc : Fld Z H1 flq "java/lang/String" "coder" "B" (.int 0)) (V_fvq : Arv Z H1 fvq kfq .byte (7 : Int32) [(.int 45), (.int 45), (.int 113), (.int 117), (.int 101), (.int 117), (.int 101)] (.int 0)) (S_ou : Sta Z Z.heap "com/example/durable_dispatch/durabledispatch/cli/Option" "URL" "Lcom/example/durable_dispatch/durabledispatch/cli/Option;" (.ref ou)) (S_oq : Sta Z Z.heap "com/example/durable_dispatch/durabledispatch/cli/Option" "QUEUE" "Lcom/example/durable_dispatch/durabledispatch/cli/Option;" (.ref oq)) (E_em : Exa Z H1 em "java/util/Optional") (F_em : Fld Z H1 em "java/util/Optional" "value" "Ljava/lang/Object;" .null) (E_o8 : Exa Z H1 o8 "java/lang/String") (F_sv : Fld Z H1 o8 "java/lang/String" "value" "[B" (.ref sv)) (F_o8c : Fld Z H1 o8 "java/lang/String" "coder" "B" (.int 0)) (V_sv : Arv Z H1 sv ks .byte (5 : Int32) [(.int x0), (.int x1), (.int x2), (.int x3), (.int x4)] (.int 0)) (hm : ¬ (x0 = (45 : Int32) ∧ x1 = (45 : Int32) ∧ x2 = (117 : Int32) ∧ x3 = (114 : Int32) ∧ x4 = (108 : Int32))) {C1 S1 : Nat} (hC1 : C1 + 8 ≤ 24) (hS1 : S1 + 100 ≤ 3200) {T0 : State} {lc0 : List Loc} (X0 : Stand p l e room_1 (s.setVm vm1) m #[(.int p0), (.int p1), (.int p2), (.int p3)] below meth c T0 lc0 C1 S1) (N0 : Fr n0 lc0) (e0 : T0.heap = H1) : own_GH p.tables e below s Z own_EL (Q0 Z p0 p1 p2 p3 va kv ou oq em flu fvu kfu flq fvq kfq cs h0 n0) room_1.cells room_1.slots (T0.setTop (mkF m 510 #[.val (.int p0), .val (.int p1), .val (.int p2), .val (.int p3), .val (.int q4), .val (.int q5), .val (.int q6), .val (.int q7), .val (.ref o8), l9, l10] [])) := by
  refine own_thrH (a := T0.setTop (mkF m 512 #[.val (.int p0), .val (.int p1), .val (.int p2), .val (.int p3), .val (.int q4), .val (.int q5), .val (.int q6), .val (.int q7), .val (.ref o8), l9, l10] [(.ref o8)])) (fun t kt => ?_) ?_
  · refine XS.aload X0.here hx rfl (hb hby at_510) rfl rfl ?_
    exact kt
  obtain ⟨_, _, ⟨T1, L1, k1, n1⟩, -, X1, ⟨Lc1, hQ1, l1, y1, z1⟩, st1⟩ := Jvm.LawKit.callS X0 hx (y := (⟨"com/example/durable_dispatch/durabledispatch/cli/Option", "byFlag", "(Ljava/lang/String;)Ljava/util/Optional;"⟩ : MethodName)) hown (mvT hZ (hw _ (own_i 30 rfl))) (mvT hZ (hw _ (own_i 31 rfl))) (mvT hZ (hw _ (own_i 32 rfl))) (mvT hZ (hw _ (own_i 33 rfl))) (by decide) (backOf (W := 0) (rmBFA l Z a0 hw [] o8 va kv ou oq em flu fvu kfu flq fvq kfq cs sv ks x0 x1 x2 x3 x4 H1 n0 Z1 S_V V_va E_va hfit S_em S_cs hcs hO F_flu E_flu F_fvu F_fluc V_fvu F_flq E_flq F_fvq F_flqc V_fvq E_o8 F_sv F_o8c V_sv hm) hZ (hw _ (own_i 33 rfl)) (hw _ (own_i 32 rfl)) (by decide) (by decide)) (g := (mkF m 512 #[.val (.int p0), .val (.int p1), .val (.int p2), .val (.int p3), .val (.int q4), .val (.int q5), .val (.int q6), .val (.int q7), .val (.ref o8), l9, l10] [(.ref o8)])) rfl (by rw [hml]; rfl) (argsL := [(.ref o8)]) (rest := []) (lenOf pd__28Ljava_2flang_2fString_3b_29Ljava_2futil_2fOptional_3b rfl) rfl (by show 2 * 0 + _ ≤ _; exact Nat.le_of_eq rfl) (hb hby at_512) (fun _ _ => ⟨rfl, e0, (show C1 + 0 + 1 ≤ 24 from by omega), (show S1 + 0 + 2 ≤ 3200 from by omega)⟩)
  dsimp only [Pt.U, Pt.locs, Pt.cells, Pt.slots] at X1 l1 y1 z1 st1 hQ1
  obtain ⟨rfl, N1q, K1⟩ := hQ1
  have CH2 := CH0.trans (CHr.keep K1 all0 CH0.1)
  have Z3 : n0 ≤ T1.heap.size := Nat.le_trans Z1 K1.1
  have Z3h : h0.size ≤ T1.heap.size := Nat.le_trans Zh K1.1
  have Z3k := Nat.le_trans hk0 K1.1
  obtain ⟨lc1, X1, N1⟩ := own_pack X1 l1 y1 z1 N0 N1q (C := C1 + 1) (S' := S1 + 2) rfl rfl
  refine own_thrH (a := T1.setTop (mkF m 515 #[.val (.int p0), .val (.int p1), .val (.int p2), .val (.int p3), .val (.int q4), .val (.int q5), .val (.int q6), .val (.int q7), .val (.ref o8), l9, l10] [(.ref em)])) (fun t kt => st1 t kt) ?_
  refine own_thrH (a := T1.setTop (mkF m 534 #[.val (.int p0), .val (.int p1), .val (.int p2), .val (.int p3), .val (.int q4), .val (.int q5), .val (.int q6), .val (.int q7), .val (.ref o8), .val (.ref em), .val .null] [(.ref o8)])) (fun t kt => ?_) ?_
  · refine XS.astore X1.here hx rfl (hb hby at_515) rfl rfl (l' := #[.val (.int p0), .val (.int p1), .val (.int p2), .val (.int p3), .val (.int q4), .val (.int q5), .val (.int q6), .val (.int q7), .val (.ref o8), .val (.ref em), l10]) (by rcases hl9 with hq_ | ⟨wq_, hq_, hw_⟩ <;> rw [hq_] <;> first | rfl | (cases wq_ <;> first | rfl | (simp [Value.category] at hw_))) ?_
    refine XS.aload X1.here hx rfl (hb hby at_517) rfl rfl ?_
    refine XS.ifnonnullYes X1.here hx rfl (pc0 := 519) (pc' := 524) rfl (hb hby at_519) rfl (by decide) (by decide) ?_
    refine XS.aconstNull X1.here hx rfl (hb hby at_524) ?_
    refine XS.astore X1.here hx rfl (hb hby at_525) rfl rfl (l' := #[.val (.int p0), .val (.int p1), .val (.int p2), .val (.int p3), .val (.int q4), .val (.int q5), .val (.int q6), .val (.int q7), .val (.ref o8), .val (.ref em), .val .null]) (by rcases hl10 with hq_ | ⟨wq_, hq_, hw_⟩ <;> rw [hq_] <;> first | rfl | (cases wq_ <;> first | rfl | (simp [Value.category] at hw_))) ?_
    refine XS.aload X1.here hx rfl (hb hby at_527) rfl rfl ?_
    refine XS.ifnullNo X1.here hx rfl (hb hby at_529) rfl ?_
    refine XS.aload X1.here hx rfl (hb hby at_532) rfl rfl ?_
    exact kt
  obtain ⟨b4, T4, h4, kk4, d4, kc4, X4, e4, E4, hS4, hk4, hZ4, hown4, oE4, oC4, oV4, oA4, -, -, ch4, -, sfq4, st4⟩ := ldcCH X1 hx hZ hown (hw _ (own_i 80 rfl)) (fun a ha => hw a (own_sa a ha)) rfl hS0 Z3k hEL (by decide) CH2.1 (vs := [(.int 45), (.int 45), (.int 117), (.int 114), (.int 108)]) (z := (5 : Int32)) ⟨by decide, rfl⟩ (by decide) rfl (g := (mkF m 534 #[.val (.int p0), .val (.int p1), .val (.int p2), .val (.int p3), .val (.int q4), .val (.int q5), .val (.int q6), .val (.int q7), .val (.ref o8), .val (.ref em), .val .null] [(.ref o8)])) rfl (hb hby at_534) (n := 20) (by decide) (by decide) (show C1 + 1 + 2 ≤ 24 from by omega) (show S1 + 2 + 24 ≤ 3200 from by omega)
  have Z5 : n0 ≤ h4.size := Nat.le_trans Z3 E4.1
  have Z5h : h0.size ≤ h4.size := Nat.le_trans Z3h E4.1
  have CHl4 := CH2.trans ch4
  refine own_thrH (a := T4.setTop (mkF m 536 #[.val (.int p0), .val (.int p1), .val (.int p2), .val (.int p3), .val (.int q4), .val (.int q5), .val (.int q6), .val (.int q7), .val (.ref o8), .val (.ref em), .val .null] [(.ref b4), (.ref o8)])) (fun t kt => st4 t kt) ?_
  have S6 := S_cs.ext ((hO.keep K1 all0).ext E4).2
  obtain ⟨cq7, kq7, q7a, q7b, q7c⟩ := isOf hZ4 e4 ((E_o8.keep K1).ext E4)
  obtain ⟨_, _, ⟨T7, L7, k7, n7⟩, -, X7, ⟨Lc7, hQ7, l7, y7, z7⟩, st7⟩ := X4.virtualBack hx (y := (⟨"java/lang/String", "equals", "(Ljava/lang/Object;)Z"⟩ : MethodName)) (z := (⟨"java/lang/String", "equals", "(Ljava/lang/Object;)Z"⟩ : MethodName)) hown4 (mvT hZ4 (hw _ (own_i 83 rfl))) (mvT hZ4 (hw _ (own_i 54 rfl))) (notFace_of_selects (args := #[]) (mvT hZ4 (hw _ (own_i 56 rfl)))) (mvT hZ4 (hw _ (own_i 56 rfl))) (mvT hZ4 (hw _ (own_i 55 rfl))) (by decide) (backOf (W := 0) (rmEQM5 l Z a0 hw [] o8 b4 sv d4 x0 x1 x2 x3 x4 (45 : Int32) (45 : Int32) (117 : Int32) (114 : Int32) (108 : Int32) ks kc4 cs h4 n0 Z5 ((E_o8.keep K1).ext E4) ((F_sv.keep K1 nin0).ext E4) ((F_o8c.keep K1 nin0).ext E4) oE4 oV4 oC4 ((V_sv.keep K1 nin0).ext E4) oA4 S6 hcs (own_sl ((F_sv.keep K1 nin0).ext E4) oV4 ((V_sv.keep K1 nin0).ext E4) oA4 (fun q => hm ⟨Value.int.inj (q 0 (by decide)), Value.int.inj (q 1 (by decide)), Value.int.inj (q 2 (by decide)), Value.int.inj (q 3 (by decide)), Value.int.inj (q 4 (by decide))⟩)) hm) hZ4 (hw _ (own_i 57 rfl)) (hw _ (own_i 2 rfl)) (by decide) (by decide)) q7a q7c (g := (mkF m 536 #[.val (.int p0), .val (.int p1), .val (.int p2), .val (.int p3), .val (.int q4), .val (.int q5), .val (.int q6), .val (.int q7), .val (.ref o8), .val (.ref em), .val .null] [(.ref b4), (.ref o8)])) rfl (by rw [hml]; rfl) (Steps.refl _) (argsL := [(.ref b4)]) (rest := []) (lenOf pd__28Ljava_2flang_2fObject_3b_29Z rfl) rfl (by show 2 * 0 + _ ≤ _; exact Nat.le_of_eq rfl) (hb hby at_536) (fun _ _ => ⟨rfl, e4, (show C1 + 3 + 0 ≤ 24 from by omega), (show S1 + 26 + 0 ≤ 3200 from by omega)⟩)
  dsimp only [Pt.U, Pt.locs, Pt.cells, Pt.slots] at X7 l7 y7 z7 st7 hQ7
  obtain ⟨rfl, N7q, e7⟩ := hQ7
  obtain ⟨lc7, X7, N7⟩ := own_pack X7 l7 y7 z7 N1 N7q (C := C1 + 3) (S' := S1 + 26) rfl rfl
  refine own_thrH (a := T7.setTop (mkF m 539 #[.val (.int p0), .val (.int p1), .val (.int p2), .val (.int p3), .val (.int q4), .val (.int q5), .val (.int q6), .val (.int q7), .val (.ref o8), .val (.ref em), .val .null] [(.int 0)])) (fun t kt => st7.trans kt) ?_
  refine own_thrH (a := T7.setTop (mkF m 552 #[.val (.int p0), .val (.int p1), .val (.int p2), .val (.int p3), .val (.int q4), .val (.int q5), .val (.int q6), .val (.int q7), .val (.ref o8), .val (.ref em), .val .null] [(.ref o8)])) (fun t kt => ?_) ?_
  · refine XS.ifYes X7.here hx rfl (pc0 := 539) (pc' := 550) rfl (hb hby at_539) rfl ((if0 _ _).trans (teq rfl).1) (by decide) (by decide) ?_
    refine XS.aload X7.here hx rfl (hb hby at_550) rfl rfl ?_
    exact kt
  obtain ⟨b8, T8, h8, kk8, d8, kc8, X8, e8, E8, hS8, hk8, hZ8, hown8, oE8, oC8, oV8, oA8, -, -, ch8, -, sfq8, st8⟩ := ldcCH X7 hx hZ4 hown4 (hw _ (own_i 111 rfl)) (fun a ha => hw a (own_sa a ha)) e7 hS4 hk4 hEL (by decide) CHl4.1 (vs := [(.int 45), (.int 45), (.int 113), (.int 117), (.int 101), (.int 117), (.int 101)]) (z := (7 : Int32)) ⟨by decide, rfl⟩ (by decide) rfl (g := (mkF m 552 #[.val (.int p0), .val (.int p1), .val (.int p2), .val (.int p3), .val (.int q4), .val (.int q5), .val (.int q6), .val (.int q7), .val (.ref o8), .val (.ref em), .val .null] [(.ref o8)])) rfl (hb hby at_552) (n := 28) (by decide) (by decide) (show C1 + 3 + 2 ≤ 24 from by omega) (show S1 + 26 + 32 ≤ 3200 from by omega)
  have Z9 : n0 ≤ h8.size := Nat.le_trans Z5 E8.1
  have Z9h : h0.size ≤ h8.size := Nat.le_trans Z5h E8.1
  have CHl8 := CHl4.trans ch8
  refine own_thrH (a := T8.setTop (mkF m 554 #[.val (.int p0), .val (.int p1), .val (.int p2), .val (.int p3), .val (.int q4), .val (.int q5), .val (.int q6), .val (.int q7), .val (.ref o8), .val (.ref em), .val .null] [(.ref b8), (.ref o8)])) (fun t kt => st8 t kt) ?_
  have S10 := S_cs.ext (((hO.keep K1 all0).ext E4).ext E8).2
  obtain ⟨cq11, kq11, q11a, q11b, q11c⟩ := isOf hZ8 e8 (((E_o8.keep K1).ext E4).ext E8)
  obtain ⟨_, _, ⟨T11, L11, k11, n11⟩, -, X11, ⟨Lc11, hQ11, l11, y11, z11⟩, st11⟩ := X8.virtualBack hx (y := (⟨"java/lang/String", "equals", "(Ljava/lang/Object;)Z"⟩ : MethodName)) (z := (⟨"java/lang/String", "equals", "(Ljava/lang/Object;)Z"⟩ : MethodName)) hown8 (mvT hZ8 (hw _ (own_i 83 rfl))) (mvT hZ8 (hw _ (own_i 54 rfl))) (notFace_of_selects (args := #[]) (mvT hZ8 (hw _ (own_i 56 rfl)))) (mvT hZ8 (hw _ (own_i 56 rfl))) (mvT hZ8 (hw _ (own_i 55 rfl))) (by decide) (backOf (W := 0) (rmEQD l Z a0 hw [] o8 b8 sv d8 (5 : Int32) (7 : Int32) [(.int x0), (.int x1), (.int x2), (.int x3), (.int x4)] [(.int 45), (.int 45), (.int 113), (.int 117), (.int 101), (.int 117), (.int 101)] ks kc8 cs h8 n0 Z9 (((E_o8.keep K1).ext E4).ext E8) (((F_sv.keep K1 nin0).ext E4).ext E8) (((F_o8c.keep K1 nin0).ext E4).ext E8) oE8 oV8 oC8 (((V_sv.keep K1 nin0).ext E4).ext E8) oA8 S10 hcs (own_sd (((F_sv.keep K1 nin0).ext E4).ext E8) oV8 (((V_sv.keep K1 nin0).ext E4).ext E8) oA8 (by decide)) (by decide)) hZ8 (hw _ (own_i 57 rfl)) (hw _ (own_i 2 rfl)) (by decide) (by decide)) q11a q11c (g := (mkF m 554 #[.val (.int p0), .val (.int p1), .val (.int p2), .val (.int p3), .val (.int q4), .val (.int q5), .val (.int q6), .val (.int q7), .val (.ref o8), .val (.ref em), .val .null] [(.ref b8), (.ref o8)])) rfl (by rw [hml]; rfl) (Steps.refl _) (argsL := [(.ref b8)]) (rest := []) (lenOf pd__28Ljava_2flang_2fObject_3b_29Z rfl) rfl (by show 2 * 0 + _ ≤ _; exact Nat.le_of_eq rfl) (hb hby at_554) (fun _ _ => ⟨rfl, e8, (show C1 + 5 + 0 ≤ 24 from by omega), (show S1 + 58 + 0 ≤ 3200 from by omega)⟩)
  dsimp only [Pt.U, Pt.locs, Pt.cells, Pt.slots] at X11 l11 y11 z11 st11 hQ11
  obtain ⟨rfl, N11q, e11⟩ := hQ11
  obtain ⟨lc11, X11, N11⟩ := own_pack X11 l11 y11 z11 N7 N11q (C := C1 + 5) (S' := S1 + 58) rfl rfl
  refine own_thrH (a := T11.setTop (mkF m 557 #[.val (.int p0), .val (.int p1), .val (.int p2), .val (.int p3), .val (.int q4), .val (.int q5), .val (.int q6), .val (.int q7), .val (.ref o8), .val (.ref em), .val .null] [(.int 0)])) (fun t kt => st11.trans kt) ?_
  refine own_thrH (a := T11.setTop (mkF m 572 #[.val (.int p0), .val (.int p1), .val (.int p2), .val (.int p3), .val (.int q4), .val (.int q5), .val (.int q6), .val (.int q7), .val (.ref o8), .val (.ref em), .val .null] [(.ref em)])) (fun t kt => ?_) ?_
  · refine XS.ifYes X11.here hx rfl (pc0 := 557) (pc' := 565) rfl (hb hby at_557) rfl ((if0 _ _).trans (teq rfl).1) (by decide) (by decide) ?_
    refine XS.aload X11.here hx rfl (hb hby at_565) rfl rfl ?_
    refine XS.ifnonnullNo X11.here hx rfl (hb hby at_567) rfl ?_
    refine XS.aload X11.here hx rfl (hb hby at_570) rfl rfl ?_
    exact kt
  obtain ⟨cq12, kq12, q12a, q12b, q12c⟩ := isOf hZ8 e11 (((E_em.keep K1).ext E4).ext E8)
  obtain ⟨_, _, ⟨T12, L12, k12, n12⟩, -, X12, ⟨Lc12, hQ12, l12, y12, z12⟩, st12⟩ := X11.virtualBack hx (y := (⟨"java/util/Optional", "isPresent", "()Z"⟩ : MethodName)) (z := (⟨"java/util/Optional", "isPresent", "()Z"⟩ : MethodName)) hown8 (mvT hZ8 (hw _ (own_i 85 rfl))) (mvT hZ8 (hw _ (own_i 86 rfl))) (notFace_of_selects (args := #[]) (mvT hZ8 (hw _ (own_i 88 rfl)))) (mvT hZ8 (hw _ (own_i 88 rfl))) (mvT hZ8 (hw _ (own_i 87 rfl))) (by decide) (backOf (W := 0) (rmP0 l Z a0 hw [] em h8 n0 Z9 (((F_em.keep K1 nin0).ext E4).ext E8)) hZ8 (hw _ (own_i 89 rfl)) (hw _ (own_i 65 rfl)) (by decide) (by decide)) q12a q12c (g := (mkF m 572 #[.val (.int p0), .val (.int p1), .val (.int p2), .val (.int p3), .val (.int q4), .val (.int q5), .val (.int q6), .val (.int q7), .val (.ref o8), .val (.ref em), .val .null] [(.ref em)])) rfl (by rw [hml]; rfl) (Steps.refl _) (argsL := []) (rest := []) (lenOf pd__28_29Z rfl) rfl (by show 2 * 0 + _ ≤ _; exact Nat.le_of_eq rfl) (hb hby at_572) (fun _ _ => ⟨rfl, e11, (show C1 + 5 + 0 ≤ 24 from by omega), (show S1 + 58 + 0 ≤ 3200 from by omega)⟩)
  dsimp only [Pt.U, Pt.locs, Pt.cells, Pt.slots] at X12 l12 y12 z12 st12 hQ12
  obtain ⟨rfl, N12q, e12⟩ := hQ12
  obtain ⟨lc12, X12, N12⟩ := own_pack X12 l12 y12 z12 N11 N12q (C := C1 + 5) (S' := S1 + 58) rfl rfl
  refine own_thrH (a := T12.setTop (mkF m 575 #[.val (.int p0), .val (.int p1), .val (.int p2), .val (.int p3), .val (.int q4), .val (.int q5), .val (.int q6), .val (.int q7), .val (.ref o8), .val (.ref em), .val .null] [(.int 0)])) (fun t kt => st12.trans kt) ?_
  refine own_thrH (a := T12.setTop (mkF m 583 #[.val (.int p0), .val (.int p1), .val (.int p2), .val (.int p3), .val (.int q4), .val (.int q5), .val (.int q6), .val (.int q7), .val (.ref o8), .val (.ref em), .val .null] [(.int 1)])) (fun t kt => ?_) ?_
  · refine XS.ifNo X12.here hx rfl (hb hby at_575) rfl ((if0 _ _).trans (teq rfl).2) ?_
    refine XS.iconst X12.here hx rfl (hb hby at_578) ?_
    refine XS.goto X12.here hx rfl (pc0 := 579) (pc' := 583) rfl (hb hby at_579) (by decide) (by decide) ?_
    exact kt
  exact own_endH X12 hS8 (by rw [e12]; exact hk8) hZ8 hEL CHl8 hh e12 hlk (v := some (.int 1)) (fun h => by rw [hret] at h; cases h) (fun fs hr => retN X12 hx (t := .boolean) hret (by simp) (hb hby at_583) hr) ⟨rfl, N12⟩ (show C1 + 5 ≤ 24 from by omega) (show S1 + 58 ≤ 3200 from by omega)
set_option maxRecDepth 65536 in
set_option maxHeartbeats 40000000 in
theorem own_tailB {p : Program} {l : Launch} {e : Env} {s : State} {m : MethodId} {below : List Frame} {meth : Method} {c : Code} {Z : State} {a0 : Array Value} (p0 : Int32) (p1 : Int32) (p2 : Int32) (p3 : Int32) (va : Addr) (kv : ClassId) (ou : Addr) (oq : Addr) (em : Addr) (flu : Addr) (fvu : Addr) (kfu : ClassId) (flq : Addr) (fvq : Addr) (kfq : ClassId) (cs : Int32) {h0 : Heap} {n0 : Nat} (hw : ∀ d ∈ tables_1, d.before a0 Z = true) (hx : p.tables.exec = Jvm.exec) (hby : c.code = code) (hml : c.maxLocals = 11) (hlk : meth.locks = false) (hret : meth.sig.returnType = ret) (hh : s.heap = h0) (hEL : EW Z a0 own_EL) {vm1 : Vm} {H1 : Heap} {k1 : Nat} (hZ : Z.Warmed39 (s.setVm vm1).vm) (hown : (s.setVm vm1).vm.findClass "com/example/durable_dispatch/durabledispatch/cli/OptionByFlagPinLaw" = some m.cls) (hS0 : s.Since vm1 k1) (hk0 : k1 ≤ H1.size) (CH0 : CHr Z own_EL s.vm h0 vm1 H1) (Z1 : n0 ≤ H1.size) (Zh : h0.size ≤ H1.size)
    (q4 q5 q6 q7 : Int32) (o8 : Addr) (sv : Addr) (ks : ClassId) (x0 : Int32) (x1 : Int32) (x2 : Int32) (x3 : Int32) (x4 : Int32) (x5 : Int32) (x6 : Int32) (l9 l10 : Slot) (hl9 : l9 = .unset ∨ ∃ w : Value, l9 = .val w ∧ w.category = 1) (hl10 : l10 = .unset ∨ ∃ w : Value, l10 = .val w ∧ w.category = 1) (S_V : Sta Z Z.heap "com/example/durable_dispatch/durabledispatch/cli/Option" "$VALUES" "[Lcom/example/durable_dispatch/durabledispatch/cli/Option;" (.ref va)) (V_va : Arv Z Z.heap va kv (.object "com/example/durable_dispatch/durabledispatch/cli/Option") (2 : Int32) [(.ref ou), (.ref oq)] .null) (E_va : Exa Z Z.heap va "[Lcom/example/durable_dispatch/durabledispatch/cli/Option;") (hfit : Fit Z) (S_em : Sta Z Z.heap "java/util/Optional" "EMPTY" "Ljava/util/Optional;" (.ref em)) (S_cs : Sta Z Z.heap "java/lang/String" "COMPACT_STRINGS" "Z" (.int cs)) (hcs : ¬ cs = (0 : Int32)) (hO : Old Z n0 H1) (F_flu : Fld Z H1 ou "com/example/durable_dispatch/durabledispatch/cli/Option" "flag" "Ljava/lang/String;" (.ref flu)) (E_flu : Exa Z H1 flu "java/lang/String") (F_fvu : Fld Z H1 flu "java/lang/String" "value" "[B" (.ref fvu)) (F_fluc : Fld Z H1 flu "java/lang/String" "coder" "B" (.int 0)) (V_fvu : Arv Z H1 fvu kfu .byte (5 : Int32) [(.int 45), (.int 45), (.int 117), (.int 114), (.int 108)] (.int 0)) (F_flq : Fld Z H1 oq "com/example/durable_dispatch/durabledispatch/cli/Option" "flag" "Ljava/lang/String;" (.ref flq)) (E_flq : Exa Z H1 flq "java/lang/String") (F_fvq : Fld Z H1 flq "java/lang/String" "value" "[B" (.ref fvq)) (F_flqc : Fld Z H1 flq "java/lang/String" "coder" "B" (.int 0)) (V_fvq : Arv Z H1 fvq kfq .byte (7 : Int32) [(.int 45), (.int 45), (.int 113), (.int 117), (.int 101), (.int 117), (.int 101)] (.int 0)) (S_ou : Sta Z Z.heap "com/example/durable_dispatch/durabledispatch/cli/Option" "URL" "Lcom/example/durable_dispatch/durabledispatch/cli/Option;" (.ref ou)) (S_oq : Sta Z Z.heap "com/example/durable_dispatch/durabledispatch/cli/Option" "QUEUE" "Lcom/example/durable_dispatch/durabledispatch/cli/Option;" (.ref oq)) (E_em : Exa Z H1 em "java/util/Optional") (F_em : Fld Z H1 em "java/util/Optional" "value" "Ljava/lang/Object;" .null) (E_o8 : Exa Z H1 o8 "java/lang/String") (F_sv : Fld Z H1 o8 "java/lang/String" "value" "[B" (.ref sv)) (F_o8c : Fld Z H1 o8 "java/lang/String" "coder" "B" (.int 0)) (V_sv : Arv Z H1 sv ks .byte (7 : Int32) [(.int x0), (.int x1), (.int x2), (.int x3), (.int x4), (.int x5), (.int x6)] (.int 0)) (hm : ¬ (x0 = (45 : Int32) ∧ x1 = (45 : Int32) ∧ x2 = (113 : Int32) ∧ x3 = (117 : Int32) ∧ x4 = (101 : Int32) ∧ x5 = (117 : Int32) ∧ x6 = (101 : Int32))) {C1 S1 : Nat} (hC1 : C1 + 8 ≤ 24) (hS1 : S1 + 100 ≤ 3200) {T0 : State} {lc0 : List Loc} (X0 : Stand p l e room_1 (s.setVm vm1) m #[(.int p0), (.int p1), (.int p2), (.int p3)] below meth c T0 lc0 C1 S1) (N0 : Fr n0 lc0) (e0 : T0.heap = H1) : own_GH p.tables e below s Z own_EL (Q0 Z p0 p1 p2 p3 va kv ou oq em flu fvu kfu flq fvq kfq cs h0 n0) room_1.cells room_1.slots (T0.setTop (mkF m 510 #[.val (.int p0), .val (.int p1), .val (.int p2), .val (.int p3), .val (.int q4), .val (.int q5), .val (.int q6), .val (.int q7), .val (.ref o8), l9, l10] [])) := by
  refine own_thrH (a := T0.setTop (mkF m 512 #[.val (.int p0), .val (.int p1), .val (.int p2), .val (.int p3), .val (.int q4), .val (.int q5), .val (.int q6), .val (.int q7), .val (.ref o8), l9, l10] [(.ref o8)])) (fun t kt => ?_) ?_
  · refine XS.aload X0.here hx rfl (hb hby at_510) rfl rfl ?_
    exact kt
  obtain ⟨_, _, ⟨T1, L1, k1, n1⟩, -, X1, ⟨Lc1, hQ1, l1, y1, z1⟩, st1⟩ := Jvm.LawKit.callS X0 hx (y := (⟨"com/example/durable_dispatch/durabledispatch/cli/Option", "byFlag", "(Ljava/lang/String;)Ljava/util/Optional;"⟩ : MethodName)) hown (mvT hZ (hw _ (own_i 30 rfl))) (mvT hZ (hw _ (own_i 31 rfl))) (mvT hZ (hw _ (own_i 32 rfl))) (mvT hZ (hw _ (own_i 33 rfl))) (by decide) (backOf (W := 0) (rmBFB l Z a0 hw [] o8 va kv ou oq em flu fvu kfu flq fvq kfq cs sv ks x0 x1 x2 x3 x4 x5 x6 H1 n0 Z1 S_V V_va E_va hfit S_em S_cs hcs hO F_flu E_flu F_fvu F_fluc V_fvu F_flq E_flq F_fvq F_flqc V_fvq E_o8 F_sv F_o8c V_sv hm) hZ (hw _ (own_i 33 rfl)) (hw _ (own_i 32 rfl)) (by decide) (by decide)) (g := (mkF m 512 #[.val (.int p0), .val (.int p1), .val (.int p2), .val (.int p3), .val (.int q4), .val (.int q5), .val (.int q6), .val (.int q7), .val (.ref o8), l9, l10] [(.ref o8)])) rfl (by rw [hml]; rfl) (argsL := [(.ref o8)]) (rest := []) (lenOf pd__28Ljava_2flang_2fString_3b_29Ljava_2futil_2fOptional_3b rfl) rfl (by show 2 * 0 + _ ≤ _; exact Nat.le_of_eq rfl) (hb hby at_512) (fun _ _ => ⟨rfl, e0, (show C1 + 0 + 1 ≤ 24 from by omega), (show S1 + 0 + 2 ≤ 3200 from by omega)⟩)
  dsimp only [Pt.U, Pt.locs, Pt.cells, Pt.slots] at X1 l1 y1 z1 st1 hQ1
  obtain ⟨rfl, N1q, K1⟩ := hQ1
  have CH2 := CH0.trans (CHr.keep K1 all0 CH0.1)
  have Z3 : n0 ≤ T1.heap.size := Nat.le_trans Z1 K1.1
  have Z3h : h0.size ≤ T1.heap.size := Nat.le_trans Zh K1.1
  have Z3k := Nat.le_trans hk0 K1.1
  obtain ⟨lc1, X1, N1⟩ := own_pack X1 l1 y1 z1 N0 N1q (C := C1 + 1) (S' := S1 + 2) rfl rfl
  refine own_thrH (a := T1.setTop (mkF m 515 #[.val (.int p0), .val (.int p1), .val (.int p2), .val (.int p3), .val (.int q4), .val (.int q5), .val (.int q6), .val (.int q7), .val (.ref o8), l9, l10] [(.ref em)])) (fun t kt => st1 t kt) ?_
  refine own_thrH (a := T1.setTop (mkF m 534 #[.val (.int p0), .val (.int p1), .val (.int p2), .val (.int p3), .val (.int q4), .val (.int q5), .val (.int q6), .val (.int q7), .val (.ref o8), .val (.ref em), .val .null] [(.ref o8)])) (fun t kt => ?_) ?_
  · refine XS.astore X1.here hx rfl (hb hby at_515) rfl rfl (l' := #[.val (.int p0), .val (.int p1), .val (.int p2), .val (.int p3), .val (.int q4), .val (.int q5), .val (.int q6), .val (.int q7), .val (.ref o8), .val (.ref em), l10]) (by rcases hl9 with hq_ | ⟨wq_, hq_, hw_⟩ <;> rw [hq_] <;> first | rfl | (cases wq_ <;> first | rfl | (simp [Value.category] at hw_))) ?_
    refine XS.aload X1.here hx rfl (hb hby at_517) rfl rfl ?_
    refine XS.ifnonnullYes X1.here hx rfl (pc0 := 519) (pc' := 524) rfl (hb hby at_519) rfl (by decide) (by decide) ?_
    refine XS.aconstNull X1.here hx rfl (hb hby at_524) ?_
    refine XS.astore X1.here hx rfl (hb hby at_525) rfl rfl (l' := #[.val (.int p0), .val (.int p1), .val (.int p2), .val (.int p3), .val (.int q4), .val (.int q5), .val (.int q6), .val (.int q7), .val (.ref o8), .val (.ref em), .val .null]) (by rcases hl10 with hq_ | ⟨wq_, hq_, hw_⟩ <;> rw [hq_] <;> first | rfl | (cases wq_ <;> first | rfl | (simp [Value.category] at hw_))) ?_
    refine XS.aload X1.here hx rfl (hb hby at_527) rfl rfl ?_
    refine XS.ifnullNo X1.here hx rfl (hb hby at_529) rfl ?_
    refine XS.aload X1.here hx rfl (hb hby at_532) rfl rfl ?_
    exact kt
  obtain ⟨b4, T4, h4, kk4, d4, kc4, X4, e4, E4, hS4, hk4, hZ4, hown4, oE4, oC4, oV4, oA4, -, -, ch4, -, sfq4, st4⟩ := ldcCH X1 hx hZ hown (hw _ (own_i 80 rfl)) (fun a ha => hw a (own_sa a ha)) rfl hS0 Z3k hEL (by decide) CH2.1 (vs := [(.int 45), (.int 45), (.int 117), (.int 114), (.int 108)]) (z := (5 : Int32)) ⟨by decide, rfl⟩ (by decide) rfl (g := (mkF m 534 #[.val (.int p0), .val (.int p1), .val (.int p2), .val (.int p3), .val (.int q4), .val (.int q5), .val (.int q6), .val (.int q7), .val (.ref o8), .val (.ref em), .val .null] [(.ref o8)])) rfl (hb hby at_534) (n := 20) (by decide) (by decide) (show C1 + 1 + 2 ≤ 24 from by omega) (show S1 + 2 + 24 ≤ 3200 from by omega)
  have Z5 : n0 ≤ h4.size := Nat.le_trans Z3 E4.1
  have Z5h : h0.size ≤ h4.size := Nat.le_trans Z3h E4.1
  have CHl4 := CH2.trans ch4
  refine own_thrH (a := T4.setTop (mkF m 536 #[.val (.int p0), .val (.int p1), .val (.int p2), .val (.int p3), .val (.int q4), .val (.int q5), .val (.int q6), .val (.int q7), .val (.ref o8), .val (.ref em), .val .null] [(.ref b4), (.ref o8)])) (fun t kt => st4 t kt) ?_
  have S6 := S_cs.ext ((hO.keep K1 all0).ext E4).2
  obtain ⟨cq7, kq7, q7a, q7b, q7c⟩ := isOf hZ4 e4 ((E_o8.keep K1).ext E4)
  obtain ⟨_, _, ⟨T7, L7, k7, n7⟩, -, X7, ⟨Lc7, hQ7, l7, y7, z7⟩, st7⟩ := X4.virtualBack hx (y := (⟨"java/lang/String", "equals", "(Ljava/lang/Object;)Z"⟩ : MethodName)) (z := (⟨"java/lang/String", "equals", "(Ljava/lang/Object;)Z"⟩ : MethodName)) hown4 (mvT hZ4 (hw _ (own_i 83 rfl))) (mvT hZ4 (hw _ (own_i 54 rfl))) (notFace_of_selects (args := #[]) (mvT hZ4 (hw _ (own_i 56 rfl)))) (mvT hZ4 (hw _ (own_i 56 rfl))) (mvT hZ4 (hw _ (own_i 55 rfl))) (by decide) (backOf (W := 0) (rmEQD l Z a0 hw [] o8 b4 sv d4 (7 : Int32) (5 : Int32) [(.int x0), (.int x1), (.int x2), (.int x3), (.int x4), (.int x5), (.int x6)] [(.int 45), (.int 45), (.int 117), (.int 114), (.int 108)] ks kc4 cs h4 n0 Z5 ((E_o8.keep K1).ext E4) ((F_sv.keep K1 nin0).ext E4) ((F_o8c.keep K1 nin0).ext E4) oE4 oV4 oC4 ((V_sv.keep K1 nin0).ext E4) oA4 S6 hcs (own_sd ((F_sv.keep K1 nin0).ext E4) oV4 ((V_sv.keep K1 nin0).ext E4) oA4 (by decide)) (by decide)) hZ4 (hw _ (own_i 57 rfl)) (hw _ (own_i 2 rfl)) (by decide) (by decide)) q7a q7c (g := (mkF m 536 #[.val (.int p0), .val (.int p1), .val (.int p2), .val (.int p3), .val (.int q4), .val (.int q5), .val (.int q6), .val (.int q7), .val (.ref o8), .val (.ref em), .val .null] [(.ref b4), (.ref o8)])) rfl (by rw [hml]; rfl) (Steps.refl _) (argsL := [(.ref b4)]) (rest := []) (lenOf pd__28Ljava_2flang_2fObject_3b_29Z rfl) rfl (by show 2 * 0 + _ ≤ _; exact Nat.le_of_eq rfl) (hb hby at_536) (fun _ _ => ⟨rfl, e4, (show C1 + 3 + 0 ≤ 24 from by omega), (show S1 + 26 + 0 ≤ 3200 from by omega)⟩)
  dsimp only [Pt.U, Pt.locs, Pt.cells, Pt.slots] at X7 l7 y7 z7 st7 hQ7
  obtain ⟨rfl, N7q, e7⟩ := hQ7
  obtain ⟨lc7, X7, N7⟩ := own_pack X7 l7 y7 z7 N1 N7q (C := C1 + 3) (S' := S1 + 26) rfl rfl
  refine own_thrH (a := T7.setTop (mkF m 539 #[.val (.int p0), .val (.int p1), .val (.int p2), .val (.int p3), .val (.int q4), .val (.int q5), .val (.int q6), .val (.int q7), .val (.ref o8), .val (.ref em), .val .null] [(.int 0)])) (fun t kt => st7.trans kt) ?_
  refine own_thrH (a := T7.setTop (mkF m 552 #[.val (.int p0), .val (.int p1), .val (.int p2), .val (.int p3), .val (.int q4), .val (.int q5), .val (.int q6), .val (.int q7), .val (.ref o8), .val (.ref em), .val .null] [(.ref o8)])) (fun t kt => ?_) ?_
  · refine XS.ifYes X7.here hx rfl (pc0 := 539) (pc' := 550) rfl (hb hby at_539) rfl ((if0 _ _).trans (teq rfl).1) (by decide) (by decide) ?_
    refine XS.aload X7.here hx rfl (hb hby at_550) rfl rfl ?_
    exact kt
  obtain ⟨b8, T8, h8, kk8, d8, kc8, X8, e8, E8, hS8, hk8, hZ8, hown8, oE8, oC8, oV8, oA8, -, -, ch8, -, sfq8, st8⟩ := ldcCH X7 hx hZ4 hown4 (hw _ (own_i 111 rfl)) (fun a ha => hw a (own_sa a ha)) e7 hS4 hk4 hEL (by decide) CHl4.1 (vs := [(.int 45), (.int 45), (.int 113), (.int 117), (.int 101), (.int 117), (.int 101)]) (z := (7 : Int32)) ⟨by decide, rfl⟩ (by decide) rfl (g := (mkF m 552 #[.val (.int p0), .val (.int p1), .val (.int p2), .val (.int p3), .val (.int q4), .val (.int q5), .val (.int q6), .val (.int q7), .val (.ref o8), .val (.ref em), .val .null] [(.ref o8)])) rfl (hb hby at_552) (n := 28) (by decide) (by decide) (show C1 + 3 + 2 ≤ 24 from by omega) (show S1 + 26 + 32 ≤ 3200 from by omega)
  have Z9 : n0 ≤ h8.size := Nat.le_trans Z5 E8.1
  have Z9h : h0.size ≤ h8.size := Nat.le_trans Z5h E8.1
  have CHl8 := CHl4.trans ch8
  refine own_thrH (a := T8.setTop (mkF m 554 #[.val (.int p0), .val (.int p1), .val (.int p2), .val (.int p3), .val (.int q4), .val (.int q5), .val (.int q6), .val (.int q7), .val (.ref o8), .val (.ref em), .val .null] [(.ref b8), (.ref o8)])) (fun t kt => st8 t kt) ?_
  have S10 := S_cs.ext (((hO.keep K1 all0).ext E4).ext E8).2
  obtain ⟨cq11, kq11, q11a, q11b, q11c⟩ := isOf hZ8 e8 (((E_o8.keep K1).ext E4).ext E8)
  obtain ⟨_, _, ⟨T11, L11, k11, n11⟩, -, X11, ⟨Lc11, hQ11, l11, y11, z11⟩, st11⟩ := X8.virtualBack hx (y := (⟨"java/lang/String", "equals", "(Ljava/lang/Object;)Z"⟩ : MethodName)) (z := (⟨"java/lang/String", "equals", "(Ljava/lang/Object;)Z"⟩ : MethodName)) hown8 (mvT hZ8 (hw _ (own_i 83 rfl))) (mvT hZ8 (hw _ (own_i 54 rfl))) (notFace_of_selects (args := #[]) (mvT hZ8 (hw _ (own_i 56 rfl)))) (mvT hZ8 (hw _ (own_i 56 rfl))) (mvT hZ8 (hw _ (own_i 55 rfl))) (by decide) (backOf (W := 0) (rmEQM7 l Z a0 hw [] o8 b8 sv d8 x0 x1 x2 x3 x4 x5 x6 (45 : Int32) (45 : Int32) (113 : Int32) (117 : Int32) (101 : Int32) (117 : Int32) (101 : Int32) ks kc8 cs h8 n0 Z9 (((E_o8.keep K1).ext E4).ext E8) (((F_sv.keep K1 nin0).ext E4).ext E8) (((F_o8c.keep K1 nin0).ext E4).ext E8) oE8 oV8 oC8 (((V_sv.keep K1 nin0).ext E4).ext E8) oA8 S10 hcs (own_sl (((F_sv.keep K1 nin0).ext E4).ext E8) oV8 (((V_sv.keep K1 nin0).ext E4).ext E8) oA8 (fun q => hm ⟨Value.int.inj (q 0 (by decide)), Value.int.inj (q 1 (by decide)), Value.int.inj (q 2 (by decide)), Value.int.inj (q 3 (by decide)), Value.int.inj (q 4 (by decide)), Value.int.inj (q 5 (by decide)), Value.int.inj (q 6 (by decide))⟩)) hm) hZ8 (hw _ (own_i 57 rfl)) (hw _ (own_i 2 rfl)) (by decide) (by decide)) q11a q11c (g := (mkF m 554 #[.val (.int p0), .val (.int p1), .val (.int p2), .val (.int p3), .val (.int q4), .val (.int q5), .val (.int q6), .val (.int q7), .val (.ref o8), .val (.ref em), .val .null] [(.ref b8), (.ref o8)])) rfl (by rw [hml]; rfl) (Steps.refl _) (argsL := [(.ref b8)]) (rest := []) (lenOf pd__28Ljava_2flang_2fObject_3b_29Z rfl) rfl (by show 2 * 0 + _ ≤ _; exact Nat.le_of_eq rfl) (hb hby at_554) (fun _ _ => ⟨rfl, e8, (show C1 + 5 + 0 ≤ 24 from by omega), (show S1 + 58 + 0 ≤ 3200 from by omega)⟩)
  dsimp only [Pt.U, Pt.locs, Pt.cells, Pt.slots] at X11 l11 y11 z11 st11 hQ11
  obtain ⟨rfl, N11q, e11⟩ := hQ11
  obtain ⟨lc11, X11, N11⟩ := own_pack X11 l11 y11 z11 N7 N11q (C := C1 + 5) (S' := S1 + 58) rfl rfl
  refine own_thrH (a := T11.setTop (mkF m 557 #[.val (.int p0), .val (.int p1), .val (.int p2), .val (.int p3), .val (.int q4), .val (.int q5), .val (.int q6), .val (.int q7), .val (.ref o8), .val (.ref em), .val .null] [(.int 0)])) (fun t kt => st11.trans kt) ?_
  refine own_thrH (a := T11.setTop (mkF m 572 #[.val (.int p0), .val (.int p1), .val (.int p2), .val (.int p3), .val (.int q4), .val (.int q5), .val (.int q6), .val (.int q7), .val (.ref o8), .val (.ref em), .val .null] [(.ref em)])) (fun t kt => ?_) ?_
  · refine XS.ifYes X11.here hx rfl (pc0 := 557) (pc' := 565) rfl (hb hby at_557) rfl ((if0 _ _).trans (teq rfl).1) (by decide) (by decide) ?_
    refine XS.aload X11.here hx rfl (hb hby at_565) rfl rfl ?_
    refine XS.ifnonnullNo X11.here hx rfl (hb hby at_567) rfl ?_
    refine XS.aload X11.here hx rfl (hb hby at_570) rfl rfl ?_
    exact kt
  obtain ⟨cq12, kq12, q12a, q12b, q12c⟩ := isOf hZ8 e11 (((E_em.keep K1).ext E4).ext E8)
  obtain ⟨_, _, ⟨T12, L12, k12, n12⟩, -, X12, ⟨Lc12, hQ12, l12, y12, z12⟩, st12⟩ := X11.virtualBack hx (y := (⟨"java/util/Optional", "isPresent", "()Z"⟩ : MethodName)) (z := (⟨"java/util/Optional", "isPresent", "()Z"⟩ : MethodName)) hown8 (mvT hZ8 (hw _ (own_i 85 rfl))) (mvT hZ8 (hw _ (own_i 86 rfl))) (notFace_of_selects (args := #[]) (mvT hZ8 (hw _ (own_i 88 rfl)))) (mvT hZ8 (hw _ (own_i 88 rfl))) (mvT hZ8 (hw _ (own_i 87 rfl))) (by decide) (backOf (W := 0) (rmP0 l Z a0 hw [] em h8 n0 Z9 (((F_em.keep K1 nin0).ext E4).ext E8)) hZ8 (hw _ (own_i 89 rfl)) (hw _ (own_i 65 rfl)) (by decide) (by decide)) q12a q12c (g := (mkF m 572 #[.val (.int p0), .val (.int p1), .val (.int p2), .val (.int p3), .val (.int q4), .val (.int q5), .val (.int q6), .val (.int q7), .val (.ref o8), .val (.ref em), .val .null] [(.ref em)])) rfl (by rw [hml]; rfl) (Steps.refl _) (argsL := []) (rest := []) (lenOf pd__28_29Z rfl) rfl (by show 2 * 0 + _ ≤ _; exact Nat.le_of_eq rfl) (hb hby at_572) (fun _ _ => ⟨rfl, e11, (show C1 + 5 + 0 ≤ 24 from by omega), (show S1 + 58 + 0 ≤ 3200 from by omega)⟩)
  dsimp only [Pt.U, Pt.locs, Pt.cells, Pt.slots] at X12 l12 y12 z12 st12 hQ12
  obtain ⟨rfl, N12q, e12⟩ := hQ12
  obtain ⟨lc12, X12, N12⟩ := own_pack X12 l12 y12 z12 N11 N12q (C := C1 + 5) (S' := S1 + 58) rfl rfl
  refine own_thrH (a := T12.setTop (mkF m 575 #[.val (.int p0), .val (.int p1), .val (.int p2), .val (.int p3), .val (.int q4), .val (.int q5), .val (.int q6), .val (.int q7), .val (.ref o8), .val (.ref em), .val .null] [(.int 0)])) (fun t kt => st12.trans kt) ?_
  refine own_thrH (a := T12.setTop (mkF m 583 #[.val (.int p0), .val (.int p1), .val (.int p2), .val (.int p3), .val (.int q4), .val (.int q5), .val (.int q6), .val (.int q7), .val (.ref o8), .val (.ref em), .val .null] [(.int 1)])) (fun t kt => ?_) ?_
  · refine XS.ifNo X12.here hx rfl (hb hby at_575) rfl ((if0 _ _).trans (teq rfl).2) ?_
    refine XS.iconst X12.here hx rfl (hb hby at_578) ?_
    refine XS.goto X12.here hx rfl (pc0 := 579) (pc' := 583) rfl (hb hby at_579) (by decide) (by decide) ?_
    exact kt
  exact own_endH X12 hS8 (by rw [e12]; exact hk8) hZ8 hEL CHl8 hh e12 hlk (v := some (.int 1)) (fun h => by rw [hret] at h; cases h) (fun fs hr => retN X12 hx (t := .boolean) hret (by simp) (hb hby at_583) hr) ⟨rfl, N12⟩ (show C1 + 5 ≤ 24 from by omega) (show S1 + 58 ≤ 3200 from by omega)
set_option maxRecDepth 65536 in
set_option maxHeartbeats 40000000 in
theorem own_tailD {p : Program} {l : Launch} {e : Env} {s : State} {m : MethodId} {below : List Frame} {meth : Method} {c : Code} {Z : State} {a0 : Array Value} (p0 : Int32) (p1 : Int32) (p2 : Int32) (p3 : Int32) (va : Addr) (kv : ClassId) (ou : Addr) (oq : Addr) (em : Addr) (flu : Addr) (fvu : Addr) (kfu : ClassId) (flq : Addr) (fvq : Addr) (kfq : ClassId) (cs : Int32) {h0 : Heap} {n0 : Nat} (hw : ∀ d ∈ tables_1, d.before a0 Z = true) (hx : p.tables.exec = Jvm.exec) (hby : c.code = code) (hml : c.maxLocals = 11) (hlk : meth.locks = false) (hret : meth.sig.returnType = ret) (hh : s.heap = h0) (hEL : EW Z a0 own_EL) {vm1 : Vm} {H1 : Heap} {k1 : Nat} (hZ : Z.Warmed39 (s.setVm vm1).vm) (hown : (s.setVm vm1).vm.findClass "com/example/durable_dispatch/durabledispatch/cli/OptionByFlagPinLaw" = some m.cls) (hS0 : s.Since vm1 k1) (hk0 : k1 ≤ H1.size) (CH0 : CHr Z own_EL s.vm h0 vm1 H1) (Z1 : n0 ≤ H1.size) (Zh : h0.size ≤ H1.size)
    (q4 q5 q6 q7 : Int32) (o8 : Addr) (sv : Addr) (ks : ClassId) (ln : Int32) (xs : List Value) (l9 l10 : Slot) (hl9 : l9 = .unset ∨ ∃ w : Value, l9 = .val w ∧ w.category = 1) (hl10 : l10 = .unset ∨ ∃ w : Value, l10 = .val w ∧ w.category = 1) (S_V : Sta Z Z.heap "com/example/durable_dispatch/durabledispatch/cli/Option" "$VALUES" "[Lcom/example/durable_dispatch/durabledispatch/cli/Option;" (.ref va)) (V_va : Arv Z Z.heap va kv (.object "com/example/durable_dispatch/durabledispatch/cli/Option") (2 : Int32) [(.ref ou), (.ref oq)] .null) (E_va : Exa Z Z.heap va "[Lcom/example/durable_dispatch/durabledispatch/cli/Option;") (hfit : Fit Z) (S_em : Sta Z Z.heap "java/util/Optional" "EMPTY" "Ljava/util/Optional;" (.ref em)) (S_cs : Sta Z Z.heap "java/lang/String" "COMPACT_STRINGS" "Z" (.int cs)) (hcs : ¬ cs = (0 : Int32)) (hO : Old Z n0 H1) (F_flu : Fld Z H1 ou "com/example/durable_dispatch/durabledispatch/cli/Option" "flag" "Ljava/lang/String;" (.ref flu)) (E_flu : Exa Z H1 flu "java/lang/String") (F_fvu : Fld Z H1 flu "java/lang/String" "value" "[B" (.ref fvu)) (F_fluc : Fld Z H1 flu "java/lang/String" "coder" "B" (.int 0)) (V_fvu : Arv Z H1 fvu kfu .byte (5 : Int32) [(.int 45), (.int 45), (.int 117), (.int 114), (.int 108)] (.int 0)) (F_flq : Fld Z H1 oq "com/example/durable_dispatch/durabledispatch/cli/Option" "flag" "Ljava/lang/String;" (.ref flq)) (E_flq : Exa Z H1 flq "java/lang/String") (F_fvq : Fld Z H1 flq "java/lang/String" "value" "[B" (.ref fvq)) (F_flqc : Fld Z H1 flq "java/lang/String" "coder" "B" (.int 0)) (V_fvq : Arv Z H1 fvq kfq .byte (7 : Int32) [(.int 45), (.int 45), (.int 113), (.int 117), (.int 101), (.int 117), (.int 101)] (.int 0)) (S_ou : Sta Z Z.heap "com/example/durable_dispatch/durabledispatch/cli/Option" "URL" "Lcom/example/durable_dispatch/durabledispatch/cli/Option;" (.ref ou)) (S_oq : Sta Z Z.heap "com/example/durable_dispatch/durabledispatch/cli/Option" "QUEUE" "Lcom/example/durable_dispatch/durabledispatch/cli/Option;" (.ref oq)) (E_em : Exa Z H1 em "java/util/Optional") (F_em : Fld Z H1 em "java/util/Optional" "value" "Ljava/lang/Object;" .null) (E_o8 : Exa Z H1 o8 "java/lang/String") (F_sv : Fld Z H1 o8 "java/lang/String" "value" "[B" (.ref sv)) (F_o8c : Fld Z H1 o8 "java/lang/String" "coder" "B" (.int 0)) (V_sv : Arv Z H1 sv ks .byte ln xs (.int 0)) (h5 : ¬ (5 : Int32) = ln) (h7 : ¬ (7 : Int32) = ln) (h5' : ¬ ln = (5 : Int32)) (h7' : ¬ ln = (7 : Int32)) {C1 S1 : Nat} (hC1 : C1 + 8 ≤ 24) (hS1 : S1 + 100 ≤ 3200) {T0 : State} {lc0 : List Loc} (X0 : Stand p l e room_1 (s.setVm vm1) m #[(.int p0), (.int p1), (.int p2), (.int p3)] below meth c T0 lc0 C1 S1) (N0 : Fr n0 lc0) (e0 : T0.heap = H1) : own_GH p.tables e below s Z own_EL (Q0 Z p0 p1 p2 p3 va kv ou oq em flu fvu kfu flq fvq kfq cs h0 n0) room_1.cells room_1.slots (T0.setTop (mkF m 510 #[.val (.int p0), .val (.int p1), .val (.int p2), .val (.int p3), .val (.int q4), .val (.int q5), .val (.int q6), .val (.int q7), .val (.ref o8), l9, l10] [])) := by
  refine own_thrH (a := T0.setTop (mkF m 512 #[.val (.int p0), .val (.int p1), .val (.int p2), .val (.int p3), .val (.int q4), .val (.int q5), .val (.int q6), .val (.int q7), .val (.ref o8), l9, l10] [(.ref o8)])) (fun t kt => ?_) ?_
  · refine XS.aload X0.here hx rfl (hb hby at_510) rfl rfl ?_
    exact kt
  obtain ⟨_, _, ⟨T1, L1, k1, n1⟩, -, X1, ⟨Lc1, hQ1, l1, y1, z1⟩, st1⟩ := Jvm.LawKit.callS X0 hx (y := (⟨"com/example/durable_dispatch/durabledispatch/cli/Option", "byFlag", "(Ljava/lang/String;)Ljava/util/Optional;"⟩ : MethodName)) hown (mvT hZ (hw _ (own_i 30 rfl))) (mvT hZ (hw _ (own_i 31 rfl))) (mvT hZ (hw _ (own_i 32 rfl))) (mvT hZ (hw _ (own_i 33 rfl))) (by decide) (backOf (W := 0) (rmBFD l Z a0 hw [] o8 va kv ou oq em flu fvu kfu flq fvq kfq cs sv ks ln xs H1 n0 Z1 S_V V_va E_va hfit S_em S_cs hcs hO F_flu E_flu F_fvu F_fluc V_fvu F_flq E_flq F_fvq F_flqc V_fvq E_o8 F_sv F_o8c V_sv h5 h7 h5' h7') hZ (hw _ (own_i 33 rfl)) (hw _ (own_i 32 rfl)) (by decide) (by decide)) (g := (mkF m 512 #[.val (.int p0), .val (.int p1), .val (.int p2), .val (.int p3), .val (.int q4), .val (.int q5), .val (.int q6), .val (.int q7), .val (.ref o8), l9, l10] [(.ref o8)])) rfl (by rw [hml]; rfl) (argsL := [(.ref o8)]) (rest := []) (lenOf pd__28Ljava_2flang_2fString_3b_29Ljava_2futil_2fOptional_3b rfl) rfl (by show 2 * 0 + _ ≤ _; exact Nat.le_of_eq rfl) (hb hby at_512) (fun _ _ => ⟨rfl, e0, (show C1 + 0 + 1 ≤ 24 from by omega), (show S1 + 0 + 2 ≤ 3200 from by omega)⟩)
  dsimp only [Pt.U, Pt.locs, Pt.cells, Pt.slots] at X1 l1 y1 z1 st1 hQ1
  obtain ⟨rfl, N1q, K1⟩ := hQ1
  have CH2 := CH0.trans (CHr.keep K1 all0 CH0.1)
  have Z3 : n0 ≤ T1.heap.size := Nat.le_trans Z1 K1.1
  have Z3h : h0.size ≤ T1.heap.size := Nat.le_trans Zh K1.1
  have Z3k := Nat.le_trans hk0 K1.1
  obtain ⟨lc1, X1, N1⟩ := own_pack X1 l1 y1 z1 N0 N1q (C := C1 + 1) (S' := S1 + 2) rfl rfl
  refine own_thrH (a := T1.setTop (mkF m 515 #[.val (.int p0), .val (.int p1), .val (.int p2), .val (.int p3), .val (.int q4), .val (.int q5), .val (.int q6), .val (.int q7), .val (.ref o8), l9, l10] [(.ref em)])) (fun t kt => st1 t kt) ?_
  refine own_thrH (a := T1.setTop (mkF m 534 #[.val (.int p0), .val (.int p1), .val (.int p2), .val (.int p3), .val (.int q4), .val (.int q5), .val (.int q6), .val (.int q7), .val (.ref o8), .val (.ref em), .val .null] [(.ref o8)])) (fun t kt => ?_) ?_
  · refine XS.astore X1.here hx rfl (hb hby at_515) rfl rfl (l' := #[.val (.int p0), .val (.int p1), .val (.int p2), .val (.int p3), .val (.int q4), .val (.int q5), .val (.int q6), .val (.int q7), .val (.ref o8), .val (.ref em), l10]) (by rcases hl9 with hq_ | ⟨wq_, hq_, hw_⟩ <;> rw [hq_] <;> first | rfl | (cases wq_ <;> first | rfl | (simp [Value.category] at hw_))) ?_
    refine XS.aload X1.here hx rfl (hb hby at_517) rfl rfl ?_
    refine XS.ifnonnullYes X1.here hx rfl (pc0 := 519) (pc' := 524) rfl (hb hby at_519) rfl (by decide) (by decide) ?_
    refine XS.aconstNull X1.here hx rfl (hb hby at_524) ?_
    refine XS.astore X1.here hx rfl (hb hby at_525) rfl rfl (l' := #[.val (.int p0), .val (.int p1), .val (.int p2), .val (.int p3), .val (.int q4), .val (.int q5), .val (.int q6), .val (.int q7), .val (.ref o8), .val (.ref em), .val .null]) (by rcases hl10 with hq_ | ⟨wq_, hq_, hw_⟩ <;> rw [hq_] <;> first | rfl | (cases wq_ <;> first | rfl | (simp [Value.category] at hw_))) ?_
    refine XS.aload X1.here hx rfl (hb hby at_527) rfl rfl ?_
    refine XS.ifnullNo X1.here hx rfl (hb hby at_529) rfl ?_
    refine XS.aload X1.here hx rfl (hb hby at_532) rfl rfl ?_
    exact kt
  obtain ⟨b4, T4, h4, kk4, d4, kc4, X4, e4, E4, hS4, hk4, hZ4, hown4, oE4, oC4, oV4, oA4, -, -, ch4, -, sfq4, st4⟩ := ldcCH X1 hx hZ hown (hw _ (own_i 80 rfl)) (fun a ha => hw a (own_sa a ha)) rfl hS0 Z3k hEL (by decide) CH2.1 (vs := [(.int 45), (.int 45), (.int 117), (.int 114), (.int 108)]) (z := (5 : Int32)) ⟨by decide, rfl⟩ (by decide) rfl (g := (mkF m 534 #[.val (.int p0), .val (.int p1), .val (.int p2), .val (.int p3), .val (.int q4), .val (.int q5), .val (.int q6), .val (.int q7), .val (.ref o8), .val (.ref em), .val .null] [(.ref o8)])) rfl (hb hby at_534) (n := 20) (by decide) (by decide) (show C1 + 1 + 2 ≤ 24 from by omega) (show S1 + 2 + 24 ≤ 3200 from by omega)
  have Z5 : n0 ≤ h4.size := Nat.le_trans Z3 E4.1
  have Z5h : h0.size ≤ h4.size := Nat.le_trans Z3h E4.1
  have CHl4 := CH2.trans ch4
  refine own_thrH (a := T4.setTop (mkF m 536 #[.val (.int p0), .val (.int p1), .val (.int p2), .val (.int p3), .val (.int q4), .val (.int q5), .val (.int q6), .val (.int q7), .val (.ref o8), .val (.ref em), .val .null] [(.ref b4), (.ref o8)])) (fun t kt => st4 t kt) ?_
  have S6 := S_cs.ext ((hO.keep K1 all0).ext E4).2
  obtain ⟨cq7, kq7, q7a, q7b, q7c⟩ := isOf hZ4 e4 ((E_o8.keep K1).ext E4)
  obtain ⟨_, _, ⟨T7, L7, k7, n7⟩, -, X7, ⟨Lc7, hQ7, l7, y7, z7⟩, st7⟩ := X4.virtualBack hx (y := (⟨"java/lang/String", "equals", "(Ljava/lang/Object;)Z"⟩ : MethodName)) (z := (⟨"java/lang/String", "equals", "(Ljava/lang/Object;)Z"⟩ : MethodName)) hown4 (mvT hZ4 (hw _ (own_i 83 rfl))) (mvT hZ4 (hw _ (own_i 54 rfl))) (notFace_of_selects (args := #[]) (mvT hZ4 (hw _ (own_i 56 rfl)))) (mvT hZ4 (hw _ (own_i 56 rfl))) (mvT hZ4 (hw _ (own_i 55 rfl))) (by decide) (backOf (W := 0) (rmEQD l Z a0 hw [] o8 b4 sv d4 ln (5 : Int32) xs [(.int 45), (.int 45), (.int 117), (.int 114), (.int 108)] ks kc4 cs h4 n0 Z5 ((E_o8.keep K1).ext E4) ((F_sv.keep K1 nin0).ext E4) ((F_o8c.keep K1 nin0).ext E4) oE4 oV4 oC4 ((V_sv.keep K1 nin0).ext E4) oA4 S6 hcs (own_sd ((F_sv.keep K1 nin0).ext E4) oV4 ((V_sv.keep K1 nin0).ext E4) oA4 h5') h5') hZ4 (hw _ (own_i 57 rfl)) (hw _ (own_i 2 rfl)) (by decide) (by decide)) q7a q7c (g := (mkF m 536 #[.val (.int p0), .val (.int p1), .val (.int p2), .val (.int p3), .val (.int q4), .val (.int q5), .val (.int q6), .val (.int q7), .val (.ref o8), .val (.ref em), .val .null] [(.ref b4), (.ref o8)])) rfl (by rw [hml]; rfl) (Steps.refl _) (argsL := [(.ref b4)]) (rest := []) (lenOf pd__28Ljava_2flang_2fObject_3b_29Z rfl) rfl (by show 2 * 0 + _ ≤ _; exact Nat.le_of_eq rfl) (hb hby at_536) (fun _ _ => ⟨rfl, e4, (show C1 + 3 + 0 ≤ 24 from by omega), (show S1 + 26 + 0 ≤ 3200 from by omega)⟩)
  dsimp only [Pt.U, Pt.locs, Pt.cells, Pt.slots] at X7 l7 y7 z7 st7 hQ7
  obtain ⟨rfl, N7q, e7⟩ := hQ7
  obtain ⟨lc7, X7, N7⟩ := own_pack X7 l7 y7 z7 N1 N7q (C := C1 + 3) (S' := S1 + 26) rfl rfl
  refine own_thrH (a := T7.setTop (mkF m 539 #[.val (.int p0), .val (.int p1), .val (.int p2), .val (.int p3), .val (.int q4), .val (.int q5), .val (.int q6), .val (.int q7), .val (.ref o8), .val (.ref em), .val .null] [(.int 0)])) (fun t kt => st7.trans kt) ?_
  refine own_thrH (a := T7.setTop (mkF m 552 #[.val (.int p0), .val (.int p1), .val (.int p2), .val (.int p3), .val (.int q4), .val (.int q5), .val (.int q6), .val (.int q7), .val (.ref o8), .val (.ref em), .val .null] [(.ref o8)])) (fun t kt => ?_) ?_
  · refine XS.ifYes X7.here hx rfl (pc0 := 539) (pc' := 550) rfl (hb hby at_539) rfl ((if0 _ _).trans (teq rfl).1) (by decide) (by decide) ?_
    refine XS.aload X7.here hx rfl (hb hby at_550) rfl rfl ?_
    exact kt
  obtain ⟨b8, T8, h8, kk8, d8, kc8, X8, e8, E8, hS8, hk8, hZ8, hown8, oE8, oC8, oV8, oA8, -, -, ch8, -, sfq8, st8⟩ := ldcCH X7 hx hZ4 hown4 (hw _ (own_i 111 rfl)) (fun a ha => hw a (own_sa a ha)) e7 hS4 hk4 hEL (by decide) CHl4.1 (vs := [(.int 45), (.int 45), (.int 113), (.int 117), (.int 101), (.int 117), (.int 101)]) (z := (7 : Int32)) ⟨by decide, rfl⟩ (by decide) rfl (g := (mkF m 552 #[.val (.int p0), .val (.int p1), .val (.int p2), .val (.int p3), .val (.int q4), .val (.int q5), .val (.int q6), .val (.int q7), .val (.ref o8), .val (.ref em), .val .null] [(.ref o8)])) rfl (hb hby at_552) (n := 28) (by decide) (by decide) (show C1 + 3 + 2 ≤ 24 from by omega) (show S1 + 26 + 32 ≤ 3200 from by omega)
  have Z9 : n0 ≤ h8.size := Nat.le_trans Z5 E8.1
  have Z9h : h0.size ≤ h8.size := Nat.le_trans Z5h E8.1
  have CHl8 := CHl4.trans ch8
  refine own_thrH (a := T8.setTop (mkF m 554 #[.val (.int p0), .val (.int p1), .val (.int p2), .val (.int p3), .val (.int q4), .val (.int q5), .val (.int q6), .val (.int q7), .val (.ref o8), .val (.ref em), .val .null] [(.ref b8), (.ref o8)])) (fun t kt => st8 t kt) ?_
  have S10 := S_cs.ext (((hO.keep K1 all0).ext E4).ext E8).2
  obtain ⟨cq11, kq11, q11a, q11b, q11c⟩ := isOf hZ8 e8 (((E_o8.keep K1).ext E4).ext E8)
  obtain ⟨_, _, ⟨T11, L11, k11, n11⟩, -, X11, ⟨Lc11, hQ11, l11, y11, z11⟩, st11⟩ := X8.virtualBack hx (y := (⟨"java/lang/String", "equals", "(Ljava/lang/Object;)Z"⟩ : MethodName)) (z := (⟨"java/lang/String", "equals", "(Ljava/lang/Object;)Z"⟩ : MethodName)) hown8 (mvT hZ8 (hw _ (own_i 83 rfl))) (mvT hZ8 (hw _ (own_i 54 rfl))) (notFace_of_selects (args := #[]) (mvT hZ8 (hw _ (own_i 56 rfl)))) (mvT hZ8 (hw _ (own_i 56 rfl))) (mvT hZ8 (hw _ (own_i 55 rfl))) (by decide) (backOf (W := 0) (rmEQD l Z a0 hw [] o8 b8 sv d8 ln (7 : Int32) xs [(.int 45), (.int 45), (.int 113), (.int 117), (.int 101), (.int 117), (.int 101)] ks kc8 cs h8 n0 Z9 (((E_o8.keep K1).ext E4).ext E8) (((F_sv.keep K1 nin0).ext E4).ext E8) (((F_o8c.keep K1 nin0).ext E4).ext E8) oE8 oV8 oC8 (((V_sv.keep K1 nin0).ext E4).ext E8) oA8 S10 hcs (own_sd (((F_sv.keep K1 nin0).ext E4).ext E8) oV8 (((V_sv.keep K1 nin0).ext E4).ext E8) oA8 h7') h7') hZ8 (hw _ (own_i 57 rfl)) (hw _ (own_i 2 rfl)) (by decide) (by decide)) q11a q11c (g := (mkF m 554 #[.val (.int p0), .val (.int p1), .val (.int p2), .val (.int p3), .val (.int q4), .val (.int q5), .val (.int q6), .val (.int q7), .val (.ref o8), .val (.ref em), .val .null] [(.ref b8), (.ref o8)])) rfl (by rw [hml]; rfl) (Steps.refl _) (argsL := [(.ref b8)]) (rest := []) (lenOf pd__28Ljava_2flang_2fObject_3b_29Z rfl) rfl (by show 2 * 0 + _ ≤ _; exact Nat.le_of_eq rfl) (hb hby at_554) (fun _ _ => ⟨rfl, e8, (show C1 + 5 + 0 ≤ 24 from by omega), (show S1 + 58 + 0 ≤ 3200 from by omega)⟩)
  dsimp only [Pt.U, Pt.locs, Pt.cells, Pt.slots] at X11 l11 y11 z11 st11 hQ11
  obtain ⟨rfl, N11q, e11⟩ := hQ11
  obtain ⟨lc11, X11, N11⟩ := own_pack X11 l11 y11 z11 N7 N11q (C := C1 + 5) (S' := S1 + 58) rfl rfl
  refine own_thrH (a := T11.setTop (mkF m 557 #[.val (.int p0), .val (.int p1), .val (.int p2), .val (.int p3), .val (.int q4), .val (.int q5), .val (.int q6), .val (.int q7), .val (.ref o8), .val (.ref em), .val .null] [(.int 0)])) (fun t kt => st11.trans kt) ?_
  refine own_thrH (a := T11.setTop (mkF m 572 #[.val (.int p0), .val (.int p1), .val (.int p2), .val (.int p3), .val (.int q4), .val (.int q5), .val (.int q6), .val (.int q7), .val (.ref o8), .val (.ref em), .val .null] [(.ref em)])) (fun t kt => ?_) ?_
  · refine XS.ifYes X11.here hx rfl (pc0 := 557) (pc' := 565) rfl (hb hby at_557) rfl ((if0 _ _).trans (teq rfl).1) (by decide) (by decide) ?_
    refine XS.aload X11.here hx rfl (hb hby at_565) rfl rfl ?_
    refine XS.ifnonnullNo X11.here hx rfl (hb hby at_567) rfl ?_
    refine XS.aload X11.here hx rfl (hb hby at_570) rfl rfl ?_
    exact kt
  obtain ⟨cq12, kq12, q12a, q12b, q12c⟩ := isOf hZ8 e11 (((E_em.keep K1).ext E4).ext E8)
  obtain ⟨_, _, ⟨T12, L12, k12, n12⟩, -, X12, ⟨Lc12, hQ12, l12, y12, z12⟩, st12⟩ := X11.virtualBack hx (y := (⟨"java/util/Optional", "isPresent", "()Z"⟩ : MethodName)) (z := (⟨"java/util/Optional", "isPresent", "()Z"⟩ : MethodName)) hown8 (mvT hZ8 (hw _ (own_i 85 rfl))) (mvT hZ8 (hw _ (own_i 86 rfl))) (notFace_of_selects (args := #[]) (mvT hZ8 (hw _ (own_i 88 rfl)))) (mvT hZ8 (hw _ (own_i 88 rfl))) (mvT hZ8 (hw _ (own_i 87 rfl))) (by decide) (backOf (W := 0) (rmP0 l Z a0 hw [] em h8 n0 Z9 (((F_em.keep K1 nin0).ext E4).ext E8)) hZ8 (hw _ (own_i 89 rfl)) (hw _ (own_i 65 rfl)) (by decide) (by decide)) q12a q12c (g := (mkF m 572 #[.val (.int p0), .val (.int p1), .val (.int p2), .val (.int p3), .val (.int q4), .val (.int q5), .val (.int q6), .val (.int q7), .val (.ref o8), .val (.ref em), .val .null] [(.ref em)])) rfl (by rw [hml]; rfl) (Steps.refl _) (argsL := []) (rest := []) (lenOf pd__28_29Z rfl) rfl (by show 2 * 0 + _ ≤ _; exact Nat.le_of_eq rfl) (hb hby at_572) (fun _ _ => ⟨rfl, e11, (show C1 + 5 + 0 ≤ 24 from by omega), (show S1 + 58 + 0 ≤ 3200 from by omega)⟩)
  dsimp only [Pt.U, Pt.locs, Pt.cells, Pt.slots] at X12 l12 y12 z12 st12 hQ12
  obtain ⟨rfl, N12q, e12⟩ := hQ12
  obtain ⟨lc12, X12, N12⟩ := own_pack X12 l12 y12 z12 N11 N12q (C := C1 + 5) (S' := S1 + 58) rfl rfl
  refine own_thrH (a := T12.setTop (mkF m 575 #[.val (.int p0), .val (.int p1), .val (.int p2), .val (.int p3), .val (.int q4), .val (.int q5), .val (.int q6), .val (.int q7), .val (.ref o8), .val (.ref em), .val .null] [(.int 0)])) (fun t kt => st12.trans kt) ?_
  refine own_thrH (a := T12.setTop (mkF m 583 #[.val (.int p0), .val (.int p1), .val (.int p2), .val (.int p3), .val (.int q4), .val (.int q5), .val (.int q6), .val (.int q7), .val (.ref o8), .val (.ref em), .val .null] [(.int 1)])) (fun t kt => ?_) ?_
  · refine XS.ifNo X12.here hx rfl (hb hby at_575) rfl ((if0 _ _).trans (teq rfl).2) ?_
    refine XS.iconst X12.here hx rfl (hb hby at_578) ?_
    refine XS.goto X12.here hx rfl (pc0 := 579) (pc' := 583) rfl (hb hby at_579) (by decide) (by decide) ?_
    exact kt
  exact own_endH X12 hS8 (by rw [e12]; exact hk8) hZ8 hEL CHl8 hh e12 hlk (v := some (.int 1)) (fun h => by rw [hret] at h; cases h) (fun fs hr => retN X12 hx (t := .boolean) hret (by simp) (hb hby at_583) hr) ⟨rfl, N12⟩ (show C1 + 5 ≤ 24 from by omega) (show S1 + 58 ≤ 3200 from by omega)
set_option maxRecDepth 65536 in
set_option maxHeartbeats 40000000 in
theorem own_tailN {p : Program} {l : Launch} {e : Env} {s : State} {m : MethodId} {below : List Frame} {meth : Method} {c : Code} {Z : State} {a0 : Array Value} (p0 : Int32) (p1 : Int32) (p2 : Int32) (p3 : Int32) (va : Addr) (kv : ClassId) (ou : Addr) (oq : Addr) (em : Addr) (flu : Addr) (fvu : Addr) (kfu : ClassId) (flq : Addr) (fvq : Addr) (kfq : ClassId) (cs : Int32) {h0 : Heap} {n0 : Nat} (hw : ∀ d ∈ tables_1, d.before a0 Z = true) (hx : p.tables.exec = Jvm.exec) (hby : c.code = code) (hml : c.maxLocals = 11) (hlk : meth.locks = false) (hret : meth.sig.returnType = ret) (hh : s.heap = h0) (hEL : EW Z a0 own_EL) {vm1 : Vm} {H1 : Heap} {k1 : Nat} (hZ : Z.Warmed39 (s.setVm vm1).vm) (hown : (s.setVm vm1).vm.findClass "com/example/durable_dispatch/durabledispatch/cli/OptionByFlagPinLaw" = some m.cls) (hS0 : s.Since vm1 k1) (hk0 : k1 ≤ H1.size) (CH0 : CHr Z own_EL s.vm h0 vm1 H1) (Z1 : n0 ≤ H1.size) (Zh : h0.size ≤ H1.size)
    (q4 q5 q6 q7 : Int32) (l9 l10 : Slot) (hl9 : l9 = .unset ∨ ∃ w : Value, l9 = .val w ∧ w.category = 1) (hl10 : l10 = .unset ∨ ∃ w : Value, l10 = .val w ∧ w.category = 1) (S_V : Sta Z Z.heap "com/example/durable_dispatch/durabledispatch/cli/Option" "$VALUES" "[Lcom/example/durable_dispatch/durabledispatch/cli/Option;" (.ref va)) (V_va : Arv Z Z.heap va kv (.object "com/example/durable_dispatch/durabledispatch/cli/Option") (2 : Int32) [(.ref ou), (.ref oq)] .null) (E_va : Exa Z Z.heap va "[Lcom/example/durable_dispatch/durabledispatch/cli/Option;") (hfit : Fit Z) (S_em : Sta Z Z.heap "java/util/Optional" "EMPTY" "Ljava/util/Optional;" (.ref em)) (S_cs : Sta Z Z.heap "java/lang/String" "COMPACT_STRINGS" "Z" (.int cs)) (hcs : ¬ cs = (0 : Int32)) (hO : Old Z n0 H1) (F_flu : Fld Z H1 ou "com/example/durable_dispatch/durabledispatch/cli/Option" "flag" "Ljava/lang/String;" (.ref flu)) (E_flu : Exa Z H1 flu "java/lang/String") (F_fvu : Fld Z H1 flu "java/lang/String" "value" "[B" (.ref fvu)) (F_fluc : Fld Z H1 flu "java/lang/String" "coder" "B" (.int 0)) (V_fvu : Arv Z H1 fvu kfu .byte (5 : Int32) [(.int 45), (.int 45), (.int 117), (.int 114), (.int 108)] (.int 0)) (F_flq : Fld Z H1 oq "com/example/durable_dispatch/durabledispatch/cli/Option" "flag" "Ljava/lang/String;" (.ref flq)) (E_flq : Exa Z H1 flq "java/lang/String") (F_fvq : Fld Z H1 flq "java/lang/String" "value" "[B" (.ref fvq)) (F_flqc : Fld Z H1 flq "java/lang/String" "coder" "B" (.int 0)) (V_fvq : Arv Z H1 fvq kfq .byte (7 : Int32) [(.int 45), (.int 45), (.int 113), (.int 117), (.int 101), (.int 117), (.int 101)] (.int 0)) (S_ou : Sta Z Z.heap "com/example/durable_dispatch/durabledispatch/cli/Option" "URL" "Lcom/example/durable_dispatch/durabledispatch/cli/Option;" (.ref ou)) (S_oq : Sta Z Z.heap "com/example/durable_dispatch/durabledispatch/cli/Option" "QUEUE" "Lcom/example/durable_dispatch/durabledispatch/cli/Option;" (.ref oq)) (E_em : Exa Z H1 em "java/util/Optional") (F_em : Fld Z H1 em "java/util/Optional" "value" "Ljava/lang/Object;" .null) {C1 S1 : Nat} (hC1 : C1 + 8 ≤ 24) (hS1 : S1 + 100 ≤ 3200) {T0 : State} {lc0 : List Loc} (X0 : Stand p l e room_1 (s.setVm vm1) m #[(.int p0), (.int p1), (.int p2), (.int p3)] below meth c T0 lc0 C1 S1) (N0 : Fr n0 lc0) (e0 : T0.heap = H1) : own_GH p.tables e below s Z own_EL (Q0 Z p0 p1 p2 p3 va kv ou oq em flu fvu kfu flq fvq kfq cs h0 n0) room_1.cells room_1.slots (T0.setTop (mkF m 510 #[.val (.int p0), .val (.int p1), .val (.int p2), .val (.int p3), .val (.int q4), .val (.int q5), .val (.int q6), .val (.int q7), .val .null, l9, l10] [])) := by
  refine own_thrH (a := T0.setTop (mkF m 512 #[.val (.int p0), .val (.int p1), .val (.int p2), .val (.int p3), .val (.int q4), .val (.int q5), .val (.int q6), .val (.int q7), .val .null, l9, l10] [.null])) (fun t kt => ?_) ?_
  · refine XS.aload X0.here hx rfl (hb hby at_510) rfl rfl ?_
    exact kt
  obtain ⟨_, _, ⟨T1, L1, k1, n1⟩, -, X1, ⟨Lc1, hQ1, l1, y1, z1⟩, st1⟩ := Jvm.LawKit.callS X0 hx (y := (⟨"com/example/durable_dispatch/durabledispatch/cli/Option", "byFlag", "(Ljava/lang/String;)Ljava/util/Optional;"⟩ : MethodName)) hown (mvT hZ (hw _ (own_i 30 rfl))) (mvT hZ (hw _ (own_i 31 rfl))) (mvT hZ (hw _ (own_i 32 rfl))) (mvT hZ (hw _ (own_i 33 rfl))) (by decide) (backOf (W := 0) (rmBFN l Z a0 hw [] va kv ou oq em flu fvu kfu flq fvq kfq cs H1 n0 Z1 S_V V_va E_va hfit S_em S_cs hcs hO F_flu E_flu F_fvu F_fluc V_fvu F_flq E_flq F_fvq F_flqc V_fvq) hZ (hw _ (own_i 33 rfl)) (hw _ (own_i 32 rfl)) (by decide) (by decide)) (g := (mkF m 512 #[.val (.int p0), .val (.int p1), .val (.int p2), .val (.int p3), .val (.int q4), .val (.int q5), .val (.int q6), .val (.int q7), .val .null, l9, l10] [.null])) rfl (by rw [hml]; rfl) (argsL := [.null]) (rest := []) (lenOf pd__28Ljava_2flang_2fString_3b_29Ljava_2futil_2fOptional_3b rfl) rfl (by show 2 * 0 + _ ≤ _; exact Nat.le_of_eq rfl) (hb hby at_512) (fun _ _ => ⟨rfl, e0, (show C1 + 0 + 1 ≤ 24 from by omega), (show S1 + 0 + 2 ≤ 3200 from by omega)⟩)
  dsimp only [Pt.U, Pt.locs, Pt.cells, Pt.slots] at X1 l1 y1 z1 st1 hQ1
  obtain ⟨rfl, N1q, K1⟩ := hQ1
  have CH2 := CH0.trans (CHr.keep K1 all0 CH0.1)
  have Z3 : n0 ≤ T1.heap.size := Nat.le_trans Z1 K1.1
  have Z3h : h0.size ≤ T1.heap.size := Nat.le_trans Zh K1.1
  have Z3k := Nat.le_trans hk0 K1.1
  obtain ⟨lc1, X1, N1⟩ := own_pack X1 l1 y1 z1 N0 N1q (C := C1 + 1) (S' := S1 + 2) rfl rfl
  refine own_thrH (a := T1.setTop (mkF m 515 #[.val (.int p0), .val (.int p1), .val (.int p2), .val (.int p3), .val (.int q4), .val (.int q5), .val (.int q6), .val (.int q7), .val .null, l9, l10] [(.ref em)])) (fun t kt => st1 t kt) ?_
  refine own_thrH (a := T1.setTop (mkF m 572 #[.val (.int p0), .val (.int p1), .val (.int p2), .val (.int p3), .val (.int q4), .val (.int q5), .val (.int q6), .val (.int q7), .val .null, .val (.ref em), .val .null] [(.ref em)])) (fun t kt => ?_) ?_
  · refine XS.astore X1.here hx rfl (hb hby at_515) rfl rfl (l' := #[.val (.int p0), .val (.int p1), .val (.int p2), .val (.int p3), .val (.int q4), .val (.int q5), .val (.int q6), .val (.int q7), .val .null, .val (.ref em), l10]) (by rcases hl9 with hq_ | ⟨wq_, hq_, hw_⟩ <;> rw [hq_] <;> first | rfl | (cases wq_ <;> first | rfl | (simp [Value.category] at hw_))) ?_
    refine XS.aload X1.here hx rfl (hb hby at_517) rfl rfl ?_
    refine XS.ifnonnullYes X1.here hx rfl (pc0 := 519) (pc' := 524) rfl (hb hby at_519) rfl (by decide) (by decide) ?_
    refine XS.aconstNull X1.here hx rfl (hb hby at_524) ?_
    refine XS.astore X1.here hx rfl (hb hby at_525) rfl rfl (l' := #[.val (.int p0), .val (.int p1), .val (.int p2), .val (.int p3), .val (.int q4), .val (.int q5), .val (.int q6), .val (.int q7), .val .null, .val (.ref em), .val .null]) (by rcases hl10 with hq_ | ⟨wq_, hq_, hw_⟩ <;> rw [hq_] <;> first | rfl | (cases wq_ <;> first | rfl | (simp [Value.category] at hw_))) ?_
    refine XS.aload X1.here hx rfl (hb hby at_527) rfl rfl ?_
    refine XS.ifnullYes X1.here hx rfl (pc0 := 529) (pc' := 565) rfl (hb hby at_529) rfl (by decide) (by decide) ?_
    refine XS.aload X1.here hx rfl (hb hby at_565) rfl rfl ?_
    refine XS.ifnonnullNo X1.here hx rfl (hb hby at_567) rfl ?_
    refine XS.aload X1.here hx rfl (hb hby at_570) rfl rfl ?_
    exact kt
  obtain ⟨cq4, kq4, q4a, q4b, q4c⟩ := isOf hZ rfl (E_em.keep K1)
  obtain ⟨_, _, ⟨T4, L4, k4, n4⟩, -, X4, ⟨Lc4, hQ4, l4, y4, z4⟩, st4⟩ := X1.virtualBack hx (y := (⟨"java/util/Optional", "isPresent", "()Z"⟩ : MethodName)) (z := (⟨"java/util/Optional", "isPresent", "()Z"⟩ : MethodName)) hown (mvT hZ (hw _ (own_i 85 rfl))) (mvT hZ (hw _ (own_i 86 rfl))) (notFace_of_selects (args := #[]) (mvT hZ (hw _ (own_i 88 rfl)))) (mvT hZ (hw _ (own_i 88 rfl))) (mvT hZ (hw _ (own_i 87 rfl))) (by decide) (backOf (W := 0) (rmP0 l Z a0 hw [] em T1.heap n0 Z3 (F_em.keep K1 nin0)) hZ (hw _ (own_i 89 rfl)) (hw _ (own_i 65 rfl)) (by decide) (by decide)) q4a q4c (g := (mkF m 572 #[.val (.int p0), .val (.int p1), .val (.int p2), .val (.int p3), .val (.int q4), .val (.int q5), .val (.int q6), .val (.int q7), .val .null, .val (.ref em), .val .null] [(.ref em)])) rfl (by rw [hml]; rfl) (Steps.refl _) (argsL := []) (rest := []) (lenOf pd__28_29Z rfl) rfl (by show 2 * 0 + _ ≤ _; exact Nat.le_of_eq rfl) (hb hby at_572) (fun _ _ => ⟨rfl, rfl, (show C1 + 1 + 0 ≤ 24 from by omega), (show S1 + 2 + 0 ≤ 3200 from by omega)⟩)
  dsimp only [Pt.U, Pt.locs, Pt.cells, Pt.slots] at X4 l4 y4 z4 st4 hQ4
  obtain ⟨rfl, N4q, e4⟩ := hQ4
  obtain ⟨lc4, X4, N4⟩ := own_pack X4 l4 y4 z4 N1 N4q (C := C1 + 1) (S' := S1 + 2) rfl rfl
  refine own_thrH (a := T4.setTop (mkF m 575 #[.val (.int p0), .val (.int p1), .val (.int p2), .val (.int p3), .val (.int q4), .val (.int q5), .val (.int q6), .val (.int q7), .val .null, .val (.ref em), .val .null] [(.int 0)])) (fun t kt => st4.trans kt) ?_
  refine own_thrH (a := T4.setTop (mkF m 583 #[.val (.int p0), .val (.int p1), .val (.int p2), .val (.int p3), .val (.int q4), .val (.int q5), .val (.int q6), .val (.int q7), .val .null, .val (.ref em), .val .null] [(.int 1)])) (fun t kt => ?_) ?_
  · refine XS.ifNo X4.here hx rfl (hb hby at_575) rfl ((if0 _ _).trans (teq rfl).2) ?_
    refine XS.iconst X4.here hx rfl (hb hby at_578) ?_
    refine XS.goto X4.here hx rfl (pc0 := 579) (pc' := 583) rfl (hb hby at_579) (by decide) (by decide) ?_
    exact kt
  exact own_endH X4 hS0 (by rw [e4]; exact Z3k) hZ hEL CH2 hh e4 hlk (v := some (.int 1)) (fun h => by rw [hret] at h; cases h) (fun fs hr => retN X4 hx (t := .boolean) hret (by simp) (hb hby at_583) hr) ⟨rfl, N4⟩ (show C1 + 1 ≤ 24 from by omega) (show S1 + 2 ≤ 3200 from by omega)
theorem own_set5 (c0 c1 c2 c3 c4 v : Int32) (j : Nat) (g0 : ¬ c0 < 0 ∧ ¬ (255 : Int32) < c0) (g1 : ¬ c1 < 0 ∧ ¬ (255 : Int32) < c1) (g2 : ¬ c2 < 0 ∧ ¬ (255 : Int32) < c2) (g3 : ¬ c3 < 0 ∧ ¬ (255 : Int32) < c3) (g4 : ¬ c4 < 0 ∧ ¬ (255 : Int32) < c4) (gv : ¬ v < 0 ∧ ¬ (255 : Int32) < v) : ∃ d0 d1 d2 d3 d4 : Int32, ([(.int c0), (.int c1), (.int c2), (.int c3), (.int c4)] : List Value).set j (.int v) = [(.int d0), (.int d1), (.int d2), (.int d3), (.int d4)] ∧ (¬ d0 < 0 ∧ ¬ (255 : Int32) < d0) ∧ (¬ d1 < 0 ∧ ¬ (255 : Int32) < d1) ∧ (¬ d2 < 0 ∧ ¬ (255 : Int32) < d2) ∧ (¬ d3 < 0 ∧ ¬ (255 : Int32) < d3) ∧ (¬ d4 < 0 ∧ ¬ (255 : Int32) < d4) := by
  match j with
  | 0 => exact ⟨v, c1, c2, c3, c4, rfl, gv, g1, g2, g3, g4⟩
  | 1 => exact ⟨c0, v, c2, c3, c4, rfl, g0, gv, g2, g3, g4⟩
  | 2 => exact ⟨c0, c1, v, c3, c4, rfl, g0, g1, gv, g3, g4⟩
  | 3 => exact ⟨c0, c1, c2, v, c4, rfl, g0, g1, g2, gv, g4⟩
  | 4 => exact ⟨c0, c1, c2, c3, v, rfl, g0, g1, g2, g3, gv⟩
  | k + 5 => exact ⟨c0, c1, c2, c3, c4, rfl, g0, g1, g2, g3, g4⟩
theorem own_set7 (c0 c1 c2 c3 c4 c5 c6 v : Int32) (j : Nat) (g0 : ¬ c0 < 0 ∧ ¬ (255 : Int32) < c0) (g1 : ¬ c1 < 0 ∧ ¬ (255 : Int32) < c1) (g2 : ¬ c2 < 0 ∧ ¬ (255 : Int32) < c2) (g3 : ¬ c3 < 0 ∧ ¬ (255 : Int32) < c3) (g4 : ¬ c4 < 0 ∧ ¬ (255 : Int32) < c4) (g5 : ¬ c5 < 0 ∧ ¬ (255 : Int32) < c5) (g6 : ¬ c6 < 0 ∧ ¬ (255 : Int32) < c6) (gv : ¬ v < 0 ∧ ¬ (255 : Int32) < v) : ∃ d0 d1 d2 d3 d4 d5 d6 : Int32, ([(.int c0), (.int c1), (.int c2), (.int c3), (.int c4), (.int c5), (.int c6)] : List Value).set j (.int v) = [(.int d0), (.int d1), (.int d2), (.int d3), (.int d4), (.int d5), (.int d6)] ∧ (¬ d0 < 0 ∧ ¬ (255 : Int32) < d0) ∧ (¬ d1 < 0 ∧ ¬ (255 : Int32) < d1) ∧ (¬ d2 < 0 ∧ ¬ (255 : Int32) < d2) ∧ (¬ d3 < 0 ∧ ¬ (255 : Int32) < d3) ∧ (¬ d4 < 0 ∧ ¬ (255 : Int32) < d4) ∧ (¬ d5 < 0 ∧ ¬ (255 : Int32) < d5) ∧ (¬ d6 < 0 ∧ ¬ (255 : Int32) < d6) := by
  match j with
  | 0 => exact ⟨v, c1, c2, c3, c4, c5, c6, rfl, gv, g1, g2, g3, g4, g5, g6⟩
  | 1 => exact ⟨c0, v, c2, c3, c4, c5, c6, rfl, g0, gv, g2, g3, g4, g5, g6⟩
  | 2 => exact ⟨c0, c1, v, c3, c4, c5, c6, rfl, g0, g1, gv, g3, g4, g5, g6⟩
  | 3 => exact ⟨c0, c1, c2, v, c4, c5, c6, rfl, g0, g1, g2, gv, g4, g5, g6⟩
  | 4 => exact ⟨c0, c1, c2, c3, v, c5, c6, rfl, g0, g1, g2, g3, gv, g5, g6⟩
  | 5 => exact ⟨c0, c1, c2, c3, c4, v, c6, rfl, g0, g1, g2, g3, g4, gv, g6⟩
  | 6 => exact ⟨c0, c1, c2, c3, c4, c5, v, rfl, g0, g1, g2, g3, g4, g5, gv⟩
  | k + 7 => exact ⟨c0, c1, c2, c3, c4, c5, c6, rfl, g0, g1, g2, g3, g4, g5, g6⟩
theorem own_rem (x n : Int32) (h0 : 0 ≤ x.toInt) (hn : 0 < n.toInt) : (¬ x % n < 0 ∧ x % n < n) ∧ (x % n).toNatClampNeg < n.toNatClampNeg := by
  have h := Int32.toInt_mod x n
  have h1 : x.toInt.tmod n.toInt = x.toInt % n.toInt := Int.tmod_eq_emod_of_nonneg h0
  have h2 := Int.emod_nonneg x.toInt (show n.toInt ≠ 0 by omega)
  have h3 := Int.emod_lt_of_pos x.toInt hn
  have hz : (0 : Int32).toInt = 0 := rfl
  rw [h1] at h
  refine ⟨⟨?_, ?_⟩, ?_⟩
  · rw [Int32.lt_iff_toInt_lt]; omega
  · rw [Int32.lt_iff_toInt_lt]; omega
  · show (x % n).toInt.toNat < n.toInt.toNat
    omega
theorem own_p1 (x : Int32) : 0 ≤ (x &&& (2147483647 : Int32)).toInt := by
  rw [c_mask x 2147483647 31 (by decide) (by decide)]; exact Int.emod_nonneg _ (by decide)
theorem own_p2 (x : Int32) : 0 ≤ (x &&& (32767 : Int32)).toInt := by
  rw [c_mask x 32767 15 (by decide) (by decide)]; exact Int.emod_nonneg _ (by decide)
theorem pd__28_5bC_29V : parseMethodDescriptor "([C)V" = some ⟨[(.array .char)], none⟩ := by decide +kernel
theorem pd__28C_29Ljava_2flang_2fString_3b : parseMethodDescriptor "(C)Ljava/lang/String;" = some ⟨[.char], some (.object "java/lang/String")⟩ := by decide +kernel
theorem pn_com_example_durable_dispatch_durabledispatch_cli_OptionByFlagPinLaw : plainName "com/example/durable_dispatch/durabledispatch/cli/OptionByFlagPinLaw" = true := by first | (simp [plainName, overriddenIn]; done) | decide +kernel
theorem ef_rm0 (m : MethodId) (p0 : Int32) (p1 : Int32) (p2 : Int32) (p3 : Int32)  : entryFrame m #[(.int p0), (.int p1), (.int p2), (.int p3)] maxLocals = mkF m 0 #[.val (.int p0), .val (.int p1), .val (.int p2), .val (.int p3), .unset, .unset, .unset, .unset, .unset, .unset, .unset] [] := by first |  (simp [entryFrame, mkF, argsToLocals, Value.category, maxLocals]; done) | rfl
set_option maxRecDepth 65536 in
set_option maxHeartbeats 40000000 in
theorem rm0 (l : Launch) (Z : State) (a0 : Array Value) (hw : ∀ d ∈ tables_1, d.before a0 Z = true) (ws : List Jvm.Cond) (p0 : Int32) (p1 : Int32) (p2 : Int32) (p3 : Int32) (va : Addr) (kv : ClassId) (ou : Addr) (oq : Addr) (em : Addr) (flu : Addr) (fvu : Addr) (kfu : ClassId) (flq : Addr) (fvq : Addr) (kfq : ClassId) (cs : Int32) (h0 : Heap) (n0 : Nat) (Z0 : n0 ≤ h0.size) (S_V : Sta Z Z.heap "com/example/durable_dispatch/durabledispatch/cli/Option" "$VALUES" "[Lcom/example/durable_dispatch/durabledispatch/cli/Option;" (.ref va)) (V_va : Arv Z Z.heap va kv (.object "com/example/durable_dispatch/durabledispatch/cli/Option") (2 : Int32) [(.ref ou), (.ref oq)] .null) (E_va : Exa Z Z.heap va "[Lcom/example/durable_dispatch/durabledispatch/cli/Option;") (hfit : Fit Z) (S_em : Sta Z Z.heap "java/util/Optional" "EMPTY" "Ljava/util/Optional;" (.ref em)) (S_cs : Sta Z Z.heap "java/lang/String" "COMPACT_STRINGS" "Z" (.int cs)) (hcs : ¬ cs = (0 : Int32)) (hO : Old Z n0 h0) (F_flu : Fld Z h0 ou "com/example/durable_dispatch/durabledispatch/cli/Option" "flag" "Ljava/lang/String;" (.ref flu)) (E_flu : Exa Z h0 flu "java/lang/String") (F_fvu : Fld Z h0 flu "java/lang/String" "value" "[B" (.ref fvu)) (F_fluc : Fld Z h0 flu "java/lang/String" "coder" "B" (.int 0)) (V_fvu : Arv Z h0 fvu kfu .byte (5 : Int32) [(.int 45), (.int 45), (.int 117), (.int 114), (.int 108)] (.int 0)) (F_flq : Fld Z h0 oq "com/example/durable_dispatch/durabledispatch/cli/Option" "flag" "Ljava/lang/String;" (.ref flq)) (E_flq : Exa Z h0 flq "java/lang/String") (F_fvq : Fld Z h0 flq "java/lang/String" "value" "[B" (.ref fvq)) (F_flqc : Fld Z h0 flq "java/lang/String" "coder" "B" (.int 0)) (V_fvq : Arv Z h0 fvq kfq .byte (7 : Int32) [(.int 45), (.int 45), (.int 113), (.int 117), (.int 101), (.int 117), (.int 101)] (.int 0)) (S_ou : Sta Z Z.heap "com/example/durable_dispatch/durabledispatch/cli/Option" "URL" "Lcom/example/durable_dispatch/durabledispatch/cli/Option;" (.ref ou)) (S_oq : Sta Z Z.heap "com/example/durable_dispatch/durabledispatch/cli/Option" "QUEUE" "Lcom/example/durable_dispatch/durabledispatch/cli/Option;" (.ref oq)) (E_em : Exa Z h0 em "java/util/Optional") (F_em : Fld Z h0 em "java/util/Optional" "value" "Ljava/lang/Object;" .null) :
    MetFree l x (head1 (Jvm.Cond.code x code maxLocals ret :: ws) room_1) (fun a U => a = #[(.int p0), (.int p1), (.int p2), (.int p3)] ∧ Z.Warmed39 U.vm ∧ U.heap = h0 ∧ CHv Z own_EL U.vm h0) (fun _ _ _ _ _ => True) (fun _ U o U' => ∃ v L, o = .returned v ∧ Q0 Z p0 p1 p2 p3 va kv ou oq em flu fvu kfu flq fvq kfq cs h0 n0 v U'.heap L ∧ CHr Z own_EL U.vm U.heap U'.vm U'.heap ∧ ReturnedEndW U o U' L room_1.cells room_1.slots) := by
  refine MetFree.of_bodySF (plainFor_of_name pn_com_example_durable_dispatch_durabledispatch_cli_OptionByFlagPinLaw) hisR ?_
  intro p e s m args below meth c s₁ Bd hml0 hP hK
  obtain ⟨rfl, hZ, hh, hCH0⟩ := hP
  have hx := Bd.exec
  have hby := Bd.bytes
  have hml : c.maxLocals = 11 := hml0
  have hown : s.vm.findClass "com/example/durable_dispatch/durabledispatch/cli/OptionByFlagPinLaw" = some m.cls := findClass_of_methodNamed Bd.named
  have hnm := (name_of_methodNamed Bd.named Bd.method).1
  have hlk := Bd.notSynchronized
  have X0 : Stand p l e room_1 (s.setVm s.vm) m #[(.int p0), (.int p1), (.int p2), (.int p3)] below meth c s₁ [] 0 0 := Stand.of_body Bd
  have e0 : s₁.heap = h0 := by rw [← hh, Bd.state]; rfl
  have N0 := Fr.nil n0
  show own_GH p.tables e below s Z own_EL (Q0 Z p0 p1 p2 p3 va kv ou oq em flu fvu kfu flq fvq kfq cs h0 n0) room_1.cells room_1.slots _
  have hS0 : s.Since s.vm 0 := (State.WarmedH.refl s).since 0
  have hEL := own_EW hw
  have CH0 : CHr Z own_EL s.vm h0 s.vm h0 := CHr.refl hCH0
  refine own_thrH (a := s₁.setTop (mkF m 0 #[.val (.int p0), .val (.int p1), .val (.int p2), .val (.int p3), .unset, .unset, .unset, .unset, .unset, .unset, .unset] [])) (fun t kt => castTop (ef_rm0 m p0 p1 p2 p3) kt) ?_
  refine own_thrH (a := s₁.setTop (mkF m 3 #[.val (.int p0), .val (.int p1), .val (.int p2), .val (.int p3), .unset, .unset, .unset, .unset, .unset, .unset, .unset] [(.int (p0 &&& (1 : Int32)))])) (fun t kt => ?_) ?_
  · refine XS.iloadN X0.here hx rfl (hb hby at_0) rfl ?_
    refine XS.iconst X0.here hx rfl (hb hby at_1) ?_
    refine XS.iand X0.here hx rfl (hb hby at_2) rfl ?_
    exact kt
  by_cases hc1 : (p0 &&& (1 : Int32)) = (0 : Int32)
  · refine own_thrH (a := s₁.setTop (mkF m 37 #[.val (.int p0), .val (.int p1), .val (.int p2), .val (.int p3), .val (.int 1), .val (.int (((p0.toUInt32 >>> ((1 : Int32) &&& 31).toUInt32).toInt32) &&& (7 : Int32))), .val (.int ((p2 &&& (255 : Int32)).toUInt32.toUInt16.toUInt32.toInt32)), .val (.int ((p3 &&& (255 : Int32)).toUInt32.toUInt16.toUInt32.toInt32)), .unset, .unset, .unset] [])) (fun t kt => ?_) ?_
    · refine XS.ifNo X0.here hx rfl (hb hby at_3) rfl ((if0 _ _).trans (teq hc1).2) ?_
      refine XS.iconst X0.here hx rfl (hb hby at_6) ?_
      refine XS.goto X0.here hx rfl (pc0 := 7) (pc' := 11) rfl (hb hby at_7) (by decide) (by decide) ?_
      refine XS.istore X0.here hx rfl (hb hby at_11) rfl (l' := #[.val (.int p0), .val (.int p1), .val (.int p2), .val (.int p3), .val (.int 1), .unset, .unset, .unset, .unset, .unset, .unset]) rfl ?_
      refine XS.iloadN X0.here hx rfl (hb hby at_13) rfl ?_
      refine XS.iconst X0.here hx rfl (hb hby at_14) ?_
      refine XS.iushr X0.here hx rfl (hb hby at_15) rfl ?_
      refine XS.bipush X0.here hx rfl (hb hby at_16) ?_
      refine XS.iand X0.here hx rfl (hb hby at_18) rfl ?_
      refine XS.istore X0.here hx rfl (hb hby at_19) rfl (l' := #[.val (.int p0), .val (.int p1), .val (.int p2), .val (.int p3), .val (.int 1), .val (.int (((p0.toUInt32 >>> ((1 : Int32) &&& 31).toUInt32).toInt32) &&& (7 : Int32))), .unset, .unset, .unset, .unset, .unset]) rfl ?_
      refine XS.iloadN X0.here hx rfl (hb hby at_21) rfl ?_
      refine XS.sipush X0.here hx rfl (hb hby at_22) ?_
      refine XS.iand X0.here hx rfl (hb hby at_25) rfl ?_
      refine XS.i2c X0.here hx rfl (hb hby at_26) rfl ?_
      refine XS.istore X0.here hx rfl (hb hby at_27) rfl (l' := #[.val (.int p0), .val (.int p1), .val (.int p2), .val (.int p3), .val (.int 1), .val (.int (((p0.toUInt32 >>> ((1 : Int32) &&& 31).toUInt32).toInt32) &&& (7 : Int32))), .val (.int ((p2 &&& (255 : Int32)).toUInt32.toUInt16.toUInt32.toInt32)), .unset, .unset, .unset, .unset]) rfl ?_
      refine XS.iloadN X0.here hx rfl (hb hby at_29) rfl ?_
      refine XS.sipush X0.here hx rfl (hb hby at_30) ?_
      refine XS.iand X0.here hx rfl (hb hby at_33) rfl ?_
      refine XS.i2c X0.here hx rfl (hb hby at_34) rfl ?_
      refine XS.istore X0.here hx rfl (hb hby at_35) rfl (l' := #[.val (.int p0), .val (.int p1), .val (.int p2), .val (.int p3), .val (.int 1), .val (.int (((p0.toUInt32 >>> ((1 : Int32) &&& 31).toUInt32).toInt32) &&& (7 : Int32))), .val (.int ((p2 &&& (255 : Int32)).toUInt32.toUInt16.toUInt32.toInt32)), .val (.int ((p3 &&& (255 : Int32)).toUInt32.toUInt16.toUInt32.toInt32)), .unset, .unset, .unset]) rfl ?_
      exact kt
    obtain ⟨kd, ekd⟩ : ∃ z : Int32, z = (((p0.toUInt32 >>> ((1 : Int32) &&& 31).toUInt32).toInt32) &&& (7 : Int32)) := ⟨_, rfl⟩
    rw [← ekd]
    obtain ⟨dc, edc⟩ : ∃ z : Int32, z = ((p2 &&& (255 : Int32)).toUInt32.toUInt16.toUInt32.toInt32) := ⟨_, rfl⟩
    rw [← edc]
    obtain ⟨ec, eec⟩ : ∃ z : Int32, z = ((p3 &&& (255 : Int32)).toUInt32.toUInt16.toUInt32.toInt32) := ⟨_, rfl⟩
    rw [← eec]
    have ldc : ¬ (255 : Int32) < dc := by rw [edc]; exact own_c1 _
    have mdc : ¬ (dc.toUInt32.toUInt16.toUInt32.toInt32) < 0 ∧ ¬ (255 : Int32) < (dc.toUInt32.toUInt16.toUInt32.toInt32) := by rw [edc]; exact own_k2 _
    have lec : ¬ (255 : Int32) < ec := by rw [eec]; exact own_c1 _
    have mec : ¬ (ec.toUInt32.toUInt16.toUInt32.toInt32) < 0 ∧ ¬ (255 : Int32) < (ec.toUInt32.toUInt16.toUInt32.toInt32) := by rw [eec]; exact own_k2 _
    refine own_thrH (a := s₁.setTop (mkF m 39 #[.val (.int p0), .val (.int p1), .val (.int p2), .val (.int p3), .val (.int 1), .val (.int kd), .val (.int dc), .val (.int ec), .unset, .unset, .unset] [(.int kd)])) (fun t kt => ?_) ?_
    · refine XS.iload X0.here hx rfl (hb hby at_37) rfl ?_
      exact kt
    by_cases hc2 : kd = (0 : Int32)
    · refine own_thrH (a := s₁.setTop (mkF m 47 #[.val (.int p0), .val (.int p1), .val (.int p2), .val (.int p3), .val (.int 1), .val (.int kd), .val (.int dc), .val (.int ec), .unset, .unset, .unset] [])) (fun t kt => ?_) ?_
      · refine XS.ifNo X0.here hx rfl (hb hby at_39) rfl ((if0 _ _).trans (teq hc2).2) ?_
        refine XS.iload X0.here hx rfl (hb hby at_42) rfl ?_
        refine XS.ifNo X0.here hx rfl (hb hby at_44) rfl ((if0 _ _).trans (feq (by decide)).1) ?_
        exact kt
      obtain ⟨T3, h3, X3, e3, E3, A3, D3, U3, st3⟩ := newO X0 hx hZ hown (hw _ (own_i 0 rfl)) (hw _ (own_i 1 rfl)) (hw _ (own_i 2 rfl)) e0 (g := (mkF m 47 #[.val (.int p0), .val (.int p1), .val (.int p2), .val (.int p3), .val (.int 1), .val (.int kd), .val (.int dc), .val (.int ec), .unset, .unset, .unset] [])) rfl (hb hby at_47) (by decide : 0 + 1 ≤ _) (by decide : 0 + 4 ≤ _)
      obtain ⟨b3, g3⟩ : ∃ z, z = h0.size := ⟨_, rfl⟩
      rw [← g3] at A3 D3 st3 U3
      have g_b3 : n0 ≤ b3 := Nat.le_trans Z0 (Nat.le_of_eq g3.symm)
      have sz_b3 : h0.size ≤ b3 := Nat.le_trans (Nat.le_refl h0.size) (Nat.le_of_eq g3.symm)
      have lt_ou_b3 : ou < b3 := Nat.lt_of_lt_of_le F_flu.lt (Nat.le_of_eq g3.symm)
      have ne_ou_b3 : ou ≠ b3 := Nat.ne_of_lt lt_ou_b3
      have lt_flu_b3 : flu < b3 := Nat.lt_of_lt_of_le E_flu.lt (Nat.le_of_eq g3.symm)
      have ne_flu_b3 : flu ≠ b3 := Nat.ne_of_lt lt_flu_b3
      have lt_fvu_b3 : fvu < b3 := Nat.lt_of_lt_of_le V_fvu.lt (Nat.le_of_eq g3.symm)
      have ne_fvu_b3 : fvu ≠ b3 := Nat.ne_of_lt lt_fvu_b3
      have lt_oq_b3 : oq < b3 := Nat.lt_of_lt_of_le F_flq.lt (Nat.le_of_eq g3.symm)
      have ne_oq_b3 : oq ≠ b3 := Nat.ne_of_lt lt_oq_b3
      have lt_flq_b3 : flq < b3 := Nat.lt_of_lt_of_le E_flq.lt (Nat.le_of_eq g3.symm)
      have ne_flq_b3 : flq ≠ b3 := Nat.ne_of_lt lt_flq_b3
      have lt_fvq_b3 : fvq < b3 := Nat.lt_of_lt_of_le V_fvq.lt (Nat.le_of_eq g3.symm)
      have ne_fvq_b3 : fvq ≠ b3 := Nat.ne_of_lt lt_fvq_b3
      have lt_em_b3 : em < b3 := Nat.lt_of_lt_of_le E_em.lt (Nat.le_of_eq g3.symm)
      have ne_em_b3 : em ≠ b3 := Nat.ne_of_lt lt_em_b3
      have CH4 := CH0.trans (CHr.ext E3 CH0.1)
      have Z5 : n0 ≤ h3.size := Nat.le_trans Z0 E3.1
      have Z5h : h0.size ≤ h3.size := Nat.le_trans (Nat.le_refl h0.size) E3.1
      have F_coder_b3 : Fld Z h3 b3 "java/lang/String" "coder" "B" (.int 0) := D3 (Or.inr (hw _ (own_i 27 rfl))) (ty := .byte) (by decide)
      have F_value_b3 : Fld Z h3 b3 "java/lang/String" "value" "[B" .null := D3 (Or.inr (hw _ (own_i 29 rfl))) (ty := (.array .byte)) (by decide)
      refine own_thrH (a := T3.setTop (mkF m 50 #[.val (.int p0), .val (.int p1), .val (.int p2), .val (.int p3), .val (.int 1), .val (.int kd), .val (.int dc), .val (.int ec), .unset, .unset, .unset] [(.ref b3)])) (fun t kt => st3 t kt) ?_
      refine own_thrH (a := T3.setTop (mkF m 52 #[.val (.int p0), .val (.int p1), .val (.int p2), .val (.int p3), .val (.int 1), .val (.int kd), .val (.int dc), .val (.int ec), .unset, .unset, .unset] [(.int 5), (.ref b3), (.ref b3)])) (fun t kt => ?_) ?_
      · refine XS.dup X3.here hx rfl (hb hby at_50) rfl rfl ?_
        refine XS.iconst X3.here hx rfl (hb hby at_51) ?_
        exact kt
      obtain ⟨T6, h6, k6, X6, e6, E6, A6, st6⟩ := newP X3 hx hZ (hw _ (own_i 3 rfl)) e3 (g := (mkF m 52 #[.val (.int p0), .val (.int p1), .val (.int p2), .val (.int p3), .val (.int 1), .val (.int kd), .val (.int dc), .val (.int ec), .unset, .unset, .unset] [(.int 5), (.ref b3), (.ref b3)])) rfl (hb hby at_52) rfl (by decide) (cap := 5) (by decide) (by decide) (by decide : 1 + 1 ≤ _) (by decide : 4 + 5 ≤ _)
      obtain ⟨b6, g6⟩ : ∃ z, z = h3.size := ⟨_, rfl⟩
      rw [← g6] at A6 st6
      have g_b6 : n0 ≤ b6 := Nat.le_trans Z5 (Nat.le_of_eq g6.symm)
      have sz_b6 : h0.size ≤ b6 := Nat.le_trans Z5h (Nat.le_of_eq g6.symm)
      have lt_ou_b6 : ou < b6 := Nat.lt_of_lt_of_le (F_flu.ext E3).lt (Nat.le_of_eq g6.symm)
      have ne_ou_b6 : ou ≠ b6 := Nat.ne_of_lt lt_ou_b6
      have lt_flu_b6 : flu < b6 := Nat.lt_of_lt_of_le (E_flu.ext E3).lt (Nat.le_of_eq g6.symm)
      have ne_flu_b6 : flu ≠ b6 := Nat.ne_of_lt lt_flu_b6
      have lt_fvu_b6 : fvu < b6 := Nat.lt_of_lt_of_le (V_fvu.ext E3).lt (Nat.le_of_eq g6.symm)
      have ne_fvu_b6 : fvu ≠ b6 := Nat.ne_of_lt lt_fvu_b6
      have lt_oq_b6 : oq < b6 := Nat.lt_of_lt_of_le (F_flq.ext E3).lt (Nat.le_of_eq g6.symm)
      have ne_oq_b6 : oq ≠ b6 := Nat.ne_of_lt lt_oq_b6
      have lt_flq_b6 : flq < b6 := Nat.lt_of_lt_of_le (E_flq.ext E3).lt (Nat.le_of_eq g6.symm)
      have ne_flq_b6 : flq ≠ b6 := Nat.ne_of_lt lt_flq_b6
      have lt_fvq_b6 : fvq < b6 := Nat.lt_of_lt_of_le (V_fvq.ext E3).lt (Nat.le_of_eq g6.symm)
      have ne_fvq_b6 : fvq ≠ b6 := Nat.ne_of_lt lt_fvq_b6
      have lt_em_b6 : em < b6 := Nat.lt_of_lt_of_le (E_em.ext E3).lt (Nat.le_of_eq g6.symm)
      have ne_em_b6 : em ≠ b6 := Nat.ne_of_lt lt_em_b6
      have lt_b3_b6 : b3 < b6 := Nat.lt_of_lt_of_le A3.lt (Nat.le_of_eq g6.symm)
      have ne_b3_b6 : b3 ≠ b6 := Nat.ne_of_lt lt_b3_b6
      have V_b6 : Arv Z h6 b6 k6 .char (5 : Int32) [(.int 0), (.int 0), (.int 0), (.int 0), (.int 0)] (.int 0) := (Arv.new A6 (by decide)).pad (pad_rep [] (.int 0) 5)
      have CH7 := CH4.trans (CHr.ext E6 CH4.1)
      have Z8 : n0 ≤ h6.size := Nat.le_trans Z5 E6.1
      have Z8h : h0.size ≤ h6.size := Nat.le_trans Z5h E6.1
      refine own_thrH (a := T6.setTop (mkF m 54 #[.val (.int p0), .val (.int p1), .val (.int p2), .val (.int p3), .val (.int 1), .val (.int kd), .val (.int dc), .val (.int ec), .unset, .unset, .unset] [(.ref b6), (.ref b3), (.ref b3)])) (fun t kt => st6 t kt) ?_
      refine own_thrH (a := T6.setTop (mkF m 58 #[.val (.int p0), .val (.int p1), .val (.int p2), .val (.int p3), .val (.int 1), .val (.int kd), .val (.int dc), .val (.int ec), .unset, .unset, .unset] [(.int 45), (.int 0), (.ref b6), (.ref b6), (.ref b3), (.ref b3)])) (fun t kt => ?_) ?_
      · refine XS.dup X6.here hx rfl (hb hby at_54) rfl rfl ?_
        refine XS.iconst X6.here hx rfl (hb hby at_55) ?_
        refine XS.bipush X6.here hx rfl (hb hby at_56) ?_
        exact kt
      obtain ⟨cl9, Ar9, q9, S9, M9, H9, G9⟩ := id V_b6
      have hin9 : ¬ ((0 : Int32) < 0 ∨ cl9.slots.size ≤ ((0 : Int32)).toNatClampNeg) := inb_of S9 ⟨by decide, by decide⟩
      obtain ⟨T9, h9, X9, e9, W9, st9⟩ := stC X6 hx hZ e6 Ar9 (j := (0 : Int32)) hin9 (g := (mkF m 58 #[.val (.int p0), .val (.int p1), .val (.int p2), .val (.int p3), .val (.int 1), .val (.int kd), .val (.int dc), .val (.int ec), .unset, .unset, .unset] [(.int 45), (.int 0), (.ref b6), (.ref b6), (.ref b3), (.ref b3)])) rfl rfl (hb hby at_58)
      obtain ⟨clv11, Arv11, -⟩ := id V_b6
      have CH10 := CH7.trans (CHr.wr W9 (Safe.arr hZ.alike Arv11 (by decide)) CH7.1)
      have Z12 : n0 ≤ h9.size := Nat.le_trans Z8 (Nat.le_of_eq W9.size.symm)
      have Z12h : h0.size ≤ h9.size := Nat.le_trans Z8h (Nat.le_of_eq W9.size.symm)
      have V9 : Arv Z h9 b6 k6 .char (5 : Int32) [(.int 45), (.int 0), (.int 0), (.int 0), (.int 0)] (.int 0) := Arv.set Ar9 q9 S9 M9 H9 G9 (fits_nar_char _) W9 0 rfl (Nat.le_of_ble_eq_true rfl)
      obtain ⟨lc9, X9, N9⟩ := own_pack1 X9 N0 g_b6
      refine own_thrH (a := T9.setTop (mkF m 59 #[.val (.int p0), .val (.int p1), .val (.int p2), .val (.int p3), .val (.int 1), .val (.int kd), .val (.int dc), .val (.int ec), .unset, .unset, .unset] [(.ref b6), (.ref b3), (.ref b3)])) (fun t kt => st9 t kt) ?_
      refine own_thrH (a := T9.setTop (mkF m 63 #[.val (.int p0), .val (.int p1), .val (.int p2), .val (.int p3), .val (.int 1), .val (.int kd), .val (.int dc), .val (.int ec), .unset, .unset, .unset] [(.int 45), (.int 1), (.ref b6), (.ref b6), (.ref b3), (.ref b3)])) (fun t kt => ?_) ?_
      · refine XS.dup X9.here hx rfl (hb hby at_59) rfl rfl ?_
        refine XS.iconst X9.here hx rfl (hb hby at_60) ?_
        refine XS.bipush X9.here hx rfl (hb hby at_61) ?_
        exact kt
      obtain ⟨cl13, Ar13, q13, S13, M13, H13, G13⟩ := id V9
      have hin13 : ¬ ((1 : Int32) < 0 ∨ cl13.slots.size ≤ ((1 : Int32)).toNatClampNeg) := inb_of S13 ⟨by decide, by decide⟩
      obtain ⟨T13, h13, X13, e13, W13, st13⟩ := stC X9 hx hZ e9 Ar13 (j := (1 : Int32)) hin13 (g := (mkF m 63 #[.val (.int p0), .val (.int p1), .val (.int p2), .val (.int p3), .val (.int 1), .val (.int kd), .val (.int dc), .val (.int ec), .unset, .unset, .unset] [(.int 45), (.int 1), (.ref b6), (.ref b6), (.ref b3), (.ref b3)])) rfl rfl (hb hby at_63)
      obtain ⟨clv15, Arv15, -⟩ := id V9
      have CH14 := CH10.trans (CHr.wr W13 (Safe.arr hZ.alike Arv15 (by decide)) CH10.1)
      have Z16 : n0 ≤ h13.size := Nat.le_trans Z12 (Nat.le_of_eq W13.size.symm)
      have Z16h : h0.size ≤ h13.size := Nat.le_trans Z12h (Nat.le_of_eq W13.size.symm)
      have V13 : Arv Z h13 b6 k6 .char (5 : Int32) [(.int 45), (.int 45), (.int 0), (.int 0), (.int 0)] (.int 0) := Arv.set Ar13 q13 S13 M13 H13 G13 (fits_nar_char _) W13 1 rfl (Nat.le_of_ble_eq_true rfl)
      obtain ⟨lc13, X13, N13⟩ := own_pack1 X13 N9 g_b6
      refine own_thrH (a := T13.setTop (mkF m 64 #[.val (.int p0), .val (.int p1), .val (.int p2), .val (.int p3), .val (.int 1), .val (.int kd), .val (.int dc), .val (.int ec), .unset, .unset, .unset] [(.ref b6), (.ref b3), (.ref b3)])) (fun t kt => st13 t kt) ?_
      refine own_thrH (a := T13.setTop (mkF m 68 #[.val (.int p0), .val (.int p1), .val (.int p2), .val (.int p3), .val (.int 1), .val (.int kd), .val (.int dc), .val (.int ec), .unset, .unset, .unset] [(.int 117), (.int 2), (.ref b6), (.ref b6), (.ref b3), (.ref b3)])) (fun t kt => ?_) ?_
      · refine XS.dup X13.here hx rfl (hb hby at_64) rfl rfl ?_
        refine XS.iconst X13.here hx rfl (hb hby at_65) ?_
        refine XS.bipush X13.here hx rfl (hb hby at_66) ?_
        exact kt
      obtain ⟨cl17, Ar17, q17, S17, M17, H17, G17⟩ := id V13
      have hin17 : ¬ ((2 : Int32) < 0 ∨ cl17.slots.size ≤ ((2 : Int32)).toNatClampNeg) := inb_of S17 ⟨by decide, by decide⟩
      obtain ⟨T17, h17, X17, e17, W17, st17⟩ := stC X13 hx hZ e13 Ar17 (j := (2 : Int32)) hin17 (g := (mkF m 68 #[.val (.int p0), .val (.int p1), .val (.int p2), .val (.int p3), .val (.int 1), .val (.int kd), .val (.int dc), .val (.int ec), .unset, .unset, .unset] [(.int 117), (.int 2), (.ref b6), (.ref b6), (.ref b3), (.ref b3)])) rfl rfl (hb hby at_68)
      obtain ⟨clv19, Arv19, -⟩ := id V13
      have CH18 := CH14.trans (CHr.wr W17 (Safe.arr hZ.alike Arv19 (by decide)) CH14.1)
      have Z20 : n0 ≤ h17.size := Nat.le_trans Z16 (Nat.le_of_eq W17.size.symm)
      have Z20h : h0.size ≤ h17.size := Nat.le_trans Z16h (Nat.le_of_eq W17.size.symm)
      have V17 : Arv Z h17 b6 k6 .char (5 : Int32) [(.int 45), (.int 45), (.int 117), (.int 0), (.int 0)] (.int 0) := Arv.set Ar17 q17 S17 M17 H17 G17 (fits_nar_char _) W17 2 rfl (Nat.le_of_ble_eq_true rfl)
      obtain ⟨lc17, X17, N17⟩ := own_pack1 X17 N13 g_b6
      refine own_thrH (a := T17.setTop (mkF m 69 #[.val (.int p0), .val (.int p1), .val (.int p2), .val (.int p3), .val (.int 1), .val (.int kd), .val (.int dc), .val (.int ec), .unset, .unset, .unset] [(.ref b6), (.ref b3), (.ref b3)])) (fun t kt => st17 t kt) ?_
      refine own_thrH (a := T17.setTop (mkF m 73 #[.val (.int p0), .val (.int p1), .val (.int p2), .val (.int p3), .val (.int 1), .val (.int kd), .val (.int dc), .val (.int ec), .unset, .unset, .unset] [(.int 114), (.int 3), (.ref b6), (.ref b6), (.ref b3), (.ref b3)])) (fun t kt => ?_) ?_
      · refine XS.dup X17.here hx rfl (hb hby at_69) rfl rfl ?_
        refine XS.iconst X17.here hx rfl (hb hby at_70) ?_
        refine XS.bipush X17.here hx rfl (hb hby at_71) ?_
        exact kt
      obtain ⟨cl21, Ar21, q21, S21, M21, H21, G21⟩ := id V17
      have hin21 : ¬ ((3 : Int32) < 0 ∨ cl21.slots.size ≤ ((3 : Int32)).toNatClampNeg) := inb_of S21 ⟨by decide, by decide⟩
      obtain ⟨T21, h21, X21, e21, W21, st21⟩ := stC X17 hx hZ e17 Ar21 (j := (3 : Int32)) hin21 (g := (mkF m 73 #[.val (.int p0), .val (.int p1), .val (.int p2), .val (.int p3), .val (.int 1), .val (.int kd), .val (.int dc), .val (.int ec), .unset, .unset, .unset] [(.int 114), (.int 3), (.ref b6), (.ref b6), (.ref b3), (.ref b3)])) rfl rfl (hb hby at_73)
      obtain ⟨clv23, Arv23, -⟩ := id V17
      have CH22 := CH18.trans (CHr.wr W21 (Safe.arr hZ.alike Arv23 (by decide)) CH18.1)
      have Z24 : n0 ≤ h21.size := Nat.le_trans Z20 (Nat.le_of_eq W21.size.symm)
      have Z24h : h0.size ≤ h21.size := Nat.le_trans Z20h (Nat.le_of_eq W21.size.symm)
      have V21 : Arv Z h21 b6 k6 .char (5 : Int32) [(.int 45), (.int 45), (.int 117), (.int 114), (.int 0)] (.int 0) := Arv.set Ar21 q21 S21 M21 H21 G21 (fits_nar_char _) W21 3 rfl (Nat.le_of_ble_eq_true rfl)
      obtain ⟨lc21, X21, N21⟩ := own_pack1 X21 N17 g_b6
      refine own_thrH (a := T21.setTop (mkF m 74 #[.val (.int p0), .val (.int p1), .val (.int p2), .val (.int p3), .val (.int 1), .val (.int kd), .val (.int dc), .val (.int ec), .unset, .unset, .unset] [(.ref b6), (.ref b3), (.ref b3)])) (fun t kt => st21 t kt) ?_
      refine own_thrH (a := T21.setTop (mkF m 78 #[.val (.int p0), .val (.int p1), .val (.int p2), .val (.int p3), .val (.int 1), .val (.int kd), .val (.int dc), .val (.int ec), .unset, .unset, .unset] [(.int 108), (.int 4), (.ref b6), (.ref b6), (.ref b3), (.ref b3)])) (fun t kt => ?_) ?_
      · refine XS.dup X21.here hx rfl (hb hby at_74) rfl rfl ?_
        refine XS.iconst X21.here hx rfl (hb hby at_75) ?_
        refine XS.bipush X21.here hx rfl (hb hby at_76) ?_
        exact kt
      obtain ⟨cl25, Ar25, q25, S25, M25, H25, G25⟩ := id V21
      have hin25 : ¬ ((4 : Int32) < 0 ∨ cl25.slots.size ≤ ((4 : Int32)).toNatClampNeg) := inb_of S25 ⟨by decide, by decide⟩
      obtain ⟨T25, h25, X25, e25, W25, st25⟩ := stC X21 hx hZ e21 Ar25 (j := (4 : Int32)) hin25 (g := (mkF m 78 #[.val (.int p0), .val (.int p1), .val (.int p2), .val (.int p3), .val (.int 1), .val (.int kd), .val (.int dc), .val (.int ec), .unset, .unset, .unset] [(.int 108), (.int 4), (.ref b6), (.ref b6), (.ref b3), (.ref b3)])) rfl rfl (hb hby at_78)
      obtain ⟨clv27, Arv27, -⟩ := id V21
      have CH26 := CH22.trans (CHr.wr W25 (Safe.arr hZ.alike Arv27 (by decide)) CH22.1)
      have Z28 : n0 ≤ h25.size := Nat.le_trans Z24 (Nat.le_of_eq W25.size.symm)
      have Z28h : h0.size ≤ h25.size := Nat.le_trans Z24h (Nat.le_of_eq W25.size.symm)
      have V25 : Arv Z h25 b6 k6 .char (5 : Int32) [(.int 45), (.int 45), (.int 117), (.int 114), (.int 108)] (.int 0) := Arv.set Ar25 q25 S25 M25 H25 G25 (fits_nar_char _) W25 4 rfl (Nat.le_of_ble_eq_true rfl)
      obtain ⟨lc25, X25, N25⟩ := own_pack1 X25 N21 g_b6
      refine own_thrH (a := T25.setTop (mkF m 79 #[.val (.int p0), .val (.int p1), .val (.int p2), .val (.int p3), .val (.int 1), .val (.int kd), .val (.int dc), .val (.int ec), .unset, .unset, .unset] [(.ref b6), (.ref b3), (.ref b3)])) (fun t kt => st25 t kt) ?_
      have c30 := ((((((F_value_b3.ext E6).other W9 (Or.inl ne_b3_b6)).other W13 (Or.inl ne_b3_b6)).other W17 (Or.inl ne_b3_b6)).other W21 (Or.inl ne_b3_b6)).other W25 (Or.inl ne_b3_b6))
      have c31 := ((((((F_coder_b3.ext E6).other W9 (Or.inl ne_b3_b6)).other W13 (Or.inl ne_b3_b6)).other W17 (Or.inl ne_b3_b6)).other W21 (Or.inl ne_b3_b6)).other W25 (Or.inl ne_b3_b6))
      have c32 := (((((((hO.ext E3).ext E6).wr W9 g_b6).wr W13 g_b6).wr W17 g_b6).wr W21 g_b6).wr W25 g_b6)
      obtain ⟨_, _, ⟨T29, L29, k29, n29⟩, -, X29, ⟨Lc29, hQ29, l29, y29, z29⟩, st29⟩ := X25.specialBack hx (y := (⟨"java/lang/String", "<init>", "([C)V"⟩ : MethodName)) rfl hown (mvT hZ (hw _ (own_i 4 rfl))) (mvT hZ (hw _ (own_i 5 rfl))) (mvT hZ (hw _ (own_i 6 rfl))) (by decide) (StrChars.Road.backV hZ (fun d hd => hw d (own_sw d hd)) (hw _ (own_i 1 rfl)) (x := b3) (b := b6) (cs := [(45 : Int32), (45 : Int32), (117 : Int32), (114 : Int32), (108 : Int32)]) (bs := [((45 : Int32).toInt8.toInt32), ((45 : Int32).toInt8.toInt32), ((117 : Int32).toInt8.toInt32), ((114 : Int32).toInt8.toInt32), ((108 : Int32).toInt8.toInt32)]) (n := 5) (W := 1) g_b3 Z28 ((((((A3.ext E6).wr W9).wr W13).wr W17).wr W21).wr W25) c30 c31 V25 (S_cs.ext c32.2) hcs rfl rfl (by decide) (by decide) (own_fa ⟨by decide, by decide⟩ (own_fa ⟨by decide, by decide⟩ (own_fa ⟨by decide, by decide⟩ (own_fa ⟨by decide, by decide⟩ (own_fa ⟨by decide, by decide⟩ own_f0))))) rfl (by decide) (by decide)) (g := (mkF m 79 #[.val (.int p0), .val (.int p1), .val (.int p2), .val (.int p3), .val (.int 1), .val (.int kd), .val (.int dc), .val (.int ec), .unset, .unset, .unset] [(.ref b6), (.ref b3), (.ref b3)])) rfl (by rw [hml]; rfl) (Steps.refl _) (a := b3) (argsL := [(.ref b6)]) (rest := [(.ref b3)]) (lenOf pd__28_5bC_29V rfl) rfl (by show 2 * 0 + _ ≤ _; exact Nat.le_of_eq rfl) (hb hby at_79) (fun _ _ => ⟨rfl, e25, (by decide : 2 + 1 ≤ _), (by decide : 9 + 5 ≤ _)⟩)
      dsimp only [Pt.U, Pt.locs, Pt.cells, Pt.slots] at X29 l29 y29 z29 st29 hQ29
      obtain ⟨rfl, N29q, K29, o29_e, o29_c, sv29, ks29, -, -, -, o29_v, o29_A⟩ := hQ29
      have sf34 := own_safe (EL := own_EL) hZ.alike ((((((A3.ext E6).wr W9).wr W13).wr W17).wr W21).wr W25) c30
      have sf35 := Safe.keep K29 (allS sf34 all0) CH26.1 sf34
      have CH33 := CH26.trans (CHr.keep K29 (allS sf34 all0) CH26.1)
      have Z36 : n0 ≤ T29.heap.size := Nat.le_trans Z28 K29.1
      have Z36h : h0.size ≤ T29.heap.size := Nat.le_trans Z28h K29.1
      have o29_a : Arv Z T29.heap sv29 ks29 .byte (5 : Int32) [(.int ((45 : Int32).toInt8.toInt32)), (.int ((45 : Int32).toInt8.toInt32)), (.int ((117 : Int32).toInt8.toInt32)), (.int ((114 : Int32).toInt8.toInt32)), (.int ((108 : Int32).toInt8.toInt32))] (.int 0) := o29_A
      obtain ⟨lc29, X29, N29⟩ := own_pack X29 l29 y29 z29 N25 N29q (C := 3) (S' := 14) rfl rfl
      refine own_thrH (a := T29.setTop (mkF m 82 #[.val (.int p0), .val (.int p1), .val (.int p2), .val (.int p3), .val (.int 1), .val (.int kd), .val (.int dc), .val (.int ec), .unset, .unset, .unset] [(.ref b3)])) (fun t kt => st29.trans kt) ?_
      refine own_thrH (a := T29.setTop (mkF m 510 #[.val (.int p0), .val (.int p1), .val (.int p2), .val (.int p3), .val (.int 1), .val (.int kd), .val (.int dc), .val (.int ec), .val (.ref b3), .unset, .unset] [])) (fun t kt => ?_) ?_
      · refine XS.goto X29.here hx rfl (pc0 := 82) (pc' := 132) rfl (hb hby at_82) (by decide) (by decide) ?_
        refine XS.astore X29.here hx rfl (hb hby at_132) rfl rfl (l' := #[.val (.int p0), .val (.int p1), .val (.int p2), .val (.int p3), .val (.int 1), .val (.int kd), .val (.int dc), .val (.int ec), .val (.ref b3), .unset, .unset]) rfl ?_
        refine XS.goto X29.here hx rfl (pc0 := 134) (pc' := 510) rfl (hb hby at_134) (by decide) (by decide) ?_
        exact kt
      have V37 := o29_a
      rw [show ((45 : Int32).toInt8.toInt32) = (45 : Int32) from by decide, show ((117 : Int32).toInt8.toInt32) = (117 : Int32) from by decide, show ((114 : Int32).toInt8.toInt32) = (114 : Int32) from by decide, show ((108 : Int32).toInt8.toInt32) = (108 : Int32) from by decide] at V37
      have c38 := ((((((((F_flu.ext E3).ext E6).other W9 (Or.inl ne_ou_b6)).other W13 (Or.inl ne_ou_b6)).other W17 (Or.inl ne_ou_b6)).other W21 (Or.inl ne_ou_b6)).other W25 (Or.inl ne_ou_b6)).keep K29 (ninS ne_ou_b3 nin0))
      have c39 := ((((((((E_flu.ext E3).ext E6).wr W9).wr W13).wr W17).wr W21).wr W25).keep K29)
      have c40 := ((((((((F_fvu.ext E3).ext E6).other W9 (Or.inl ne_flu_b6)).other W13 (Or.inl ne_flu_b6)).other W17 (Or.inl ne_flu_b6)).other W21 (Or.inl ne_flu_b6)).other W25 (Or.inl ne_flu_b6)).keep K29 (ninS ne_flu_b3 nin0))
      have c41 := ((((((((F_fluc.ext E3).ext E6).other W9 (Or.inl ne_flu_b6)).other W13 (Or.inl ne_flu_b6)).other W17 (Or.inl ne_flu_b6)).other W21 (Or.inl ne_flu_b6)).other W25 (Or.inl ne_flu_b6)).keep K29 (ninS ne_flu_b3 nin0))
      have c42 := ((((((((V_fvu.ext E3).ext E6).other W9 ne_fvu_b6).other W13 ne_fvu_b6).other W17 ne_fvu_b6).other W21 ne_fvu_b6).other W25 ne_fvu_b6).keep K29 (ninS ne_fvu_b3 nin0))
      have c43 := ((((((((F_flq.ext E3).ext E6).other W9 (Or.inl ne_oq_b6)).other W13 (Or.inl ne_oq_b6)).other W17 (Or.inl ne_oq_b6)).other W21 (Or.inl ne_oq_b6)).other W25 (Or.inl ne_oq_b6)).keep K29 (ninS ne_oq_b3 nin0))
      have c44 := ((((((((E_flq.ext E3).ext E6).wr W9).wr W13).wr W17).wr W21).wr W25).keep K29)
      have c45 := ((((((((F_fvq.ext E3).ext E6).other W9 (Or.inl ne_flq_b6)).other W13 (Or.inl ne_flq_b6)).other W17 (Or.inl ne_flq_b6)).other W21 (Or.inl ne_flq_b6)).other W25 (Or.inl ne_flq_b6)).keep K29 (ninS ne_flq_b3 nin0))
      have c46 := ((((((((F_flqc.ext E3).ext E6).other W9 (Or.inl ne_flq_b6)).other W13 (Or.inl ne_flq_b6)).other W17 (Or.inl ne_flq_b6)).other W21 (Or.inl ne_flq_b6)).other W25 (Or.inl ne_flq_b6)).keep K29 (ninS ne_flq_b3 nin0))
      have c47 := ((((((((V_fvq.ext E3).ext E6).other W9 ne_fvq_b6).other W13 ne_fvq_b6).other W17 ne_fvq_b6).other W21 ne_fvq_b6).other W25 ne_fvq_b6).keep K29 (ninS ne_fvq_b3 nin0))
      have c48 := ((((((((E_em.ext E3).ext E6).wr W9).wr W13).wr W17).wr W21).wr W25).keep K29)
      have c49 := ((((((((F_em.ext E3).ext E6).other W9 (Or.inl ne_em_b6)).other W13 (Or.inl ne_em_b6)).other W17 (Or.inl ne_em_b6)).other W21 (Or.inl ne_em_b6)).other W25 (Or.inl ne_em_b6)).keep K29 (ninS ne_em_b3 nin0))
      exact own_tailU p0 p1 p2 p3 va kv ou oq em flu fvu kfu flq fvq kfq cs hw hx hby hml hlk Bd.returns hh hEL hZ hown hS0 (Nat.zero_le _) CH33 Z36 Z36h _ _ _ _ b3 sv29 ks29 _ _ (Or.inl rfl) (Or.inl rfl) S_V V_va E_va hfit S_em S_cs hcs (c32.keep K29 (allS g_b3 all0)) c38 c39 c40 c41 c42 c43 c44 c45 c46 c47 S_ou S_oq c48 c49 o29_e o29_v o29_c V37 (by decide) (by decide) X29 N29 rfl
    · refine own_thrH (a := s₁.setTop (mkF m 140 #[.val (.int p0), .val (.int p1), .val (.int p2), .val (.int p3), .val (.int 1), .val (.int kd), .val (.int dc), .val (.int ec), .unset, .unset, .unset] [(.int 1), (.int kd)])) (fun t kt => ?_) ?_
      · refine XS.ifYes X0.here hx rfl (pc0 := 39) (pc' := 137) rfl (hb hby at_39) rfl ((if0 _ _).trans (feq hc2).2) (by decide) (by decide) ?_
        refine XS.iload X0.here hx rfl (hb hby at_137) rfl ?_
        refine XS.iconst X0.here hx rfl (hb hby at_139) ?_
        exact kt
      by_cases hc50 : kd = (1 : Int32)
      · refine own_thrH (a := s₁.setTop (mkF m 156 #[.val (.int p0), .val (.int p1), .val (.int p2), .val (.int p3), .val (.int 1), .val (.int kd), .val (.int dc), .val (.int ec), .unset, .unset, .unset] [(.int 5)])) (fun t kt => ?_) ?_
        · refine XS.icmpYes X0.here hx rfl (pc0 := 140) (pc' := 150) rfl (hb hby at_140) rfl (teq hc50).1 (by decide) (by decide) ?_
          refine XS.iload X0.here hx rfl (hb hby at_150) rfl ?_
          refine XS.ifNo X0.here hx rfl (hb hby at_152) rfl ((if0 _ _).trans (feq (by decide)).1) ?_
          refine XS.iconst X0.here hx rfl (hb hby at_155) ?_
          exact kt
        obtain ⟨T51, h51, k51, X51, e51, E51, A51, st51⟩ := newP X0 hx hZ (hw _ (own_i 3 rfl)) e0 (g := (mkF m 156 #[.val (.int p0), .val (.int p1), .val (.int p2), .val (.int p3), .val (.int 1), .val (.int kd), .val (.int dc), .val (.int ec), .unset, .unset, .unset] [(.int 5)])) rfl (hb hby at_156) rfl (by decide) (cap := 5) (by decide) (by decide) (by decide : 0 + 1 ≤ _) (by decide : 0 + 5 ≤ _)
        obtain ⟨b51, g51⟩ : ∃ z, z = h0.size := ⟨_, rfl⟩
        rw [← g51] at A51 st51
        have g_b51 : n0 ≤ b51 := Nat.le_trans Z0 (Nat.le_of_eq g51.symm)
        have sz_b51 : h0.size ≤ b51 := Nat.le_trans (Nat.le_refl h0.size) (Nat.le_of_eq g51.symm)
        have lt_ou_b51 : ou < b51 := Nat.lt_of_lt_of_le F_flu.lt (Nat.le_of_eq g51.symm)
        have ne_ou_b51 : ou ≠ b51 := Nat.ne_of_lt lt_ou_b51
        have lt_flu_b51 : flu < b51 := Nat.lt_of_lt_of_le E_flu.lt (Nat.le_of_eq g51.symm)
        have ne_flu_b51 : flu ≠ b51 := Nat.ne_of_lt lt_flu_b51
        have lt_fvu_b51 : fvu < b51 := Nat.lt_of_lt_of_le V_fvu.lt (Nat.le_of_eq g51.symm)
        have ne_fvu_b51 : fvu ≠ b51 := Nat.ne_of_lt lt_fvu_b51
        have lt_oq_b51 : oq < b51 := Nat.lt_of_lt_of_le F_flq.lt (Nat.le_of_eq g51.symm)
        have ne_oq_b51 : oq ≠ b51 := Nat.ne_of_lt lt_oq_b51
        have lt_flq_b51 : flq < b51 := Nat.lt_of_lt_of_le E_flq.lt (Nat.le_of_eq g51.symm)
        have ne_flq_b51 : flq ≠ b51 := Nat.ne_of_lt lt_flq_b51
        have lt_fvq_b51 : fvq < b51 := Nat.lt_of_lt_of_le V_fvq.lt (Nat.le_of_eq g51.symm)
        have ne_fvq_b51 : fvq ≠ b51 := Nat.ne_of_lt lt_fvq_b51
        have lt_em_b51 : em < b51 := Nat.lt_of_lt_of_le E_em.lt (Nat.le_of_eq g51.symm)
        have ne_em_b51 : em ≠ b51 := Nat.ne_of_lt lt_em_b51
        have V_b51 : Arv Z h51 b51 k51 .char (5 : Int32) [(.int 0), (.int 0), (.int 0), (.int 0), (.int 0)] (.int 0) := (Arv.new A51 (by decide)).pad (pad_rep [] (.int 0) 5)
        have CH52 := CH0.trans (CHr.ext E51 CH0.1)
        have Z53 : n0 ≤ h51.size := Nat.le_trans Z0 E51.1
        have Z53h : h0.size ≤ h51.size := Nat.le_trans (Nat.le_refl h0.size) E51.1
        refine own_thrH (a := T51.setTop (mkF m 158 #[.val (.int p0), .val (.int p1), .val (.int p2), .val (.int p3), .val (.int 1), .val (.int kd), .val (.int dc), .val (.int ec), .unset, .unset, .unset] [(.ref b51)])) (fun t kt => st51 t kt) ?_
        refine own_thrH (a := T51.setTop (mkF m 162 #[.val (.int p0), .val (.int p1), .val (.int p2), .val (.int p3), .val (.int 1), .val (.int kd), .val (.int dc), .val (.int ec), .unset, .unset, .unset] [(.int 45), (.int 0), (.ref b51), (.ref b51)])) (fun t kt => ?_) ?_
        · refine XS.dup X51.here hx rfl (hb hby at_158) rfl rfl ?_
          refine XS.iconst X51.here hx rfl (hb hby at_159) ?_
          refine XS.bipush X51.here hx rfl (hb hby at_160) ?_
          exact kt
        obtain ⟨cl54, Ar54, q54, S54, M54, H54, G54⟩ := id V_b51
        have hin54 : ¬ ((0 : Int32) < 0 ∨ cl54.slots.size ≤ ((0 : Int32)).toNatClampNeg) := inb_of S54 ⟨by decide, by decide⟩
        obtain ⟨T54, h54, X54, e54, W54, st54⟩ := stC X51 hx hZ e51 Ar54 (j := (0 : Int32)) hin54 (g := (mkF m 162 #[.val (.int p0), .val (.int p1), .val (.int p2), .val (.int p3), .val (.int 1), .val (.int kd), .val (.int dc), .val (.int ec), .unset, .unset, .unset] [(.int 45), (.int 0), (.ref b51), (.ref b51)])) rfl rfl (hb hby at_162)
        obtain ⟨clv56, Arv56, -⟩ := id V_b51
        have CH55 := CH52.trans (CHr.wr W54 (Safe.arr hZ.alike Arv56 (by decide)) CH52.1)
        have Z57 : n0 ≤ h54.size := Nat.le_trans Z53 (Nat.le_of_eq W54.size.symm)
        have Z57h : h0.size ≤ h54.size := Nat.le_trans Z53h (Nat.le_of_eq W54.size.symm)
        have V54 : Arv Z h54 b51 k51 .char (5 : Int32) [(.int 45), (.int 0), (.int 0), (.int 0), (.int 0)] (.int 0) := Arv.set Ar54 q54 S54 M54 H54 G54 (fits_nar_char _) W54 0 rfl (Nat.le_of_ble_eq_true rfl)
        obtain ⟨lc54, X54, N54⟩ := own_pack1 X54 N0 g_b51
        refine own_thrH (a := T54.setTop (mkF m 163 #[.val (.int p0), .val (.int p1), .val (.int p2), .val (.int p3), .val (.int 1), .val (.int kd), .val (.int dc), .val (.int ec), .unset, .unset, .unset] [(.ref b51)])) (fun t kt => st54 t kt) ?_
        refine own_thrH (a := T54.setTop (mkF m 167 #[.val (.int p0), .val (.int p1), .val (.int p2), .val (.int p3), .val (.int 1), .val (.int kd), .val (.int dc), .val (.int ec), .unset, .unset, .unset] [(.int 45), (.int 1), (.ref b51), (.ref b51)])) (fun t kt => ?_) ?_
        · refine XS.dup X54.here hx rfl (hb hby at_163) rfl rfl ?_
          refine XS.iconst X54.here hx rfl (hb hby at_164) ?_
          refine XS.bipush X54.here hx rfl (hb hby at_165) ?_
          exact kt
        obtain ⟨cl58, Ar58, q58, S58, M58, H58, G58⟩ := id V54
        have hin58 : ¬ ((1 : Int32) < 0 ∨ cl58.slots.size ≤ ((1 : Int32)).toNatClampNeg) := inb_of S58 ⟨by decide, by decide⟩
        obtain ⟨T58, h58, X58, e58, W58, st58⟩ := stC X54 hx hZ e54 Ar58 (j := (1 : Int32)) hin58 (g := (mkF m 167 #[.val (.int p0), .val (.int p1), .val (.int p2), .val (.int p3), .val (.int 1), .val (.int kd), .val (.int dc), .val (.int ec), .unset, .unset, .unset] [(.int 45), (.int 1), (.ref b51), (.ref b51)])) rfl rfl (hb hby at_167)
        obtain ⟨clv60, Arv60, -⟩ := id V54
        have CH59 := CH55.trans (CHr.wr W58 (Safe.arr hZ.alike Arv60 (by decide)) CH55.1)
        have Z61 : n0 ≤ h58.size := Nat.le_trans Z57 (Nat.le_of_eq W58.size.symm)
        have Z61h : h0.size ≤ h58.size := Nat.le_trans Z57h (Nat.le_of_eq W58.size.symm)
        have V58 : Arv Z h58 b51 k51 .char (5 : Int32) [(.int 45), (.int 45), (.int 0), (.int 0), (.int 0)] (.int 0) := Arv.set Ar58 q58 S58 M58 H58 G58 (fits_nar_char _) W58 1 rfl (Nat.le_of_ble_eq_true rfl)
        obtain ⟨lc58, X58, N58⟩ := own_pack1 X58 N54 g_b51
        refine own_thrH (a := T58.setTop (mkF m 168 #[.val (.int p0), .val (.int p1), .val (.int p2), .val (.int p3), .val (.int 1), .val (.int kd), .val (.int dc), .val (.int ec), .unset, .unset, .unset] [(.ref b51)])) (fun t kt => st58 t kt) ?_
        refine own_thrH (a := T58.setTop (mkF m 172 #[.val (.int p0), .val (.int p1), .val (.int p2), .val (.int p3), .val (.int 1), .val (.int kd), .val (.int dc), .val (.int ec), .unset, .unset, .unset] [(.int 117), (.int 2), (.ref b51), (.ref b51)])) (fun t kt => ?_) ?_
        · refine XS.dup X58.here hx rfl (hb hby at_168) rfl rfl ?_
          refine XS.iconst X58.here hx rfl (hb hby at_169) ?_
          refine XS.bipush X58.here hx rfl (hb hby at_170) ?_
          exact kt
        obtain ⟨cl62, Ar62, q62, S62, M62, H62, G62⟩ := id V58
        have hin62 : ¬ ((2 : Int32) < 0 ∨ cl62.slots.size ≤ ((2 : Int32)).toNatClampNeg) := inb_of S62 ⟨by decide, by decide⟩
        obtain ⟨T62, h62, X62, e62, W62, st62⟩ := stC X58 hx hZ e58 Ar62 (j := (2 : Int32)) hin62 (g := (mkF m 172 #[.val (.int p0), .val (.int p1), .val (.int p2), .val (.int p3), .val (.int 1), .val (.int kd), .val (.int dc), .val (.int ec), .unset, .unset, .unset] [(.int 117), (.int 2), (.ref b51), (.ref b51)])) rfl rfl (hb hby at_172)
        obtain ⟨clv64, Arv64, -⟩ := id V58
        have CH63 := CH59.trans (CHr.wr W62 (Safe.arr hZ.alike Arv64 (by decide)) CH59.1)
        have Z65 : n0 ≤ h62.size := Nat.le_trans Z61 (Nat.le_of_eq W62.size.symm)
        have Z65h : h0.size ≤ h62.size := Nat.le_trans Z61h (Nat.le_of_eq W62.size.symm)
        have V62 : Arv Z h62 b51 k51 .char (5 : Int32) [(.int 45), (.int 45), (.int 117), (.int 0), (.int 0)] (.int 0) := Arv.set Ar62 q62 S62 M62 H62 G62 (fits_nar_char _) W62 2 rfl (Nat.le_of_ble_eq_true rfl)
        obtain ⟨lc62, X62, N62⟩ := own_pack1 X62 N58 g_b51
        refine own_thrH (a := T62.setTop (mkF m 173 #[.val (.int p0), .val (.int p1), .val (.int p2), .val (.int p3), .val (.int 1), .val (.int kd), .val (.int dc), .val (.int ec), .unset, .unset, .unset] [(.ref b51)])) (fun t kt => st62 t kt) ?_
        refine own_thrH (a := T62.setTop (mkF m 177 #[.val (.int p0), .val (.int p1), .val (.int p2), .val (.int p3), .val (.int 1), .val (.int kd), .val (.int dc), .val (.int ec), .unset, .unset, .unset] [(.int 114), (.int 3), (.ref b51), (.ref b51)])) (fun t kt => ?_) ?_
        · refine XS.dup X62.here hx rfl (hb hby at_173) rfl rfl ?_
          refine XS.iconst X62.here hx rfl (hb hby at_174) ?_
          refine XS.bipush X62.here hx rfl (hb hby at_175) ?_
          exact kt
        obtain ⟨cl66, Ar66, q66, S66, M66, H66, G66⟩ := id V62
        have hin66 : ¬ ((3 : Int32) < 0 ∨ cl66.slots.size ≤ ((3 : Int32)).toNatClampNeg) := inb_of S66 ⟨by decide, by decide⟩
        obtain ⟨T66, h66, X66, e66, W66, st66⟩ := stC X62 hx hZ e62 Ar66 (j := (3 : Int32)) hin66 (g := (mkF m 177 #[.val (.int p0), .val (.int p1), .val (.int p2), .val (.int p3), .val (.int 1), .val (.int kd), .val (.int dc), .val (.int ec), .unset, .unset, .unset] [(.int 114), (.int 3), (.ref b51), (.ref b51)])) rfl rfl (hb hby at_177)
        obtain ⟨clv68, Arv68, -⟩ := id V62
        have CH67 := CH63.trans (CHr.wr W66 (Safe.arr hZ.alike Arv68 (by decide)) CH63.1)
        have Z69 : n0 ≤ h66.size := Nat.le_trans Z65 (Nat.le_of_eq W66.size.symm)
        have Z69h : h0.size ≤ h66.size := Nat.le_trans Z65h (Nat.le_of_eq W66.size.symm)
        have V66 : Arv Z h66 b51 k51 .char (5 : Int32) [(.int 45), (.int 45), (.int 117), (.int 114), (.int 0)] (.int 0) := Arv.set Ar66 q66 S66 M66 H66 G66 (fits_nar_char _) W66 3 rfl (Nat.le_of_ble_eq_true rfl)
        obtain ⟨lc66, X66, N66⟩ := own_pack1 X66 N62 g_b51
        refine own_thrH (a := T66.setTop (mkF m 178 #[.val (.int p0), .val (.int p1), .val (.int p2), .val (.int p3), .val (.int 1), .val (.int kd), .val (.int dc), .val (.int ec), .unset, .unset, .unset] [(.ref b51)])) (fun t kt => st66 t kt) ?_
        refine own_thrH (a := T66.setTop (mkF m 182 #[.val (.int p0), .val (.int p1), .val (.int p2), .val (.int p3), .val (.int 1), .val (.int kd), .val (.int dc), .val (.int ec), .unset, .unset, .unset] [(.int 108), (.int 4), (.ref b51), (.ref b51)])) (fun t kt => ?_) ?_
        · refine XS.dup X66.here hx rfl (hb hby at_178) rfl rfl ?_
          refine XS.iconst X66.here hx rfl (hb hby at_179) ?_
          refine XS.bipush X66.here hx rfl (hb hby at_180) ?_
          exact kt
        obtain ⟨cl70, Ar70, q70, S70, M70, H70, G70⟩ := id V66
        have hin70 : ¬ ((4 : Int32) < 0 ∨ cl70.slots.size ≤ ((4 : Int32)).toNatClampNeg) := inb_of S70 ⟨by decide, by decide⟩
        obtain ⟨T70, h70, X70, e70, W70, st70⟩ := stC X66 hx hZ e66 Ar70 (j := (4 : Int32)) hin70 (g := (mkF m 182 #[.val (.int p0), .val (.int p1), .val (.int p2), .val (.int p3), .val (.int 1), .val (.int kd), .val (.int dc), .val (.int ec), .unset, .unset, .unset] [(.int 108), (.int 4), (.ref b51), (.ref b51)])) rfl rfl (hb hby at_182)
        obtain ⟨clv72, Arv72, -⟩ := id V66
        have CH71 := CH67.trans (CHr.wr W70 (Safe.arr hZ.alike Arv72 (by decide)) CH67.1)
        have Z73 : n0 ≤ h70.size := Nat.le_trans Z69 (Nat.le_of_eq W70.size.symm)
        have Z73h : h0.size ≤ h70.size := Nat.le_trans Z69h (Nat.le_of_eq W70.size.symm)
        have V70 : Arv Z h70 b51 k51 .char (5 : Int32) [(.int 45), (.int 45), (.int 117), (.int 114), (.int 108)] (.int 0) := Arv.set Ar70 q70 S70 M70 H70 G70 (fits_nar_char _) W70 4 rfl (Nat.le_of_ble_eq_true rfl)
        obtain ⟨lc70, X70, N70⟩ := own_pack1 X70 N66 g_b51
        refine own_thrH (a := T70.setTop (mkF m 183 #[.val (.int p0), .val (.int p1), .val (.int p2), .val (.int p3), .val (.int 1), .val (.int kd), .val (.int dc), .val (.int ec), .unset, .unset, .unset] [(.ref b51)])) (fun t kt => st70 t kt) ?_
        refine own_thrH (a := T70.setTop (mkF m 230 #[.val (.int p0), .val (.int p1), .val (.int p2), .val (.int p3), .val (.int 1), .val (.int kd), .val (.int dc), .val (.int ec), .unset, .val (.ref b51), .unset] [(.ref b51)])) (fun t kt => ?_) ?_
        · refine XS.goto X70.here hx rfl (pc0 := 183) (pc' := 226) rfl (hb hby at_183) (by decide) (by decide) ?_
          refine XS.astore X70.here hx rfl (hb hby at_226) rfl rfl (l' := #[.val (.int p0), .val (.int p1), .val (.int p2), .val (.int p3), .val (.int 1), .val (.int kd), .val (.int dc), .val (.int ec), .unset, .val (.ref b51), .unset]) rfl ?_
          refine XS.aload X70.here hx rfl (hb hby at_228) rfl rfl ?_
          exact kt
        obtain ⟨cl74, Ar74, -, S74, M74, -, -⟩ := id V70
        refine own_thrH (a := T70.setTop (mkF m 244 #[.val (.int p0), .val (.int p1), .val (.int p2), .val (.int p3), .val (.int 1), .val (.int kd), .val (.int dc), .val (.int ec), .unset, .val (.ref b51), .val (.int 5)] [(.int dc), (.int ((p1 &&& (2147483647 : Int32)) % (5 : Int32))), (.ref b51)])) (fun t kt => ?_) ?_
        · refine X70.arraylength hx (by rw [e70]; exact Ar74.1) (State.isArrayOf_alike hZ.alike Ar74.2.1) (g := (mkF m 230 #[.val (.int p0), .val (.int p1), .val (.int p2), .val (.int p3), .val (.int 1), .val (.int kd), .val (.int dc), .val (.int ec), .unset, .val (.ref b51), .unset] [(.ref b51)])) rfl rfl (hb hby at_230) _ ?_
          rw [len_of S74 M74]
          refine XS.istore X70.here hx rfl (hb hby at_231) rfl (l' := #[.val (.int p0), .val (.int p1), .val (.int p2), .val (.int p3), .val (.int 1), .val (.int kd), .val (.int dc), .val (.int ec), .unset, .val (.ref b51), .val (.int 5)]) rfl ?_
          refine XS.aload X70.here hx rfl (hb hby at_233) rfl rfl ?_
          refine XS.iloadN X70.here hx rfl (hb hby at_235) rfl ?_
          refine X70.ldcInt hx hown (mvT hZ (hw _ (own_i 112 rfl))) (g := (mkF m 236 #[.val (.int p0), .val (.int p1), .val (.int p2), .val (.int p3), .val (.int 1), .val (.int kd), .val (.int dc), .val (.int ec), .unset, .val (.ref b51), .val (.int 5)] [(.int p1), (.ref b51)])) rfl (hb hby at_236) _ ?_
          refine XS.iand X70.here hx rfl (hb hby at_238) rfl ?_
          refine XS.iload X70.here hx rfl (hb hby at_239) rfl ?_
          refine iremM X70 hx rfl (hb hby at_241) rfl (by decide) ?_
          refine XS.iload X70.here hx rfl (hb hby at_242) rfl ?_
          exact kt
        obtain ⟨cl75, Ar75, q75, S75, M75, H75, G75⟩ := id V70
        have hin75 : ¬ (((p1 &&& (2147483647 : Int32)) % (5 : Int32)) < 0 ∨ cl75.slots.size ≤ (((p1 &&& (2147483647 : Int32)) % (5 : Int32))).toNatClampNeg) := inb_of S75 (own_rem _ (5 : Int32) (own_p1 _) (by decide)).1
        obtain ⟨T75, h75, X75, e75, W75, st75⟩ := stC X70 hx hZ e70 Ar75 (j := ((p1 &&& (2147483647 : Int32)) % (5 : Int32))) hin75 (g := (mkF m 244 #[.val (.int p0), .val (.int p1), .val (.int p2), .val (.int p3), .val (.int 1), .val (.int kd), .val (.int dc), .val (.int ec), .unset, .val (.ref b51), .val (.int 5)] [(.int dc), (.int ((p1 &&& (2147483647 : Int32)) % (5 : Int32))), (.ref b51)])) rfl rfl (hb hby at_244)
        obtain ⟨clv77, Arv77, -⟩ := id V70
        have CH76 := CH71.trans (CHr.wr W75 (Safe.arr hZ.alike Arv77 (by decide)) CH71.1)
        have Z78 : n0 ≤ h75.size := Nat.le_trans Z73 (Nat.le_of_eq W75.size.symm)
        have Z78h : h0.size ≤ h75.size := Nat.le_trans Z73h (Nat.le_of_eq W75.size.symm)
        have V75 : Arv Z h75 b51 k51 .char (5 : Int32) (([(.int 45), (.int 45), (.int 117), (.int 114), (.int 108)] : List Value).set (((p1 &&& (2147483647 : Int32)) % (5 : Int32))).toNatClampNeg (.int (dc.toUInt32.toUInt16.toUInt32.toInt32))) (.int 0) := Arv.set Ar75 q75 S75 M75 H75 G75 (fits_nar_char _) W75 (((p1 &&& (2147483647 : Int32)) % (5 : Int32))).toNatClampNeg rfl (own_rem _ (5 : Int32) (own_p1 _) (by decide)).2
        obtain ⟨lc75, X75, N75⟩ := own_pack1 X75 N70 g_b51
        refine own_thrH (a := T75.setTop (mkF m 245 #[.val (.int p0), .val (.int p1), .val (.int p2), .val (.int p3), .val (.int 1), .val (.int kd), .val (.int dc), .val (.int ec), .unset, .val (.ref b51), .val (.int 5)] [])) (fun t kt => st75 t kt) ?_
        obtain ⟨g79_0, g79_1, g79_2, g79_3, g79_4, eg79, lg79_0, lg79_1, lg79_2, lg79_3, lg79_4⟩ := own_set5 (45 : Int32) (45 : Int32) (117 : Int32) (114 : Int32) (108 : Int32) (dc.toUInt32.toUInt16.toUInt32.toInt32) (((p1 &&& (2147483647 : Int32)) % (5 : Int32))).toNatClampNeg ⟨by decide, by decide⟩ ⟨by decide, by decide⟩ ⟨by decide, by decide⟩ ⟨by decide, by decide⟩ ⟨by decide, by decide⟩ mdc
        have Vg79 := V75
        rw [eg79] at Vg79
        refine own_thrH (a := T75.setTop (mkF m 260 #[.val (.int p0), .val (.int p1), .val (.int p2), .val (.int p3), .val (.int 1), .val (.int kd), .val (.int dc), .val (.int ec), .unset, .val (.ref b51), .val (.int 5)] [(.int ec), (.int ((((p1.toUInt32 >>> ((16 : Int32) &&& 31).toUInt32).toInt32) &&& (32767 : Int32)) % (5 : Int32))), (.ref b51)])) (fun t kt => ?_) ?_
        · refine XS.aload X75.here hx rfl (hb hby at_245) rfl rfl ?_
          refine XS.iloadN X75.here hx rfl (hb hby at_247) rfl ?_
          refine XS.bipush X75.here hx rfl (hb hby at_248) ?_
          refine XS.iushr X75.here hx rfl (hb hby at_250) rfl ?_
          refine XS.sipush X75.here hx rfl (hb hby at_251) ?_
          refine XS.iand X75.here hx rfl (hb hby at_254) rfl ?_
          refine XS.iload X75.here hx rfl (hb hby at_255) rfl ?_
          refine iremM X75 hx rfl (hb hby at_257) rfl (by decide) ?_
          refine XS.iload X75.here hx rfl (hb hby at_258) rfl ?_
          exact kt
        obtain ⟨cl80, Ar80, q80, S80, M80, H80, G80⟩ := id Vg79
        have hin80 : ¬ (((((p1.toUInt32 >>> ((16 : Int32) &&& 31).toUInt32).toInt32) &&& (32767 : Int32)) % (5 : Int32)) < 0 ∨ cl80.slots.size ≤ (((((p1.toUInt32 >>> ((16 : Int32) &&& 31).toUInt32).toInt32) &&& (32767 : Int32)) % (5 : Int32))).toNatClampNeg) := inb_of S80 (own_rem _ (5 : Int32) (own_p2 _) (by decide)).1
        obtain ⟨T80, h80, X80, e80, W80, st80⟩ := stC X75 hx hZ e75 Ar80 (j := ((((p1.toUInt32 >>> ((16 : Int32) &&& 31).toUInt32).toInt32) &&& (32767 : Int32)) % (5 : Int32))) hin80 (g := (mkF m 260 #[.val (.int p0), .val (.int p1), .val (.int p2), .val (.int p3), .val (.int 1), .val (.int kd), .val (.int dc), .val (.int ec), .unset, .val (.ref b51), .val (.int 5)] [(.int ec), (.int ((((p1.toUInt32 >>> ((16 : Int32) &&& 31).toUInt32).toInt32) &&& (32767 : Int32)) % (5 : Int32))), (.ref b51)])) rfl rfl (hb hby at_260)
        obtain ⟨clv82, Arv82, -⟩ := id Vg79
        have CH81 := CH76.trans (CHr.wr W80 (Safe.arr hZ.alike Arv82 (by decide)) CH76.1)
        have Z83 : n0 ≤ h80.size := Nat.le_trans Z78 (Nat.le_of_eq W80.size.symm)
        have Z83h : h0.size ≤ h80.size := Nat.le_trans Z78h (Nat.le_of_eq W80.size.symm)
        have V80 : Arv Z h80 b51 k51 .char (5 : Int32) (([(.int g79_0), (.int g79_1), (.int g79_2), (.int g79_3), (.int g79_4)] : List Value).set (((((p1.toUInt32 >>> ((16 : Int32) &&& 31).toUInt32).toInt32) &&& (32767 : Int32)) % (5 : Int32))).toNatClampNeg (.int (ec.toUInt32.toUInt16.toUInt32.toInt32))) (.int 0) := Arv.set Ar80 q80 S80 M80 H80 G80 (fits_nar_char _) W80 (((((p1.toUInt32 >>> ((16 : Int32) &&& 31).toUInt32).toInt32) &&& (32767 : Int32)) % (5 : Int32))).toNatClampNeg rfl (own_rem _ (5 : Int32) (own_p2 _) (by decide)).2
        obtain ⟨lc80, X80, N80⟩ := own_pack1 X80 N75 g_b51
        refine own_thrH (a := T80.setTop (mkF m 261 #[.val (.int p0), .val (.int p1), .val (.int p2), .val (.int p3), .val (.int 1), .val (.int kd), .val (.int dc), .val (.int ec), .unset, .val (.ref b51), .val (.int 5)] [])) (fun t kt => st80 t kt) ?_
        obtain ⟨g84_0, g84_1, g84_2, g84_3, g84_4, eg84, lg84_0, lg84_1, lg84_2, lg84_3, lg84_4⟩ := own_set5 g79_0 g79_1 g79_2 g79_3 g79_4 (ec.toUInt32.toUInt16.toUInt32.toInt32) (((((p1.toUInt32 >>> ((16 : Int32) &&& 31).toUInt32).toInt32) &&& (32767 : Int32)) % (5 : Int32))).toNatClampNeg lg79_0 lg79_1 lg79_2 lg79_3 lg79_4 mec
        have Vg84 := V80
        rw [eg84] at Vg84
        have c86 := ((((((((F_flu.ext E51).other W54 (Or.inl ne_ou_b51)).other W58 (Or.inl ne_ou_b51)).other W62 (Or.inl ne_ou_b51)).other W66 (Or.inl ne_ou_b51)).other W70 (Or.inl ne_ou_b51)).other W75 (Or.inl ne_ou_b51)).other W80 (Or.inl ne_ou_b51))
        have c87 := ((((((((E_flu.ext E51).wr W54).wr W58).wr W62).wr W66).wr W70).wr W75).wr W80)
        have c88 := ((((((((V_fvu.ext E51).other W54 ne_fvu_b51).other W58 ne_fvu_b51).other W62 ne_fvu_b51).other W66 ne_fvu_b51).other W70 ne_fvu_b51).other W75 ne_fvu_b51).other W80 ne_fvu_b51)
        have c89 := ((((((((F_flq.ext E51).other W54 (Or.inl ne_oq_b51)).other W58 (Or.inl ne_oq_b51)).other W62 (Or.inl ne_oq_b51)).other W66 (Or.inl ne_oq_b51)).other W70 (Or.inl ne_oq_b51)).other W75 (Or.inl ne_oq_b51)).other W80 (Or.inl ne_oq_b51))
        have c90 := ((((((((E_flq.ext E51).wr W54).wr W58).wr W62).wr W66).wr W70).wr W75).wr W80)
        have c91 := ((((((((V_fvq.ext E51).other W54 ne_fvq_b51).other W58 ne_fvq_b51).other W62 ne_fvq_b51).other W66 ne_fvq_b51).other W70 ne_fvq_b51).other W75 ne_fvq_b51).other W80 ne_fvq_b51)
        have c92 := ((((((((E_em.ext E51).wr W54).wr W58).wr W62).wr W66).wr W70).wr W75).wr W80)
        obtain ⟨T85, h85, X85, e85, E85, A85, D85, U85, st85⟩ := newO X80 hx hZ hown (hw _ (own_i 0 rfl)) (hw _ (own_i 1 rfl)) (hw _ (own_i 2 rfl)) e80 (g := (mkF m 261 #[.val (.int p0), .val (.int p1), .val (.int p2), .val (.int p3), .val (.int 1), .val (.int kd), .val (.int dc), .val (.int ec), .unset, .val (.ref b51), .val (.int 5)] [])) rfl (hb hby at_261) (by decide : 1 + 1 ≤ _) (by decide : 5 + 4 ≤ _)
        obtain ⟨b85, g85⟩ : ∃ z, z = h80.size := ⟨_, rfl⟩
        rw [← g85] at A85 D85 st85 U85
        have g_b85 : n0 ≤ b85 := Nat.le_trans Z83 (Nat.le_of_eq g85.symm)
        have sz_b85 : h0.size ≤ b85 := Nat.le_trans Z83h (Nat.le_of_eq g85.symm)
        have lt_ou_b85 : ou < b85 := Nat.lt_of_lt_of_le c86.lt (Nat.le_of_eq g85.symm)
        have ne_ou_b85 : ou ≠ b85 := Nat.ne_of_lt lt_ou_b85
        have lt_flu_b85 : flu < b85 := Nat.lt_of_lt_of_le c87.lt (Nat.le_of_eq g85.symm)
        have ne_flu_b85 : flu ≠ b85 := Nat.ne_of_lt lt_flu_b85
        have lt_fvu_b85 : fvu < b85 := Nat.lt_of_lt_of_le c88.lt (Nat.le_of_eq g85.symm)
        have ne_fvu_b85 : fvu ≠ b85 := Nat.ne_of_lt lt_fvu_b85
        have lt_oq_b85 : oq < b85 := Nat.lt_of_lt_of_le c89.lt (Nat.le_of_eq g85.symm)
        have ne_oq_b85 : oq ≠ b85 := Nat.ne_of_lt lt_oq_b85
        have lt_flq_b85 : flq < b85 := Nat.lt_of_lt_of_le c90.lt (Nat.le_of_eq g85.symm)
        have ne_flq_b85 : flq ≠ b85 := Nat.ne_of_lt lt_flq_b85
        have lt_fvq_b85 : fvq < b85 := Nat.lt_of_lt_of_le c91.lt (Nat.le_of_eq g85.symm)
        have ne_fvq_b85 : fvq ≠ b85 := Nat.ne_of_lt lt_fvq_b85
        have lt_em_b85 : em < b85 := Nat.lt_of_lt_of_le c92.lt (Nat.le_of_eq g85.symm)
        have ne_em_b85 : em ≠ b85 := Nat.ne_of_lt lt_em_b85
        have lt_b51_b85 : b51 < b85 := Nat.lt_of_lt_of_le Vg84.lt (Nat.le_of_eq g85.symm)
        have ne_b51_b85 : b51 ≠ b85 := Nat.ne_of_lt lt_b51_b85
        have CH93 := CH81.trans (CHr.ext E85 CH81.1)
        have Z94 : n0 ≤ h85.size := Nat.le_trans Z83 E85.1
        have Z94h : h0.size ≤ h85.size := Nat.le_trans Z83h E85.1
        have F_coder_b85 : Fld Z h85 b85 "java/lang/String" "coder" "B" (.int 0) := D85 (Or.inr (hw _ (own_i 27 rfl))) (ty := .byte) (by decide)
        have F_value_b85 : Fld Z h85 b85 "java/lang/String" "value" "[B" .null := D85 (Or.inr (hw _ (own_i 29 rfl))) (ty := (.array .byte)) (by decide)
        refine own_thrH (a := T85.setTop (mkF m 264 #[.val (.int p0), .val (.int p1), .val (.int p2), .val (.int p3), .val (.int 1), .val (.int kd), .val (.int dc), .val (.int ec), .unset, .val (.ref b51), .val (.int 5)] [(.ref b85)])) (fun t kt => st85 t kt) ?_
        refine own_thrH (a := T85.setTop (mkF m 267 #[.val (.int p0), .val (.int p1), .val (.int p2), .val (.int p3), .val (.int 1), .val (.int kd), .val (.int dc), .val (.int ec), .unset, .val (.ref b51), .val (.int 5)] [(.ref b51), (.ref b85), (.ref b85)])) (fun t kt => ?_) ?_
        · refine XS.dup X85.here hx rfl (hb hby at_264) rfl rfl ?_
          refine XS.aload X85.here hx rfl (hb hby at_265) rfl rfl ?_
          exact kt
        have c96 := (((((((((hO.ext E51).wr W54 g_b51).wr W58 g_b51).wr W62 g_b51).wr W66 g_b51).wr W70 g_b51).wr W75 g_b51).wr W80 g_b51).ext E85)
        obtain ⟨_, _, ⟨T95, L95, k95, n95⟩, -, X95, ⟨Lc95, hQ95, l95, y95, z95⟩, st95⟩ := X85.specialBack hx (y := (⟨"java/lang/String", "<init>", "([C)V"⟩ : MethodName)) rfl hown (mvT hZ (hw _ (own_i 4 rfl))) (mvT hZ (hw _ (own_i 5 rfl))) (mvT hZ (hw _ (own_i 6 rfl))) (by decide) (StrChars.Road.backV hZ (fun d hd => hw d (own_sw d hd)) (hw _ (own_i 1 rfl)) (x := b85) (b := b51) (cs := [g84_0, g84_1, g84_2, g84_3, g84_4]) (bs := [(g84_0.toInt8.toInt32), (g84_1.toInt8.toInt32), (g84_2.toInt8.toInt32), (g84_3.toInt8.toInt32), (g84_4.toInt8.toInt32)]) (n := 5) (W := 1) g_b85 Z94 A85 F_value_b85 F_coder_b85 (Vg84.ext E85) (S_cs.ext c96.2) hcs rfl rfl (by decide) (by decide) (own_fa lg84_0 (own_fa lg84_1 (own_fa lg84_2 (own_fa lg84_3 (own_fa lg84_4 own_f0))))) rfl (by decide) (by decide)) (g := (mkF m 267 #[.val (.int p0), .val (.int p1), .val (.int p2), .val (.int p3), .val (.int 1), .val (.int kd), .val (.int dc), .val (.int ec), .unset, .val (.ref b51), .val (.int 5)] [(.ref b51), (.ref b85), (.ref b85)])) rfl (by rw [hml]; rfl) (Steps.refl _) (a := b85) (argsL := [(.ref b51)]) (rest := [(.ref b85)]) (lenOf pd__28_5bC_29V rfl) rfl (by show 2 * 0 + _ ≤ _; exact Nat.le_of_eq rfl) (hb hby at_267) (fun _ _ => ⟨rfl, e85, (by decide : 2 + 1 ≤ _), (by decide : 9 + 5 ≤ _)⟩)
        dsimp only [Pt.U, Pt.locs, Pt.cells, Pt.slots] at X95 l95 y95 z95 st95 hQ95
        obtain ⟨rfl, N95q, K95, o95_e, o95_c, sv95, ks95, -, -, -, o95_v, o95_A⟩ := hQ95
        have sf98 := own_safe (EL := own_EL) hZ.alike A85 F_value_b85
        have sf99 := Safe.keep K95 (allS sf98 all0) CH93.1 sf98
        have CH97 := CH93.trans (CHr.keep K95 (allS sf98 all0) CH93.1)
        have Z100 : n0 ≤ T95.heap.size := Nat.le_trans Z94 K95.1
        have Z100h : h0.size ≤ T95.heap.size := Nat.le_trans Z94h K95.1
        have o95_a : Arv Z T95.heap sv95 ks95 .byte (5 : Int32) [(.int (g84_0.toInt8.toInt32)), (.int (g84_1.toInt8.toInt32)), (.int (g84_2.toInt8.toInt32)), (.int (g84_3.toInt8.toInt32)), (.int (g84_4.toInt8.toInt32))] (.int 0) := o95_A
        obtain ⟨lc95, X95, N95⟩ := own_pack X95 l95 y95 z95 N80 N95q (C := 3) (S' := 14) rfl rfl
        refine own_thrH (a := T95.setTop (mkF m 270 #[.val (.int p0), .val (.int p1), .val (.int p2), .val (.int p3), .val (.int 1), .val (.int kd), .val (.int dc), .val (.int ec), .unset, .val (.ref b51), .val (.int 5)] [(.ref b85)])) (fun t kt => st95.trans kt) ?_
        refine own_thrH (a := T95.setTop (mkF m 510 #[.val (.int p0), .val (.int p1), .val (.int p2), .val (.int p3), .val (.int 1), .val (.int kd), .val (.int dc), .val (.int ec), .val (.ref b85), .val (.ref b51), .val (.int 5)] [])) (fun t kt => ?_) ?_
        · refine XS.astore X95.here hx rfl (hb hby at_270) rfl rfl (l' := #[.val (.int p0), .val (.int p1), .val (.int p2), .val (.int p3), .val (.int 1), .val (.int kd), .val (.int dc), .val (.int ec), .val (.ref b85), .val (.ref b51), .val (.int 5)]) rfl ?_
          refine XS.goto X95.here hx rfl (pc0 := 272) (pc' := 510) rfl (hb hby at_272) (by decide) (by decide) ?_
          exact kt
        by_cases hm : (g84_0.toInt8.toInt32) = (45 : Int32) ∧ (g84_1.toInt8.toInt32) = (45 : Int32) ∧ (g84_2.toInt8.toInt32) = (117 : Int32) ∧ (g84_3.toInt8.toInt32) = (114 : Int32) ∧ (g84_4.toInt8.toInt32) = (108 : Int32)
        · obtain ⟨hm0, hm1, hm2, hm3, hm4⟩ := id hm
          have V101 := o95_a
          rw [hm0, hm1, hm2, hm3, hm4] at V101
          have c102 := ((((((((((F_fvu.ext E51).other W54 (Or.inl ne_flu_b51)).other W58 (Or.inl ne_flu_b51)).other W62 (Or.inl ne_flu_b51)).other W66 (Or.inl ne_flu_b51)).other W70 (Or.inl ne_flu_b51)).other W75 (Or.inl ne_flu_b51)).other W80 (Or.inl ne_flu_b51)).ext E85).keep K95 (ninS ne_flu_b85 nin0))
          have c103 := ((((((((((F_fluc.ext E51).other W54 (Or.inl ne_flu_b51)).other W58 (Or.inl ne_flu_b51)).other W62 (Or.inl ne_flu_b51)).other W66 (Or.inl ne_flu_b51)).other W70 (Or.inl ne_flu_b51)).other W75 (Or.inl ne_flu_b51)).other W80 (Or.inl ne_flu_b51)).ext E85).keep K95 (ninS ne_flu_b85 nin0))
          have c104 := ((((((((((F_fvq.ext E51).other W54 (Or.inl ne_flq_b51)).other W58 (Or.inl ne_flq_b51)).other W62 (Or.inl ne_flq_b51)).other W66 (Or.inl ne_flq_b51)).other W70 (Or.inl ne_flq_b51)).other W75 (Or.inl ne_flq_b51)).other W80 (Or.inl ne_flq_b51)).ext E85).keep K95 (ninS ne_flq_b85 nin0))
          have c105 := ((((((((((F_flqc.ext E51).other W54 (Or.inl ne_flq_b51)).other W58 (Or.inl ne_flq_b51)).other W62 (Or.inl ne_flq_b51)).other W66 (Or.inl ne_flq_b51)).other W70 (Or.inl ne_flq_b51)).other W75 (Or.inl ne_flq_b51)).other W80 (Or.inl ne_flq_b51)).ext E85).keep K95 (ninS ne_flq_b85 nin0))
          have c106 := ((((((((((F_em.ext E51).other W54 (Or.inl ne_em_b51)).other W58 (Or.inl ne_em_b51)).other W62 (Or.inl ne_em_b51)).other W66 (Or.inl ne_em_b51)).other W70 (Or.inl ne_em_b51)).other W75 (Or.inl ne_em_b51)).other W80 (Or.inl ne_em_b51)).ext E85).keep K95 (ninS ne_em_b85 nin0))
          exact own_tailU p0 p1 p2 p3 va kv ou oq em flu fvu kfu flq fvq kfq cs hw hx hby hml hlk Bd.returns hh hEL hZ hown hS0 (Nat.zero_le _) CH97 Z100 Z100h _ _ _ _ b85 sv95 ks95 _ _ (Or.inr ⟨_, rfl, rfl⟩) (Or.inr ⟨_, rfl, rfl⟩) S_V V_va E_va hfit S_em S_cs hcs (c96.keep K95 (allS g_b85 all0)) ((c86.ext E85).keep K95 (ninS ne_ou_b85 nin0)) ((c87.ext E85).keep K95) c102 c103 ((c88.ext E85).keep K95 (ninS ne_fvu_b85 nin0)) ((c89.ext E85).keep K95 (ninS ne_oq_b85 nin0)) ((c90.ext E85).keep K95) c104 c105 ((c91.ext E85).keep K95 (ninS ne_fvq_b85 nin0)) S_ou S_oq ((c92.ext E85).keep K95) c106 o95_e o95_v o95_c V101 (by decide) (by decide) X95 N95 rfl
        · have c107 := ((((((((((F_fvu.ext E51).other W54 (Or.inl ne_flu_b51)).other W58 (Or.inl ne_flu_b51)).other W62 (Or.inl ne_flu_b51)).other W66 (Or.inl ne_flu_b51)).other W70 (Or.inl ne_flu_b51)).other W75 (Or.inl ne_flu_b51)).other W80 (Or.inl ne_flu_b51)).ext E85).keep K95 (ninS ne_flu_b85 nin0))
          have c108 := ((((((((((F_fluc.ext E51).other W54 (Or.inl ne_flu_b51)).other W58 (Or.inl ne_flu_b51)).other W62 (Or.inl ne_flu_b51)).other W66 (Or.inl ne_flu_b51)).other W70 (Or.inl ne_flu_b51)).other W75 (Or.inl ne_flu_b51)).other W80 (Or.inl ne_flu_b51)).ext E85).keep K95 (ninS ne_flu_b85 nin0))
          have c109 := ((((((((((F_fvq.ext E51).other W54 (Or.inl ne_flq_b51)).other W58 (Or.inl ne_flq_b51)).other W62 (Or.inl ne_flq_b51)).other W66 (Or.inl ne_flq_b51)).other W70 (Or.inl ne_flq_b51)).other W75 (Or.inl ne_flq_b51)).other W80 (Or.inl ne_flq_b51)).ext E85).keep K95 (ninS ne_flq_b85 nin0))
          have c110 := ((((((((((F_flqc.ext E51).other W54 (Or.inl ne_flq_b51)).other W58 (Or.inl ne_flq_b51)).other W62 (Or.inl ne_flq_b51)).other W66 (Or.inl ne_flq_b51)).other W70 (Or.inl ne_flq_b51)).other W75 (Or.inl ne_flq_b51)).other W80 (Or.inl ne_flq_b51)).ext E85).keep K95 (ninS ne_flq_b85 nin0))
          have c111 := ((((((((((F_em.ext E51).other W54 (Or.inl ne_em_b51)).other W58 (Or.inl ne_em_b51)).other W62 (Or.inl ne_em_b51)).other W66 (Or.inl ne_em_b51)).other W70 (Or.inl ne_em_b51)).other W75 (Or.inl ne_em_b51)).other W80 (Or.inl ne_em_b51)).ext E85).keep K95 (ninS ne_em_b85 nin0))
          exact own_tailA p0 p1 p2 p3 va kv ou oq em flu fvu kfu flq fvq kfq cs hw hx hby hml hlk Bd.returns hh hEL hZ hown hS0 (Nat.zero_le _) CH97 Z100 Z100h _ _ _ _ b85 sv95 ks95 (g84_0.toInt8.toInt32) (g84_1.toInt8.toInt32) (g84_2.toInt8.toInt32) (g84_3.toInt8.toInt32) (g84_4.toInt8.toInt32) _ _ (Or.inr ⟨_, rfl, rfl⟩) (Or.inr ⟨_, rfl, rfl⟩) S_V V_va E_va hfit S_em S_cs hcs (c96.keep K95 (allS g_b85 all0)) ((c86.ext E85).keep K95 (ninS ne_ou_b85 nin0)) ((c87.ext E85).keep K95) c107 c108 ((c88.ext E85).keep K95 (ninS ne_fvu_b85 nin0)) ((c89.ext E85).keep K95 (ninS ne_oq_b85 nin0)) ((c90.ext E85).keep K95) c109 c110 ((c91.ext E85).keep K95 (ninS ne_fvq_b85 nin0)) S_ou S_oq ((c92.ext E85).keep K95) c111 o95_e o95_v o95_c o95_a hm (by decide) (by decide) X95 N95 rfl
      · refine own_thrH (a := s₁.setTop (mkF m 147 #[.val (.int p0), .val (.int p1), .val (.int p2), .val (.int p3), .val (.int 1), .val (.int kd), .val (.int dc), .val (.int ec), .unset, .unset, .unset] [(.int 7), (.int kd)])) (fun t kt => ?_) ?_
        · refine XS.icmpNo X0.here hx rfl (hb hby at_140) rfl (feq hc50).1 ?_
          refine XS.iload X0.here hx rfl (hb hby at_143) rfl ?_
          refine XS.bipush X0.here hx rfl (hb hby at_145) ?_
          exact kt
        by_cases hc112 : kd = (7 : Int32)
        · refine own_thrH (a := s₁.setTop (mkF m 156 #[.val (.int p0), .val (.int p1), .val (.int p2), .val (.int p3), .val (.int 1), .val (.int kd), .val (.int dc), .val (.int ec), .unset, .unset, .unset] [(.int 5)])) (fun t kt => ?_) ?_
          · refine XS.icmpNo X0.here hx rfl (hb hby at_147) rfl (teq hc112).2 ?_
            refine XS.iload X0.here hx rfl (hb hby at_150) rfl ?_
            refine XS.ifNo X0.here hx rfl (hb hby at_152) rfl ((if0 _ _).trans (feq (by decide)).1) ?_
            refine XS.iconst X0.here hx rfl (hb hby at_155) ?_
            exact kt
          obtain ⟨T113, h113, k113, X113, e113, E113, A113, st113⟩ := newP X0 hx hZ (hw _ (own_i 3 rfl)) e0 (g := (mkF m 156 #[.val (.int p0), .val (.int p1), .val (.int p2), .val (.int p3), .val (.int 1), .val (.int kd), .val (.int dc), .val (.int ec), .unset, .unset, .unset] [(.int 5)])) rfl (hb hby at_156) rfl (by decide) (cap := 5) (by decide) (by decide) (by decide : 0 + 1 ≤ _) (by decide : 0 + 5 ≤ _)
          obtain ⟨b113, g113⟩ : ∃ z, z = h0.size := ⟨_, rfl⟩
          rw [← g113] at A113 st113
          have g_b113 : n0 ≤ b113 := Nat.le_trans Z0 (Nat.le_of_eq g113.symm)
          have sz_b113 : h0.size ≤ b113 := Nat.le_trans (Nat.le_refl h0.size) (Nat.le_of_eq g113.symm)
          have lt_ou_b113 : ou < b113 := Nat.lt_of_lt_of_le F_flu.lt (Nat.le_of_eq g113.symm)
          have ne_ou_b113 : ou ≠ b113 := Nat.ne_of_lt lt_ou_b113
          have lt_flu_b113 : flu < b113 := Nat.lt_of_lt_of_le E_flu.lt (Nat.le_of_eq g113.symm)
          have ne_flu_b113 : flu ≠ b113 := Nat.ne_of_lt lt_flu_b113
          have lt_fvu_b113 : fvu < b113 := Nat.lt_of_lt_of_le V_fvu.lt (Nat.le_of_eq g113.symm)
          have ne_fvu_b113 : fvu ≠ b113 := Nat.ne_of_lt lt_fvu_b113
          have lt_oq_b113 : oq < b113 := Nat.lt_of_lt_of_le F_flq.lt (Nat.le_of_eq g113.symm)
          have ne_oq_b113 : oq ≠ b113 := Nat.ne_of_lt lt_oq_b113
          have lt_flq_b113 : flq < b113 := Nat.lt_of_lt_of_le E_flq.lt (Nat.le_of_eq g113.symm)
          have ne_flq_b113 : flq ≠ b113 := Nat.ne_of_lt lt_flq_b113
          have lt_fvq_b113 : fvq < b113 := Nat.lt_of_lt_of_le V_fvq.lt (Nat.le_of_eq g113.symm)
          have ne_fvq_b113 : fvq ≠ b113 := Nat.ne_of_lt lt_fvq_b113
          have lt_em_b113 : em < b113 := Nat.lt_of_lt_of_le E_em.lt (Nat.le_of_eq g113.symm)
          have ne_em_b113 : em ≠ b113 := Nat.ne_of_lt lt_em_b113
          have V_b113 : Arv Z h113 b113 k113 .char (5 : Int32) [(.int 0), (.int 0), (.int 0), (.int 0), (.int 0)] (.int 0) := (Arv.new A113 (by decide)).pad (pad_rep [] (.int 0) 5)
          have CH114 := CH0.trans (CHr.ext E113 CH0.1)
          have Z115 : n0 ≤ h113.size := Nat.le_trans Z0 E113.1
          have Z115h : h0.size ≤ h113.size := Nat.le_trans (Nat.le_refl h0.size) E113.1
          refine own_thrH (a := T113.setTop (mkF m 158 #[.val (.int p0), .val (.int p1), .val (.int p2), .val (.int p3), .val (.int 1), .val (.int kd), .val (.int dc), .val (.int ec), .unset, .unset, .unset] [(.ref b113)])) (fun t kt => st113 t kt) ?_
          refine own_thrH (a := T113.setTop (mkF m 162 #[.val (.int p0), .val (.int p1), .val (.int p2), .val (.int p3), .val (.int 1), .val (.int kd), .val (.int dc), .val (.int ec), .unset, .unset, .unset] [(.int 45), (.int 0), (.ref b113), (.ref b113)])) (fun t kt => ?_) ?_
          · refine XS.dup X113.here hx rfl (hb hby at_158) rfl rfl ?_
            refine XS.iconst X113.here hx rfl (hb hby at_159) ?_
            refine XS.bipush X113.here hx rfl (hb hby at_160) ?_
            exact kt
          obtain ⟨cl116, Ar116, q116, S116, M116, H116, G116⟩ := id V_b113
          have hin116 : ¬ ((0 : Int32) < 0 ∨ cl116.slots.size ≤ ((0 : Int32)).toNatClampNeg) := inb_of S116 ⟨by decide, by decide⟩
          obtain ⟨T116, h116, X116, e116, W116, st116⟩ := stC X113 hx hZ e113 Ar116 (j := (0 : Int32)) hin116 (g := (mkF m 162 #[.val (.int p0), .val (.int p1), .val (.int p2), .val (.int p3), .val (.int 1), .val (.int kd), .val (.int dc), .val (.int ec), .unset, .unset, .unset] [(.int 45), (.int 0), (.ref b113), (.ref b113)])) rfl rfl (hb hby at_162)
          obtain ⟨clv118, Arv118, -⟩ := id V_b113
          have CH117 := CH114.trans (CHr.wr W116 (Safe.arr hZ.alike Arv118 (by decide)) CH114.1)
          have Z119 : n0 ≤ h116.size := Nat.le_trans Z115 (Nat.le_of_eq W116.size.symm)
          have Z119h : h0.size ≤ h116.size := Nat.le_trans Z115h (Nat.le_of_eq W116.size.symm)
          have V116 : Arv Z h116 b113 k113 .char (5 : Int32) [(.int 45), (.int 0), (.int 0), (.int 0), (.int 0)] (.int 0) := Arv.set Ar116 q116 S116 M116 H116 G116 (fits_nar_char _) W116 0 rfl (Nat.le_of_ble_eq_true rfl)
          obtain ⟨lc116, X116, N116⟩ := own_pack1 X116 N0 g_b113
          refine own_thrH (a := T116.setTop (mkF m 163 #[.val (.int p0), .val (.int p1), .val (.int p2), .val (.int p3), .val (.int 1), .val (.int kd), .val (.int dc), .val (.int ec), .unset, .unset, .unset] [(.ref b113)])) (fun t kt => st116 t kt) ?_
          refine own_thrH (a := T116.setTop (mkF m 167 #[.val (.int p0), .val (.int p1), .val (.int p2), .val (.int p3), .val (.int 1), .val (.int kd), .val (.int dc), .val (.int ec), .unset, .unset, .unset] [(.int 45), (.int 1), (.ref b113), (.ref b113)])) (fun t kt => ?_) ?_
          · refine XS.dup X116.here hx rfl (hb hby at_163) rfl rfl ?_
            refine XS.iconst X116.here hx rfl (hb hby at_164) ?_
            refine XS.bipush X116.here hx rfl (hb hby at_165) ?_
            exact kt
          obtain ⟨cl120, Ar120, q120, S120, M120, H120, G120⟩ := id V116
          have hin120 : ¬ ((1 : Int32) < 0 ∨ cl120.slots.size ≤ ((1 : Int32)).toNatClampNeg) := inb_of S120 ⟨by decide, by decide⟩
          obtain ⟨T120, h120, X120, e120, W120, st120⟩ := stC X116 hx hZ e116 Ar120 (j := (1 : Int32)) hin120 (g := (mkF m 167 #[.val (.int p0), .val (.int p1), .val (.int p2), .val (.int p3), .val (.int 1), .val (.int kd), .val (.int dc), .val (.int ec), .unset, .unset, .unset] [(.int 45), (.int 1), (.ref b113), (.ref b113)])) rfl rfl (hb hby at_167)
          obtain ⟨clv122, Arv122, -⟩ := id V116
          have CH121 := CH117.trans (CHr.wr W120 (Safe.arr hZ.alike Arv122 (by decide)) CH117.1)
          have Z123 : n0 ≤ h120.size := Nat.le_trans Z119 (Nat.le_of_eq W120.size.symm)
          have Z123h : h0.size ≤ h120.size := Nat.le_trans Z119h (Nat.le_of_eq W120.size.symm)
          have V120 : Arv Z h120 b113 k113 .char (5 : Int32) [(.int 45), (.int 45), (.int 0), (.int 0), (.int 0)] (.int 0) := Arv.set Ar120 q120 S120 M120 H120 G120 (fits_nar_char _) W120 1 rfl (Nat.le_of_ble_eq_true rfl)
          obtain ⟨lc120, X120, N120⟩ := own_pack1 X120 N116 g_b113
          refine own_thrH (a := T120.setTop (mkF m 168 #[.val (.int p0), .val (.int p1), .val (.int p2), .val (.int p3), .val (.int 1), .val (.int kd), .val (.int dc), .val (.int ec), .unset, .unset, .unset] [(.ref b113)])) (fun t kt => st120 t kt) ?_
          refine own_thrH (a := T120.setTop (mkF m 172 #[.val (.int p0), .val (.int p1), .val (.int p2), .val (.int p3), .val (.int 1), .val (.int kd), .val (.int dc), .val (.int ec), .unset, .unset, .unset] [(.int 117), (.int 2), (.ref b113), (.ref b113)])) (fun t kt => ?_) ?_
          · refine XS.dup X120.here hx rfl (hb hby at_168) rfl rfl ?_
            refine XS.iconst X120.here hx rfl (hb hby at_169) ?_
            refine XS.bipush X120.here hx rfl (hb hby at_170) ?_
            exact kt
          obtain ⟨cl124, Ar124, q124, S124, M124, H124, G124⟩ := id V120
          have hin124 : ¬ ((2 : Int32) < 0 ∨ cl124.slots.size ≤ ((2 : Int32)).toNatClampNeg) := inb_of S124 ⟨by decide, by decide⟩
          obtain ⟨T124, h124, X124, e124, W124, st124⟩ := stC X120 hx hZ e120 Ar124 (j := (2 : Int32)) hin124 (g := (mkF m 172 #[.val (.int p0), .val (.int p1), .val (.int p2), .val (.int p3), .val (.int 1), .val (.int kd), .val (.int dc), .val (.int ec), .unset, .unset, .unset] [(.int 117), (.int 2), (.ref b113), (.ref b113)])) rfl rfl (hb hby at_172)
          obtain ⟨clv126, Arv126, -⟩ := id V120
          have CH125 := CH121.trans (CHr.wr W124 (Safe.arr hZ.alike Arv126 (by decide)) CH121.1)
          have Z127 : n0 ≤ h124.size := Nat.le_trans Z123 (Nat.le_of_eq W124.size.symm)
          have Z127h : h0.size ≤ h124.size := Nat.le_trans Z123h (Nat.le_of_eq W124.size.symm)
          have V124 : Arv Z h124 b113 k113 .char (5 : Int32) [(.int 45), (.int 45), (.int 117), (.int 0), (.int 0)] (.int 0) := Arv.set Ar124 q124 S124 M124 H124 G124 (fits_nar_char _) W124 2 rfl (Nat.le_of_ble_eq_true rfl)
          obtain ⟨lc124, X124, N124⟩ := own_pack1 X124 N120 g_b113
          refine own_thrH (a := T124.setTop (mkF m 173 #[.val (.int p0), .val (.int p1), .val (.int p2), .val (.int p3), .val (.int 1), .val (.int kd), .val (.int dc), .val (.int ec), .unset, .unset, .unset] [(.ref b113)])) (fun t kt => st124 t kt) ?_
          refine own_thrH (a := T124.setTop (mkF m 177 #[.val (.int p0), .val (.int p1), .val (.int p2), .val (.int p3), .val (.int 1), .val (.int kd), .val (.int dc), .val (.int ec), .unset, .unset, .unset] [(.int 114), (.int 3), (.ref b113), (.ref b113)])) (fun t kt => ?_) ?_
          · refine XS.dup X124.here hx rfl (hb hby at_173) rfl rfl ?_
            refine XS.iconst X124.here hx rfl (hb hby at_174) ?_
            refine XS.bipush X124.here hx rfl (hb hby at_175) ?_
            exact kt
          obtain ⟨cl128, Ar128, q128, S128, M128, H128, G128⟩ := id V124
          have hin128 : ¬ ((3 : Int32) < 0 ∨ cl128.slots.size ≤ ((3 : Int32)).toNatClampNeg) := inb_of S128 ⟨by decide, by decide⟩
          obtain ⟨T128, h128, X128, e128, W128, st128⟩ := stC X124 hx hZ e124 Ar128 (j := (3 : Int32)) hin128 (g := (mkF m 177 #[.val (.int p0), .val (.int p1), .val (.int p2), .val (.int p3), .val (.int 1), .val (.int kd), .val (.int dc), .val (.int ec), .unset, .unset, .unset] [(.int 114), (.int 3), (.ref b113), (.ref b113)])) rfl rfl (hb hby at_177)
          obtain ⟨clv130, Arv130, -⟩ := id V124
          have CH129 := CH125.trans (CHr.wr W128 (Safe.arr hZ.alike Arv130 (by decide)) CH125.1)
          have Z131 : n0 ≤ h128.size := Nat.le_trans Z127 (Nat.le_of_eq W128.size.symm)
          have Z131h : h0.size ≤ h128.size := Nat.le_trans Z127h (Nat.le_of_eq W128.size.symm)
          have V128 : Arv Z h128 b113 k113 .char (5 : Int32) [(.int 45), (.int 45), (.int 117), (.int 114), (.int 0)] (.int 0) := Arv.set Ar128 q128 S128 M128 H128 G128 (fits_nar_char _) W128 3 rfl (Nat.le_of_ble_eq_true rfl)
          obtain ⟨lc128, X128, N128⟩ := own_pack1 X128 N124 g_b113
          refine own_thrH (a := T128.setTop (mkF m 178 #[.val (.int p0), .val (.int p1), .val (.int p2), .val (.int p3), .val (.int 1), .val (.int kd), .val (.int dc), .val (.int ec), .unset, .unset, .unset] [(.ref b113)])) (fun t kt => st128 t kt) ?_
          refine own_thrH (a := T128.setTop (mkF m 182 #[.val (.int p0), .val (.int p1), .val (.int p2), .val (.int p3), .val (.int 1), .val (.int kd), .val (.int dc), .val (.int ec), .unset, .unset, .unset] [(.int 108), (.int 4), (.ref b113), (.ref b113)])) (fun t kt => ?_) ?_
          · refine XS.dup X128.here hx rfl (hb hby at_178) rfl rfl ?_
            refine XS.iconst X128.here hx rfl (hb hby at_179) ?_
            refine XS.bipush X128.here hx rfl (hb hby at_180) ?_
            exact kt
          obtain ⟨cl132, Ar132, q132, S132, M132, H132, G132⟩ := id V128
          have hin132 : ¬ ((4 : Int32) < 0 ∨ cl132.slots.size ≤ ((4 : Int32)).toNatClampNeg) := inb_of S132 ⟨by decide, by decide⟩
          obtain ⟨T132, h132, X132, e132, W132, st132⟩ := stC X128 hx hZ e128 Ar132 (j := (4 : Int32)) hin132 (g := (mkF m 182 #[.val (.int p0), .val (.int p1), .val (.int p2), .val (.int p3), .val (.int 1), .val (.int kd), .val (.int dc), .val (.int ec), .unset, .unset, .unset] [(.int 108), (.int 4), (.ref b113), (.ref b113)])) rfl rfl (hb hby at_182)
          obtain ⟨clv134, Arv134, -⟩ := id V128
          have CH133 := CH129.trans (CHr.wr W132 (Safe.arr hZ.alike Arv134 (by decide)) CH129.1)
          have Z135 : n0 ≤ h132.size := Nat.le_trans Z131 (Nat.le_of_eq W132.size.symm)
          have Z135h : h0.size ≤ h132.size := Nat.le_trans Z131h (Nat.le_of_eq W132.size.symm)
          have V132 : Arv Z h132 b113 k113 .char (5 : Int32) [(.int 45), (.int 45), (.int 117), (.int 114), (.int 108)] (.int 0) := Arv.set Ar132 q132 S132 M132 H132 G132 (fits_nar_char _) W132 4 rfl (Nat.le_of_ble_eq_true rfl)
          obtain ⟨lc132, X132, N132⟩ := own_pack1 X132 N128 g_b113
          refine own_thrH (a := T132.setTop (mkF m 183 #[.val (.int p0), .val (.int p1), .val (.int p2), .val (.int p3), .val (.int 1), .val (.int kd), .val (.int dc), .val (.int ec), .unset, .unset, .unset] [(.ref b113)])) (fun t kt => st132 t kt) ?_
          refine own_thrH (a := T132.setTop (mkF m 230 #[.val (.int p0), .val (.int p1), .val (.int p2), .val (.int p3), .val (.int 1), .val (.int kd), .val (.int dc), .val (.int ec), .unset, .val (.ref b113), .unset] [(.ref b113)])) (fun t kt => ?_) ?_
          · refine XS.goto X132.here hx rfl (pc0 := 183) (pc' := 226) rfl (hb hby at_183) (by decide) (by decide) ?_
            refine XS.astore X132.here hx rfl (hb hby at_226) rfl rfl (l' := #[.val (.int p0), .val (.int p1), .val (.int p2), .val (.int p3), .val (.int 1), .val (.int kd), .val (.int dc), .val (.int ec), .unset, .val (.ref b113), .unset]) rfl ?_
            refine XS.aload X132.here hx rfl (hb hby at_228) rfl rfl ?_
            exact kt
          obtain ⟨cl136, Ar136, -, S136, M136, -, -⟩ := id V132
          refine own_thrH (a := T132.setTop (mkF m 244 #[.val (.int p0), .val (.int p1), .val (.int p2), .val (.int p3), .val (.int 1), .val (.int kd), .val (.int dc), .val (.int ec), .unset, .val (.ref b113), .val (.int 5)] [(.int dc), (.int ((p1 &&& (2147483647 : Int32)) % (5 : Int32))), (.ref b113)])) (fun t kt => ?_) ?_
          · refine X132.arraylength hx (by rw [e132]; exact Ar136.1) (State.isArrayOf_alike hZ.alike Ar136.2.1) (g := (mkF m 230 #[.val (.int p0), .val (.int p1), .val (.int p2), .val (.int p3), .val (.int 1), .val (.int kd), .val (.int dc), .val (.int ec), .unset, .val (.ref b113), .unset] [(.ref b113)])) rfl rfl (hb hby at_230) _ ?_
            rw [len_of S136 M136]
            refine XS.istore X132.here hx rfl (hb hby at_231) rfl (l' := #[.val (.int p0), .val (.int p1), .val (.int p2), .val (.int p3), .val (.int 1), .val (.int kd), .val (.int dc), .val (.int ec), .unset, .val (.ref b113), .val (.int 5)]) rfl ?_
            refine XS.aload X132.here hx rfl (hb hby at_233) rfl rfl ?_
            refine XS.iloadN X132.here hx rfl (hb hby at_235) rfl ?_
            refine X132.ldcInt hx hown (mvT hZ (hw _ (own_i 112 rfl))) (g := (mkF m 236 #[.val (.int p0), .val (.int p1), .val (.int p2), .val (.int p3), .val (.int 1), .val (.int kd), .val (.int dc), .val (.int ec), .unset, .val (.ref b113), .val (.int 5)] [(.int p1), (.ref b113)])) rfl (hb hby at_236) _ ?_
            refine XS.iand X132.here hx rfl (hb hby at_238) rfl ?_
            refine XS.iload X132.here hx rfl (hb hby at_239) rfl ?_
            refine iremM X132 hx rfl (hb hby at_241) rfl (by decide) ?_
            refine XS.iload X132.here hx rfl (hb hby at_242) rfl ?_
            exact kt
          obtain ⟨cl137, Ar137, q137, S137, M137, H137, G137⟩ := id V132
          have hin137 : ¬ (((p1 &&& (2147483647 : Int32)) % (5 : Int32)) < 0 ∨ cl137.slots.size ≤ (((p1 &&& (2147483647 : Int32)) % (5 : Int32))).toNatClampNeg) := inb_of S137 (own_rem _ (5 : Int32) (own_p1 _) (by decide)).1
          obtain ⟨T137, h137, X137, e137, W137, st137⟩ := stC X132 hx hZ e132 Ar137 (j := ((p1 &&& (2147483647 : Int32)) % (5 : Int32))) hin137 (g := (mkF m 244 #[.val (.int p0), .val (.int p1), .val (.int p2), .val (.int p3), .val (.int 1), .val (.int kd), .val (.int dc), .val (.int ec), .unset, .val (.ref b113), .val (.int 5)] [(.int dc), (.int ((p1 &&& (2147483647 : Int32)) % (5 : Int32))), (.ref b113)])) rfl rfl (hb hby at_244)
          obtain ⟨clv139, Arv139, -⟩ := id V132
          have CH138 := CH133.trans (CHr.wr W137 (Safe.arr hZ.alike Arv139 (by decide)) CH133.1)
          have Z140 : n0 ≤ h137.size := Nat.le_trans Z135 (Nat.le_of_eq W137.size.symm)
          have Z140h : h0.size ≤ h137.size := Nat.le_trans Z135h (Nat.le_of_eq W137.size.symm)
          have V137 : Arv Z h137 b113 k113 .char (5 : Int32) (([(.int 45), (.int 45), (.int 117), (.int 114), (.int 108)] : List Value).set (((p1 &&& (2147483647 : Int32)) % (5 : Int32))).toNatClampNeg (.int (dc.toUInt32.toUInt16.toUInt32.toInt32))) (.int 0) := Arv.set Ar137 q137 S137 M137 H137 G137 (fits_nar_char _) W137 (((p1 &&& (2147483647 : Int32)) % (5 : Int32))).toNatClampNeg rfl (own_rem _ (5 : Int32) (own_p1 _) (by decide)).2
          obtain ⟨lc137, X137, N137⟩ := own_pack1 X137 N132 g_b113
          refine own_thrH (a := T137.setTop (mkF m 245 #[.val (.int p0), .val (.int p1), .val (.int p2), .val (.int p3), .val (.int 1), .val (.int kd), .val (.int dc), .val (.int ec), .unset, .val (.ref b113), .val (.int 5)] [])) (fun t kt => st137 t kt) ?_
          obtain ⟨g141_0, g141_1, g141_2, g141_3, g141_4, eg141, lg141_0, lg141_1, lg141_2, lg141_3, lg141_4⟩ := own_set5 (45 : Int32) (45 : Int32) (117 : Int32) (114 : Int32) (108 : Int32) (dc.toUInt32.toUInt16.toUInt32.toInt32) (((p1 &&& (2147483647 : Int32)) % (5 : Int32))).toNatClampNeg ⟨by decide, by decide⟩ ⟨by decide, by decide⟩ ⟨by decide, by decide⟩ ⟨by decide, by decide⟩ ⟨by decide, by decide⟩ mdc
          have Vg141 := V137
          rw [eg141] at Vg141
          refine own_thrH (a := T137.setTop (mkF m 260 #[.val (.int p0), .val (.int p1), .val (.int p2), .val (.int p3), .val (.int 1), .val (.int kd), .val (.int dc), .val (.int ec), .unset, .val (.ref b113), .val (.int 5)] [(.int ec), (.int ((((p1.toUInt32 >>> ((16 : Int32) &&& 31).toUInt32).toInt32) &&& (32767 : Int32)) % (5 : Int32))), (.ref b113)])) (fun t kt => ?_) ?_
          · refine XS.aload X137.here hx rfl (hb hby at_245) rfl rfl ?_
            refine XS.iloadN X137.here hx rfl (hb hby at_247) rfl ?_
            refine XS.bipush X137.here hx rfl (hb hby at_248) ?_
            refine XS.iushr X137.here hx rfl (hb hby at_250) rfl ?_
            refine XS.sipush X137.here hx rfl (hb hby at_251) ?_
            refine XS.iand X137.here hx rfl (hb hby at_254) rfl ?_
            refine XS.iload X137.here hx rfl (hb hby at_255) rfl ?_
            refine iremM X137 hx rfl (hb hby at_257) rfl (by decide) ?_
            refine XS.iload X137.here hx rfl (hb hby at_258) rfl ?_
            exact kt
          obtain ⟨cl142, Ar142, q142, S142, M142, H142, G142⟩ := id Vg141
          have hin142 : ¬ (((((p1.toUInt32 >>> ((16 : Int32) &&& 31).toUInt32).toInt32) &&& (32767 : Int32)) % (5 : Int32)) < 0 ∨ cl142.slots.size ≤ (((((p1.toUInt32 >>> ((16 : Int32) &&& 31).toUInt32).toInt32) &&& (32767 : Int32)) % (5 : Int32))).toNatClampNeg) := inb_of S142 (own_rem _ (5 : Int32) (own_p2 _) (by decide)).1
          obtain ⟨T142, h142, X142, e142, W142, st142⟩ := stC X137 hx hZ e137 Ar142 (j := ((((p1.toUInt32 >>> ((16 : Int32) &&& 31).toUInt32).toInt32) &&& (32767 : Int32)) % (5 : Int32))) hin142 (g := (mkF m 260 #[.val (.int p0), .val (.int p1), .val (.int p2), .val (.int p3), .val (.int 1), .val (.int kd), .val (.int dc), .val (.int ec), .unset, .val (.ref b113), .val (.int 5)] [(.int ec), (.int ((((p1.toUInt32 >>> ((16 : Int32) &&& 31).toUInt32).toInt32) &&& (32767 : Int32)) % (5 : Int32))), (.ref b113)])) rfl rfl (hb hby at_260)
          obtain ⟨clv144, Arv144, -⟩ := id Vg141
          have CH143 := CH138.trans (CHr.wr W142 (Safe.arr hZ.alike Arv144 (by decide)) CH138.1)
          have Z145 : n0 ≤ h142.size := Nat.le_trans Z140 (Nat.le_of_eq W142.size.symm)
          have Z145h : h0.size ≤ h142.size := Nat.le_trans Z140h (Nat.le_of_eq W142.size.symm)
          have V142 : Arv Z h142 b113 k113 .char (5 : Int32) (([(.int g141_0), (.int g141_1), (.int g141_2), (.int g141_3), (.int g141_4)] : List Value).set (((((p1.toUInt32 >>> ((16 : Int32) &&& 31).toUInt32).toInt32) &&& (32767 : Int32)) % (5 : Int32))).toNatClampNeg (.int (ec.toUInt32.toUInt16.toUInt32.toInt32))) (.int 0) := Arv.set Ar142 q142 S142 M142 H142 G142 (fits_nar_char _) W142 (((((p1.toUInt32 >>> ((16 : Int32) &&& 31).toUInt32).toInt32) &&& (32767 : Int32)) % (5 : Int32))).toNatClampNeg rfl (own_rem _ (5 : Int32) (own_p2 _) (by decide)).2
          obtain ⟨lc142, X142, N142⟩ := own_pack1 X142 N137 g_b113
          refine own_thrH (a := T142.setTop (mkF m 261 #[.val (.int p0), .val (.int p1), .val (.int p2), .val (.int p3), .val (.int 1), .val (.int kd), .val (.int dc), .val (.int ec), .unset, .val (.ref b113), .val (.int 5)] [])) (fun t kt => st142 t kt) ?_
          obtain ⟨g146_0, g146_1, g146_2, g146_3, g146_4, eg146, lg146_0, lg146_1, lg146_2, lg146_3, lg146_4⟩ := own_set5 g141_0 g141_1 g141_2 g141_3 g141_4 (ec.toUInt32.toUInt16.toUInt32.toInt32) (((((p1.toUInt32 >>> ((16 : Int32) &&& 31).toUInt32).toInt32) &&& (32767 : Int32)) % (5 : Int32))).toNatClampNeg lg141_0 lg141_1 lg141_2 lg141_3 lg141_4 mec
          have Vg146 := V142
          rw [eg146] at Vg146
          have c148 := ((((((((F_flu.ext E113).other W116 (Or.inl ne_ou_b113)).other W120 (Or.inl ne_ou_b113)).other W124 (Or.inl ne_ou_b113)).other W128 (Or.inl ne_ou_b113)).other W132 (Or.inl ne_ou_b113)).other W137 (Or.inl ne_ou_b113)).other W142 (Or.inl ne_ou_b113))
          have c149 := ((((((((E_flu.ext E113).wr W116).wr W120).wr W124).wr W128).wr W132).wr W137).wr W142)
          have c150 := ((((((((V_fvu.ext E113).other W116 ne_fvu_b113).other W120 ne_fvu_b113).other W124 ne_fvu_b113).other W128 ne_fvu_b113).other W132 ne_fvu_b113).other W137 ne_fvu_b113).other W142 ne_fvu_b113)
          have c151 := ((((((((F_flq.ext E113).other W116 (Or.inl ne_oq_b113)).other W120 (Or.inl ne_oq_b113)).other W124 (Or.inl ne_oq_b113)).other W128 (Or.inl ne_oq_b113)).other W132 (Or.inl ne_oq_b113)).other W137 (Or.inl ne_oq_b113)).other W142 (Or.inl ne_oq_b113))
          have c152 := ((((((((E_flq.ext E113).wr W116).wr W120).wr W124).wr W128).wr W132).wr W137).wr W142)
          have c153 := ((((((((V_fvq.ext E113).other W116 ne_fvq_b113).other W120 ne_fvq_b113).other W124 ne_fvq_b113).other W128 ne_fvq_b113).other W132 ne_fvq_b113).other W137 ne_fvq_b113).other W142 ne_fvq_b113)
          have c154 := ((((((((E_em.ext E113).wr W116).wr W120).wr W124).wr W128).wr W132).wr W137).wr W142)
          obtain ⟨T147, h147, X147, e147, E147, A147, D147, U147, st147⟩ := newO X142 hx hZ hown (hw _ (own_i 0 rfl)) (hw _ (own_i 1 rfl)) (hw _ (own_i 2 rfl)) e142 (g := (mkF m 261 #[.val (.int p0), .val (.int p1), .val (.int p2), .val (.int p3), .val (.int 1), .val (.int kd), .val (.int dc), .val (.int ec), .unset, .val (.ref b113), .val (.int 5)] [])) rfl (hb hby at_261) (by decide : 1 + 1 ≤ _) (by decide : 5 + 4 ≤ _)
          obtain ⟨b147, g147⟩ : ∃ z, z = h142.size := ⟨_, rfl⟩
          rw [← g147] at A147 D147 st147 U147
          have g_b147 : n0 ≤ b147 := Nat.le_trans Z145 (Nat.le_of_eq g147.symm)
          have sz_b147 : h0.size ≤ b147 := Nat.le_trans Z145h (Nat.le_of_eq g147.symm)
          have lt_ou_b147 : ou < b147 := Nat.lt_of_lt_of_le c148.lt (Nat.le_of_eq g147.symm)
          have ne_ou_b147 : ou ≠ b147 := Nat.ne_of_lt lt_ou_b147
          have lt_flu_b147 : flu < b147 := Nat.lt_of_lt_of_le c149.lt (Nat.le_of_eq g147.symm)
          have ne_flu_b147 : flu ≠ b147 := Nat.ne_of_lt lt_flu_b147
          have lt_fvu_b147 : fvu < b147 := Nat.lt_of_lt_of_le c150.lt (Nat.le_of_eq g147.symm)
          have ne_fvu_b147 : fvu ≠ b147 := Nat.ne_of_lt lt_fvu_b147
          have lt_oq_b147 : oq < b147 := Nat.lt_of_lt_of_le c151.lt (Nat.le_of_eq g147.symm)
          have ne_oq_b147 : oq ≠ b147 := Nat.ne_of_lt lt_oq_b147
          have lt_flq_b147 : flq < b147 := Nat.lt_of_lt_of_le c152.lt (Nat.le_of_eq g147.symm)
          have ne_flq_b147 : flq ≠ b147 := Nat.ne_of_lt lt_flq_b147
          have lt_fvq_b147 : fvq < b147 := Nat.lt_of_lt_of_le c153.lt (Nat.le_of_eq g147.symm)
          have ne_fvq_b147 : fvq ≠ b147 := Nat.ne_of_lt lt_fvq_b147
          have lt_em_b147 : em < b147 := Nat.lt_of_lt_of_le c154.lt (Nat.le_of_eq g147.symm)
          have ne_em_b147 : em ≠ b147 := Nat.ne_of_lt lt_em_b147
          have lt_b113_b147 : b113 < b147 := Nat.lt_of_lt_of_le Vg146.lt (Nat.le_of_eq g147.symm)
          have ne_b113_b147 : b113 ≠ b147 := Nat.ne_of_lt lt_b113_b147
          have CH155 := CH143.trans (CHr.ext E147 CH143.1)
          have Z156 : n0 ≤ h147.size := Nat.le_trans Z145 E147.1
          have Z156h : h0.size ≤ h147.size := Nat.le_trans Z145h E147.1
          have F_coder_b147 : Fld Z h147 b147 "java/lang/String" "coder" "B" (.int 0) := D147 (Or.inr (hw _ (own_i 27 rfl))) (ty := .byte) (by decide)
          have F_value_b147 : Fld Z h147 b147 "java/lang/String" "value" "[B" .null := D147 (Or.inr (hw _ (own_i 29 rfl))) (ty := (.array .byte)) (by decide)
          refine own_thrH (a := T147.setTop (mkF m 264 #[.val (.int p0), .val (.int p1), .val (.int p2), .val (.int p3), .val (.int 1), .val (.int kd), .val (.int dc), .val (.int ec), .unset, .val (.ref b113), .val (.int 5)] [(.ref b147)])) (fun t kt => st147 t kt) ?_
          refine own_thrH (a := T147.setTop (mkF m 267 #[.val (.int p0), .val (.int p1), .val (.int p2), .val (.int p3), .val (.int 1), .val (.int kd), .val (.int dc), .val (.int ec), .unset, .val (.ref b113), .val (.int 5)] [(.ref b113), (.ref b147), (.ref b147)])) (fun t kt => ?_) ?_
          · refine XS.dup X147.here hx rfl (hb hby at_264) rfl rfl ?_
            refine XS.aload X147.here hx rfl (hb hby at_265) rfl rfl ?_
            exact kt
          have c158 := (((((((((hO.ext E113).wr W116 g_b113).wr W120 g_b113).wr W124 g_b113).wr W128 g_b113).wr W132 g_b113).wr W137 g_b113).wr W142 g_b113).ext E147)
          obtain ⟨_, _, ⟨T157, L157, k157, n157⟩, -, X157, ⟨Lc157, hQ157, l157, y157, z157⟩, st157⟩ := X147.specialBack hx (y := (⟨"java/lang/String", "<init>", "([C)V"⟩ : MethodName)) rfl hown (mvT hZ (hw _ (own_i 4 rfl))) (mvT hZ (hw _ (own_i 5 rfl))) (mvT hZ (hw _ (own_i 6 rfl))) (by decide) (StrChars.Road.backV hZ (fun d hd => hw d (own_sw d hd)) (hw _ (own_i 1 rfl)) (x := b147) (b := b113) (cs := [g146_0, g146_1, g146_2, g146_3, g146_4]) (bs := [(g146_0.toInt8.toInt32), (g146_1.toInt8.toInt32), (g146_2.toInt8.toInt32), (g146_3.toInt8.toInt32), (g146_4.toInt8.toInt32)]) (n := 5) (W := 1) g_b147 Z156 A147 F_value_b147 F_coder_b147 (Vg146.ext E147) (S_cs.ext c158.2) hcs rfl rfl (by decide) (by decide) (own_fa lg146_0 (own_fa lg146_1 (own_fa lg146_2 (own_fa lg146_3 (own_fa lg146_4 own_f0))))) rfl (by decide) (by decide)) (g := (mkF m 267 #[.val (.int p0), .val (.int p1), .val (.int p2), .val (.int p3), .val (.int 1), .val (.int kd), .val (.int dc), .val (.int ec), .unset, .val (.ref b113), .val (.int 5)] [(.ref b113), (.ref b147), (.ref b147)])) rfl (by rw [hml]; rfl) (Steps.refl _) (a := b147) (argsL := [(.ref b113)]) (rest := [(.ref b147)]) (lenOf pd__28_5bC_29V rfl) rfl (by show 2 * 0 + _ ≤ _; exact Nat.le_of_eq rfl) (hb hby at_267) (fun _ _ => ⟨rfl, e147, (by decide : 2 + 1 ≤ _), (by decide : 9 + 5 ≤ _)⟩)
          dsimp only [Pt.U, Pt.locs, Pt.cells, Pt.slots] at X157 l157 y157 z157 st157 hQ157
          obtain ⟨rfl, N157q, K157, o157_e, o157_c, sv157, ks157, -, -, -, o157_v, o157_A⟩ := hQ157
          have sf160 := own_safe (EL := own_EL) hZ.alike A147 F_value_b147
          have sf161 := Safe.keep K157 (allS sf160 all0) CH155.1 sf160
          have CH159 := CH155.trans (CHr.keep K157 (allS sf160 all0) CH155.1)
          have Z162 : n0 ≤ T157.heap.size := Nat.le_trans Z156 K157.1
          have Z162h : h0.size ≤ T157.heap.size := Nat.le_trans Z156h K157.1
          have o157_a : Arv Z T157.heap sv157 ks157 .byte (5 : Int32) [(.int (g146_0.toInt8.toInt32)), (.int (g146_1.toInt8.toInt32)), (.int (g146_2.toInt8.toInt32)), (.int (g146_3.toInt8.toInt32)), (.int (g146_4.toInt8.toInt32))] (.int 0) := o157_A
          obtain ⟨lc157, X157, N157⟩ := own_pack X157 l157 y157 z157 N142 N157q (C := 3) (S' := 14) rfl rfl
          refine own_thrH (a := T157.setTop (mkF m 270 #[.val (.int p0), .val (.int p1), .val (.int p2), .val (.int p3), .val (.int 1), .val (.int kd), .val (.int dc), .val (.int ec), .unset, .val (.ref b113), .val (.int 5)] [(.ref b147)])) (fun t kt => st157.trans kt) ?_
          refine own_thrH (a := T157.setTop (mkF m 510 #[.val (.int p0), .val (.int p1), .val (.int p2), .val (.int p3), .val (.int 1), .val (.int kd), .val (.int dc), .val (.int ec), .val (.ref b147), .val (.ref b113), .val (.int 5)] [])) (fun t kt => ?_) ?_
          · refine XS.astore X157.here hx rfl (hb hby at_270) rfl rfl (l' := #[.val (.int p0), .val (.int p1), .val (.int p2), .val (.int p3), .val (.int 1), .val (.int kd), .val (.int dc), .val (.int ec), .val (.ref b147), .val (.ref b113), .val (.int 5)]) rfl ?_
            refine XS.goto X157.here hx rfl (pc0 := 272) (pc' := 510) rfl (hb hby at_272) (by decide) (by decide) ?_
            exact kt
          by_cases hm : (g146_0.toInt8.toInt32) = (45 : Int32) ∧ (g146_1.toInt8.toInt32) = (45 : Int32) ∧ (g146_2.toInt8.toInt32) = (117 : Int32) ∧ (g146_3.toInt8.toInt32) = (114 : Int32) ∧ (g146_4.toInt8.toInt32) = (108 : Int32)
          · obtain ⟨hm0, hm1, hm2, hm3, hm4⟩ := id hm
            have V163 := o157_a
            rw [hm0, hm1, hm2, hm3, hm4] at V163
            have c164 := ((((((((((F_fvu.ext E113).other W116 (Or.inl ne_flu_b113)).other W120 (Or.inl ne_flu_b113)).other W124 (Or.inl ne_flu_b113)).other W128 (Or.inl ne_flu_b113)).other W132 (Or.inl ne_flu_b113)).other W137 (Or.inl ne_flu_b113)).other W142 (Or.inl ne_flu_b113)).ext E147).keep K157 (ninS ne_flu_b147 nin0))
            have c165 := ((((((((((F_fluc.ext E113).other W116 (Or.inl ne_flu_b113)).other W120 (Or.inl ne_flu_b113)).other W124 (Or.inl ne_flu_b113)).other W128 (Or.inl ne_flu_b113)).other W132 (Or.inl ne_flu_b113)).other W137 (Or.inl ne_flu_b113)).other W142 (Or.inl ne_flu_b113)).ext E147).keep K157 (ninS ne_flu_b147 nin0))
            have c166 := ((((((((((F_fvq.ext E113).other W116 (Or.inl ne_flq_b113)).other W120 (Or.inl ne_flq_b113)).other W124 (Or.inl ne_flq_b113)).other W128 (Or.inl ne_flq_b113)).other W132 (Or.inl ne_flq_b113)).other W137 (Or.inl ne_flq_b113)).other W142 (Or.inl ne_flq_b113)).ext E147).keep K157 (ninS ne_flq_b147 nin0))
            have c167 := ((((((((((F_flqc.ext E113).other W116 (Or.inl ne_flq_b113)).other W120 (Or.inl ne_flq_b113)).other W124 (Or.inl ne_flq_b113)).other W128 (Or.inl ne_flq_b113)).other W132 (Or.inl ne_flq_b113)).other W137 (Or.inl ne_flq_b113)).other W142 (Or.inl ne_flq_b113)).ext E147).keep K157 (ninS ne_flq_b147 nin0))
            have c168 := ((((((((((F_em.ext E113).other W116 (Or.inl ne_em_b113)).other W120 (Or.inl ne_em_b113)).other W124 (Or.inl ne_em_b113)).other W128 (Or.inl ne_em_b113)).other W132 (Or.inl ne_em_b113)).other W137 (Or.inl ne_em_b113)).other W142 (Or.inl ne_em_b113)).ext E147).keep K157 (ninS ne_em_b147 nin0))
            exact own_tailU p0 p1 p2 p3 va kv ou oq em flu fvu kfu flq fvq kfq cs hw hx hby hml hlk Bd.returns hh hEL hZ hown hS0 (Nat.zero_le _) CH159 Z162 Z162h _ _ _ _ b147 sv157 ks157 _ _ (Or.inr ⟨_, rfl, rfl⟩) (Or.inr ⟨_, rfl, rfl⟩) S_V V_va E_va hfit S_em S_cs hcs (c158.keep K157 (allS g_b147 all0)) ((c148.ext E147).keep K157 (ninS ne_ou_b147 nin0)) ((c149.ext E147).keep K157) c164 c165 ((c150.ext E147).keep K157 (ninS ne_fvu_b147 nin0)) ((c151.ext E147).keep K157 (ninS ne_oq_b147 nin0)) ((c152.ext E147).keep K157) c166 c167 ((c153.ext E147).keep K157 (ninS ne_fvq_b147 nin0)) S_ou S_oq ((c154.ext E147).keep K157) c168 o157_e o157_v o157_c V163 (by decide) (by decide) X157 N157 rfl
          · have c169 := ((((((((((F_fvu.ext E113).other W116 (Or.inl ne_flu_b113)).other W120 (Or.inl ne_flu_b113)).other W124 (Or.inl ne_flu_b113)).other W128 (Or.inl ne_flu_b113)).other W132 (Or.inl ne_flu_b113)).other W137 (Or.inl ne_flu_b113)).other W142 (Or.inl ne_flu_b113)).ext E147).keep K157 (ninS ne_flu_b147 nin0))
            have c170 := ((((((((((F_fluc.ext E113).other W116 (Or.inl ne_flu_b113)).other W120 (Or.inl ne_flu_b113)).other W124 (Or.inl ne_flu_b113)).other W128 (Or.inl ne_flu_b113)).other W132 (Or.inl ne_flu_b113)).other W137 (Or.inl ne_flu_b113)).other W142 (Or.inl ne_flu_b113)).ext E147).keep K157 (ninS ne_flu_b147 nin0))
            have c171 := ((((((((((F_fvq.ext E113).other W116 (Or.inl ne_flq_b113)).other W120 (Or.inl ne_flq_b113)).other W124 (Or.inl ne_flq_b113)).other W128 (Or.inl ne_flq_b113)).other W132 (Or.inl ne_flq_b113)).other W137 (Or.inl ne_flq_b113)).other W142 (Or.inl ne_flq_b113)).ext E147).keep K157 (ninS ne_flq_b147 nin0))
            have c172 := ((((((((((F_flqc.ext E113).other W116 (Or.inl ne_flq_b113)).other W120 (Or.inl ne_flq_b113)).other W124 (Or.inl ne_flq_b113)).other W128 (Or.inl ne_flq_b113)).other W132 (Or.inl ne_flq_b113)).other W137 (Or.inl ne_flq_b113)).other W142 (Or.inl ne_flq_b113)).ext E147).keep K157 (ninS ne_flq_b147 nin0))
            have c173 := ((((((((((F_em.ext E113).other W116 (Or.inl ne_em_b113)).other W120 (Or.inl ne_em_b113)).other W124 (Or.inl ne_em_b113)).other W128 (Or.inl ne_em_b113)).other W132 (Or.inl ne_em_b113)).other W137 (Or.inl ne_em_b113)).other W142 (Or.inl ne_em_b113)).ext E147).keep K157 (ninS ne_em_b147 nin0))
            exact own_tailA p0 p1 p2 p3 va kv ou oq em flu fvu kfu flq fvq kfq cs hw hx hby hml hlk Bd.returns hh hEL hZ hown hS0 (Nat.zero_le _) CH159 Z162 Z162h _ _ _ _ b147 sv157 ks157 (g146_0.toInt8.toInt32) (g146_1.toInt8.toInt32) (g146_2.toInt8.toInt32) (g146_3.toInt8.toInt32) (g146_4.toInt8.toInt32) _ _ (Or.inr ⟨_, rfl, rfl⟩) (Or.inr ⟨_, rfl, rfl⟩) S_V V_va E_va hfit S_em S_cs hcs (c158.keep K157 (allS g_b147 all0)) ((c148.ext E147).keep K157 (ninS ne_ou_b147 nin0)) ((c149.ext E147).keep K157) c169 c170 ((c150.ext E147).keep K157 (ninS ne_fvu_b147 nin0)) ((c151.ext E147).keep K157 (ninS ne_oq_b147 nin0)) ((c152.ext E147).keep K157) c171 c172 ((c153.ext E147).keep K157 (ninS ne_fvq_b147 nin0)) S_ou S_oq ((c154.ext E147).keep K157) c173 o157_e o157_v o157_c o157_a hm (by decide) (by decide) X157 N157 rfl
        · refine own_thrH (a := s₁.setTop (mkF m 278 #[.val (.int p0), .val (.int p1), .val (.int p2), .val (.int p3), .val (.int 1), .val (.int kd), .val (.int dc), .val (.int ec), .unset, .unset, .unset] [(.int 2), (.int kd)])) (fun t kt => ?_) ?_
          · refine XS.icmpYes X0.here hx rfl (pc0 := 147) (pc' := 275) rfl (hb hby at_147) rfl (feq hc112).2 (by decide) (by decide) ?_
            refine XS.iload X0.here hx rfl (hb hby at_275) rfl ?_
            refine XS.iconst X0.here hx rfl (hb hby at_277) ?_
            exact kt
          by_cases hc174 : kd = (2 : Int32)
          · refine own_thrH (a := s₁.setTop (mkF m 286 #[.val (.int p0), .val (.int p1), .val (.int p2), .val (.int p3), .val (.int 1), .val (.int kd), .val (.int dc), .val (.int ec), .unset, .unset, .unset] [])) (fun t kt => ?_) ?_
            · refine XS.icmpNo X0.here hx rfl (hb hby at_278) rfl (teq hc174).2 ?_
              refine XS.iload X0.here hx rfl (hb hby at_281) rfl ?_
              refine XS.ifNo X0.here hx rfl (hb hby at_283) rfl ((if0 _ _).trans (feq (by decide)).1) ?_
              exact kt
            obtain ⟨T175, h175, X175, e175, E175, A175, D175, U175, st175⟩ := newO X0 hx hZ hown (hw _ (own_i 0 rfl)) (hw _ (own_i 1 rfl)) (hw _ (own_i 2 rfl)) e0 (g := (mkF m 286 #[.val (.int p0), .val (.int p1), .val (.int p2), .val (.int p3), .val (.int 1), .val (.int kd), .val (.int dc), .val (.int ec), .unset, .unset, .unset] [])) rfl (hb hby at_286) (by decide : 0 + 1 ≤ _) (by decide : 0 + 4 ≤ _)
            obtain ⟨b175, g175⟩ : ∃ z, z = h0.size := ⟨_, rfl⟩
            rw [← g175] at A175 D175 st175 U175
            have g_b175 : n0 ≤ b175 := Nat.le_trans Z0 (Nat.le_of_eq g175.symm)
            have sz_b175 : h0.size ≤ b175 := Nat.le_trans (Nat.le_refl h0.size) (Nat.le_of_eq g175.symm)
            have lt_ou_b175 : ou < b175 := Nat.lt_of_lt_of_le F_flu.lt (Nat.le_of_eq g175.symm)
            have ne_ou_b175 : ou ≠ b175 := Nat.ne_of_lt lt_ou_b175
            have lt_flu_b175 : flu < b175 := Nat.lt_of_lt_of_le E_flu.lt (Nat.le_of_eq g175.symm)
            have ne_flu_b175 : flu ≠ b175 := Nat.ne_of_lt lt_flu_b175
            have lt_fvu_b175 : fvu < b175 := Nat.lt_of_lt_of_le V_fvu.lt (Nat.le_of_eq g175.symm)
            have ne_fvu_b175 : fvu ≠ b175 := Nat.ne_of_lt lt_fvu_b175
            have lt_oq_b175 : oq < b175 := Nat.lt_of_lt_of_le F_flq.lt (Nat.le_of_eq g175.symm)
            have ne_oq_b175 : oq ≠ b175 := Nat.ne_of_lt lt_oq_b175
            have lt_flq_b175 : flq < b175 := Nat.lt_of_lt_of_le E_flq.lt (Nat.le_of_eq g175.symm)
            have ne_flq_b175 : flq ≠ b175 := Nat.ne_of_lt lt_flq_b175
            have lt_fvq_b175 : fvq < b175 := Nat.lt_of_lt_of_le V_fvq.lt (Nat.le_of_eq g175.symm)
            have ne_fvq_b175 : fvq ≠ b175 := Nat.ne_of_lt lt_fvq_b175
            have lt_em_b175 : em < b175 := Nat.lt_of_lt_of_le E_em.lt (Nat.le_of_eq g175.symm)
            have ne_em_b175 : em ≠ b175 := Nat.ne_of_lt lt_em_b175
            have CH176 := CH0.trans (CHr.ext E175 CH0.1)
            have Z177 : n0 ≤ h175.size := Nat.le_trans Z0 E175.1
            have Z177h : h0.size ≤ h175.size := Nat.le_trans (Nat.le_refl h0.size) E175.1
            have F_coder_b175 : Fld Z h175 b175 "java/lang/String" "coder" "B" (.int 0) := D175 (Or.inr (hw _ (own_i 27 rfl))) (ty := .byte) (by decide)
            have F_value_b175 : Fld Z h175 b175 "java/lang/String" "value" "[B" .null := D175 (Or.inr (hw _ (own_i 29 rfl))) (ty := (.array .byte)) (by decide)
            refine own_thrH (a := T175.setTop (mkF m 289 #[.val (.int p0), .val (.int p1), .val (.int p2), .val (.int p3), .val (.int 1), .val (.int kd), .val (.int dc), .val (.int ec), .unset, .unset, .unset] [(.ref b175)])) (fun t kt => st175 t kt) ?_
            refine own_thrH (a := T175.setTop (mkF m 292 #[.val (.int p0), .val (.int p1), .val (.int p2), .val (.int p3), .val (.int 1), .val (.int kd), .val (.int dc), .val (.int ec), .unset, .unset, .unset] [(.int 6), (.ref b175), (.ref b175)])) (fun t kt => ?_) ?_
            · refine XS.dup X175.here hx rfl (hb hby at_289) rfl rfl ?_
              refine XS.bipush X175.here hx rfl (hb hby at_290) ?_
              exact kt
            obtain ⟨T178, h178, k178, X178, e178, E178, A178, st178⟩ := newP X175 hx hZ (hw _ (own_i 3 rfl)) e175 (g := (mkF m 292 #[.val (.int p0), .val (.int p1), .val (.int p2), .val (.int p3), .val (.int 1), .val (.int kd), .val (.int dc), .val (.int ec), .unset, .unset, .unset] [(.int 6), (.ref b175), (.ref b175)])) rfl (hb hby at_292) rfl (by decide) (cap := 6) (by decide) (by decide) (by decide : 1 + 1 ≤ _) (by decide : 4 + 6 ≤ _)
            obtain ⟨b178, g178⟩ : ∃ z, z = h175.size := ⟨_, rfl⟩
            rw [← g178] at A178 st178
            have g_b178 : n0 ≤ b178 := Nat.le_trans Z177 (Nat.le_of_eq g178.symm)
            have sz_b178 : h0.size ≤ b178 := Nat.le_trans Z177h (Nat.le_of_eq g178.symm)
            have lt_ou_b178 : ou < b178 := Nat.lt_of_lt_of_le (F_flu.ext E175).lt (Nat.le_of_eq g178.symm)
            have ne_ou_b178 : ou ≠ b178 := Nat.ne_of_lt lt_ou_b178
            have lt_flu_b178 : flu < b178 := Nat.lt_of_lt_of_le (E_flu.ext E175).lt (Nat.le_of_eq g178.symm)
            have ne_flu_b178 : flu ≠ b178 := Nat.ne_of_lt lt_flu_b178
            have lt_fvu_b178 : fvu < b178 := Nat.lt_of_lt_of_le (V_fvu.ext E175).lt (Nat.le_of_eq g178.symm)
            have ne_fvu_b178 : fvu ≠ b178 := Nat.ne_of_lt lt_fvu_b178
            have lt_oq_b178 : oq < b178 := Nat.lt_of_lt_of_le (F_flq.ext E175).lt (Nat.le_of_eq g178.symm)
            have ne_oq_b178 : oq ≠ b178 := Nat.ne_of_lt lt_oq_b178
            have lt_flq_b178 : flq < b178 := Nat.lt_of_lt_of_le (E_flq.ext E175).lt (Nat.le_of_eq g178.symm)
            have ne_flq_b178 : flq ≠ b178 := Nat.ne_of_lt lt_flq_b178
            have lt_fvq_b178 : fvq < b178 := Nat.lt_of_lt_of_le (V_fvq.ext E175).lt (Nat.le_of_eq g178.symm)
            have ne_fvq_b178 : fvq ≠ b178 := Nat.ne_of_lt lt_fvq_b178
            have lt_em_b178 : em < b178 := Nat.lt_of_lt_of_le (E_em.ext E175).lt (Nat.le_of_eq g178.symm)
            have ne_em_b178 : em ≠ b178 := Nat.ne_of_lt lt_em_b178
            have lt_b175_b178 : b175 < b178 := Nat.lt_of_lt_of_le A175.lt (Nat.le_of_eq g178.symm)
            have ne_b175_b178 : b175 ≠ b178 := Nat.ne_of_lt lt_b175_b178
            have V_b178 : Arv Z h178 b178 k178 .char (6 : Int32) [(.int 0), (.int 0), (.int 0), (.int 0), (.int 0), (.int 0)] (.int 0) := (Arv.new A178 (by decide)).pad (pad_rep [] (.int 0) 6)
            have CH179 := CH176.trans (CHr.ext E178 CH176.1)
            have Z180 : n0 ≤ h178.size := Nat.le_trans Z177 E178.1
            have Z180h : h0.size ≤ h178.size := Nat.le_trans Z177h E178.1
            refine own_thrH (a := T178.setTop (mkF m 294 #[.val (.int p0), .val (.int p1), .val (.int p2), .val (.int p3), .val (.int 1), .val (.int kd), .val (.int dc), .val (.int ec), .unset, .unset, .unset] [(.ref b178), (.ref b175), (.ref b175)])) (fun t kt => st178 t kt) ?_
            refine own_thrH (a := T178.setTop (mkF m 298 #[.val (.int p0), .val (.int p1), .val (.int p2), .val (.int p3), .val (.int 1), .val (.int kd), .val (.int dc), .val (.int ec), .unset, .unset, .unset] [(.int 45), (.int 0), (.ref b178), (.ref b178), (.ref b175), (.ref b175)])) (fun t kt => ?_) ?_
            · refine XS.dup X178.here hx rfl (hb hby at_294) rfl rfl ?_
              refine XS.iconst X178.here hx rfl (hb hby at_295) ?_
              refine XS.bipush X178.here hx rfl (hb hby at_296) ?_
              exact kt
            obtain ⟨cl181, Ar181, q181, S181, M181, H181, G181⟩ := id V_b178
            have hin181 : ¬ ((0 : Int32) < 0 ∨ cl181.slots.size ≤ ((0 : Int32)).toNatClampNeg) := inb_of S181 ⟨by decide, by decide⟩
            obtain ⟨T181, h181, X181, e181, W181, st181⟩ := stC X178 hx hZ e178 Ar181 (j := (0 : Int32)) hin181 (g := (mkF m 298 #[.val (.int p0), .val (.int p1), .val (.int p2), .val (.int p3), .val (.int 1), .val (.int kd), .val (.int dc), .val (.int ec), .unset, .unset, .unset] [(.int 45), (.int 0), (.ref b178), (.ref b178), (.ref b175), (.ref b175)])) rfl rfl (hb hby at_298)
            obtain ⟨clv183, Arv183, -⟩ := id V_b178
            have CH182 := CH179.trans (CHr.wr W181 (Safe.arr hZ.alike Arv183 (by decide)) CH179.1)
            have Z184 : n0 ≤ h181.size := Nat.le_trans Z180 (Nat.le_of_eq W181.size.symm)
            have Z184h : h0.size ≤ h181.size := Nat.le_trans Z180h (Nat.le_of_eq W181.size.symm)
            have V181 : Arv Z h181 b178 k178 .char (6 : Int32) [(.int 45), (.int 0), (.int 0), (.int 0), (.int 0), (.int 0)] (.int 0) := Arv.set Ar181 q181 S181 M181 H181 G181 (fits_nar_char _) W181 0 rfl (Nat.le_of_ble_eq_true rfl)
            obtain ⟨lc181, X181, N181⟩ := own_pack1 X181 N0 g_b178
            refine own_thrH (a := T181.setTop (mkF m 299 #[.val (.int p0), .val (.int p1), .val (.int p2), .val (.int p3), .val (.int 1), .val (.int kd), .val (.int dc), .val (.int ec), .unset, .unset, .unset] [(.ref b178), (.ref b175), (.ref b175)])) (fun t kt => st181 t kt) ?_
            refine own_thrH (a := T181.setTop (mkF m 303 #[.val (.int p0), .val (.int p1), .val (.int p2), .val (.int p3), .val (.int 1), .val (.int kd), .val (.int dc), .val (.int ec), .unset, .unset, .unset] [(.int 45), (.int 1), (.ref b178), (.ref b178), (.ref b175), (.ref b175)])) (fun t kt => ?_) ?_
            · refine XS.dup X181.here hx rfl (hb hby at_299) rfl rfl ?_
              refine XS.iconst X181.here hx rfl (hb hby at_300) ?_
              refine XS.bipush X181.here hx rfl (hb hby at_301) ?_
              exact kt
            obtain ⟨cl185, Ar185, q185, S185, M185, H185, G185⟩ := id V181
            have hin185 : ¬ ((1 : Int32) < 0 ∨ cl185.slots.size ≤ ((1 : Int32)).toNatClampNeg) := inb_of S185 ⟨by decide, by decide⟩
            obtain ⟨T185, h185, X185, e185, W185, st185⟩ := stC X181 hx hZ e181 Ar185 (j := (1 : Int32)) hin185 (g := (mkF m 303 #[.val (.int p0), .val (.int p1), .val (.int p2), .val (.int p3), .val (.int 1), .val (.int kd), .val (.int dc), .val (.int ec), .unset, .unset, .unset] [(.int 45), (.int 1), (.ref b178), (.ref b178), (.ref b175), (.ref b175)])) rfl rfl (hb hby at_303)
            obtain ⟨clv187, Arv187, -⟩ := id V181
            have CH186 := CH182.trans (CHr.wr W185 (Safe.arr hZ.alike Arv187 (by decide)) CH182.1)
            have Z188 : n0 ≤ h185.size := Nat.le_trans Z184 (Nat.le_of_eq W185.size.symm)
            have Z188h : h0.size ≤ h185.size := Nat.le_trans Z184h (Nat.le_of_eq W185.size.symm)
            have V185 : Arv Z h185 b178 k178 .char (6 : Int32) [(.int 45), (.int 45), (.int 0), (.int 0), (.int 0), (.int 0)] (.int 0) := Arv.set Ar185 q185 S185 M185 H185 G185 (fits_nar_char _) W185 1 rfl (Nat.le_of_ble_eq_true rfl)
            obtain ⟨lc185, X185, N185⟩ := own_pack1 X185 N181 g_b178
            refine own_thrH (a := T185.setTop (mkF m 304 #[.val (.int p0), .val (.int p1), .val (.int p2), .val (.int p3), .val (.int 1), .val (.int kd), .val (.int dc), .val (.int ec), .unset, .unset, .unset] [(.ref b178), (.ref b175), (.ref b175)])) (fun t kt => st185 t kt) ?_
            refine own_thrH (a := T185.setTop (mkF m 308 #[.val (.int p0), .val (.int p1), .val (.int p2), .val (.int p3), .val (.int 1), .val (.int kd), .val (.int dc), .val (.int ec), .unset, .unset, .unset] [(.int 117), (.int 2), (.ref b178), (.ref b178), (.ref b175), (.ref b175)])) (fun t kt => ?_) ?_
            · refine XS.dup X185.here hx rfl (hb hby at_304) rfl rfl ?_
              refine XS.iconst X185.here hx rfl (hb hby at_305) ?_
              refine XS.bipush X185.here hx rfl (hb hby at_306) ?_
              exact kt
            obtain ⟨cl189, Ar189, q189, S189, M189, H189, G189⟩ := id V185
            have hin189 : ¬ ((2 : Int32) < 0 ∨ cl189.slots.size ≤ ((2 : Int32)).toNatClampNeg) := inb_of S189 ⟨by decide, by decide⟩
            obtain ⟨T189, h189, X189, e189, W189, st189⟩ := stC X185 hx hZ e185 Ar189 (j := (2 : Int32)) hin189 (g := (mkF m 308 #[.val (.int p0), .val (.int p1), .val (.int p2), .val (.int p3), .val (.int 1), .val (.int kd), .val (.int dc), .val (.int ec), .unset, .unset, .unset] [(.int 117), (.int 2), (.ref b178), (.ref b178), (.ref b175), (.ref b175)])) rfl rfl (hb hby at_308)
            obtain ⟨clv191, Arv191, -⟩ := id V185
            have CH190 := CH186.trans (CHr.wr W189 (Safe.arr hZ.alike Arv191 (by decide)) CH186.1)
            have Z192 : n0 ≤ h189.size := Nat.le_trans Z188 (Nat.le_of_eq W189.size.symm)
            have Z192h : h0.size ≤ h189.size := Nat.le_trans Z188h (Nat.le_of_eq W189.size.symm)
            have V189 : Arv Z h189 b178 k178 .char (6 : Int32) [(.int 45), (.int 45), (.int 117), (.int 0), (.int 0), (.int 0)] (.int 0) := Arv.set Ar189 q189 S189 M189 H189 G189 (fits_nar_char _) W189 2 rfl (Nat.le_of_ble_eq_true rfl)
            obtain ⟨lc189, X189, N189⟩ := own_pack1 X189 N185 g_b178
            refine own_thrH (a := T189.setTop (mkF m 309 #[.val (.int p0), .val (.int p1), .val (.int p2), .val (.int p3), .val (.int 1), .val (.int kd), .val (.int dc), .val (.int ec), .unset, .unset, .unset] [(.ref b178), (.ref b175), (.ref b175)])) (fun t kt => st189 t kt) ?_
            refine own_thrH (a := T189.setTop (mkF m 313 #[.val (.int p0), .val (.int p1), .val (.int p2), .val (.int p3), .val (.int 1), .val (.int kd), .val (.int dc), .val (.int ec), .unset, .unset, .unset] [(.int 114), (.int 3), (.ref b178), (.ref b178), (.ref b175), (.ref b175)])) (fun t kt => ?_) ?_
            · refine XS.dup X189.here hx rfl (hb hby at_309) rfl rfl ?_
              refine XS.iconst X189.here hx rfl (hb hby at_310) ?_
              refine XS.bipush X189.here hx rfl (hb hby at_311) ?_
              exact kt
            obtain ⟨cl193, Ar193, q193, S193, M193, H193, G193⟩ := id V189
            have hin193 : ¬ ((3 : Int32) < 0 ∨ cl193.slots.size ≤ ((3 : Int32)).toNatClampNeg) := inb_of S193 ⟨by decide, by decide⟩
            obtain ⟨T193, h193, X193, e193, W193, st193⟩ := stC X189 hx hZ e189 Ar193 (j := (3 : Int32)) hin193 (g := (mkF m 313 #[.val (.int p0), .val (.int p1), .val (.int p2), .val (.int p3), .val (.int 1), .val (.int kd), .val (.int dc), .val (.int ec), .unset, .unset, .unset] [(.int 114), (.int 3), (.ref b178), (.ref b178), (.ref b175), (.ref b175)])) rfl rfl (hb hby at_313)
            obtain ⟨clv195, Arv195, -⟩ := id V189
            have CH194 := CH190.trans (CHr.wr W193 (Safe.arr hZ.alike Arv195 (by decide)) CH190.1)
            have Z196 : n0 ≤ h193.size := Nat.le_trans Z192 (Nat.le_of_eq W193.size.symm)
            have Z196h : h0.size ≤ h193.size := Nat.le_trans Z192h (Nat.le_of_eq W193.size.symm)
            have V193 : Arv Z h193 b178 k178 .char (6 : Int32) [(.int 45), (.int 45), (.int 117), (.int 114), (.int 0), (.int 0)] (.int 0) := Arv.set Ar193 q193 S193 M193 H193 G193 (fits_nar_char _) W193 3 rfl (Nat.le_of_ble_eq_true rfl)
            obtain ⟨lc193, X193, N193⟩ := own_pack1 X193 N189 g_b178
            refine own_thrH (a := T193.setTop (mkF m 314 #[.val (.int p0), .val (.int p1), .val (.int p2), .val (.int p3), .val (.int 1), .val (.int kd), .val (.int dc), .val (.int ec), .unset, .unset, .unset] [(.ref b178), (.ref b175), (.ref b175)])) (fun t kt => st193 t kt) ?_
            refine own_thrH (a := T193.setTop (mkF m 318 #[.val (.int p0), .val (.int p1), .val (.int p2), .val (.int p3), .val (.int 1), .val (.int kd), .val (.int dc), .val (.int ec), .unset, .unset, .unset] [(.int 108), (.int 4), (.ref b178), (.ref b178), (.ref b175), (.ref b175)])) (fun t kt => ?_) ?_
            · refine XS.dup X193.here hx rfl (hb hby at_314) rfl rfl ?_
              refine XS.iconst X193.here hx rfl (hb hby at_315) ?_
              refine XS.bipush X193.here hx rfl (hb hby at_316) ?_
              exact kt
            obtain ⟨cl197, Ar197, q197, S197, M197, H197, G197⟩ := id V193
            have hin197 : ¬ ((4 : Int32) < 0 ∨ cl197.slots.size ≤ ((4 : Int32)).toNatClampNeg) := inb_of S197 ⟨by decide, by decide⟩
            obtain ⟨T197, h197, X197, e197, W197, st197⟩ := stC X193 hx hZ e193 Ar197 (j := (4 : Int32)) hin197 (g := (mkF m 318 #[.val (.int p0), .val (.int p1), .val (.int p2), .val (.int p3), .val (.int 1), .val (.int kd), .val (.int dc), .val (.int ec), .unset, .unset, .unset] [(.int 108), (.int 4), (.ref b178), (.ref b178), (.ref b175), (.ref b175)])) rfl rfl (hb hby at_318)
            obtain ⟨clv199, Arv199, -⟩ := id V193
            have CH198 := CH194.trans (CHr.wr W197 (Safe.arr hZ.alike Arv199 (by decide)) CH194.1)
            have Z200 : n0 ≤ h197.size := Nat.le_trans Z196 (Nat.le_of_eq W197.size.symm)
            have Z200h : h0.size ≤ h197.size := Nat.le_trans Z196h (Nat.le_of_eq W197.size.symm)
            have V197 : Arv Z h197 b178 k178 .char (6 : Int32) [(.int 45), (.int 45), (.int 117), (.int 114), (.int 108), (.int 0)] (.int 0) := Arv.set Ar197 q197 S197 M197 H197 G197 (fits_nar_char _) W197 4 rfl (Nat.le_of_ble_eq_true rfl)
            obtain ⟨lc197, X197, N197⟩ := own_pack1 X197 N193 g_b178
            refine own_thrH (a := T197.setTop (mkF m 319 #[.val (.int p0), .val (.int p1), .val (.int p2), .val (.int p3), .val (.int 1), .val (.int kd), .val (.int dc), .val (.int ec), .unset, .unset, .unset] [(.ref b178), (.ref b175), (.ref b175)])) (fun t kt => st197 t kt) ?_
            refine own_thrH (a := T197.setTop (mkF m 323 #[.val (.int p0), .val (.int p1), .val (.int p2), .val (.int p3), .val (.int 1), .val (.int kd), .val (.int dc), .val (.int ec), .unset, .unset, .unset] [(.int dc), (.int 5), (.ref b178), (.ref b178), (.ref b175), (.ref b175)])) (fun t kt => ?_) ?_
            · refine XS.dup X197.here hx rfl (hb hby at_319) rfl rfl ?_
              refine XS.iconst X197.here hx rfl (hb hby at_320) ?_
              refine XS.iload X197.here hx rfl (hb hby at_321) rfl ?_
              exact kt
            obtain ⟨cl201, Ar201, q201, S201, M201, H201, G201⟩ := id V197
            have hin201 : ¬ ((5 : Int32) < 0 ∨ cl201.slots.size ≤ ((5 : Int32)).toNatClampNeg) := inb_of S201 ⟨by decide, by decide⟩
            obtain ⟨T201, h201, X201, e201, W201, st201⟩ := stC X197 hx hZ e197 Ar201 (j := (5 : Int32)) hin201 (g := (mkF m 323 #[.val (.int p0), .val (.int p1), .val (.int p2), .val (.int p3), .val (.int 1), .val (.int kd), .val (.int dc), .val (.int ec), .unset, .unset, .unset] [(.int dc), (.int 5), (.ref b178), (.ref b178), (.ref b175), (.ref b175)])) rfl rfl (hb hby at_323)
            obtain ⟨clv203, Arv203, -⟩ := id V197
            have CH202 := CH198.trans (CHr.wr W201 (Safe.arr hZ.alike Arv203 (by decide)) CH198.1)
            have Z204 : n0 ≤ h201.size := Nat.le_trans Z200 (Nat.le_of_eq W201.size.symm)
            have Z204h : h0.size ≤ h201.size := Nat.le_trans Z200h (Nat.le_of_eq W201.size.symm)
            have V201 : Arv Z h201 b178 k178 .char (6 : Int32) [(.int 45), (.int 45), (.int 117), (.int 114), (.int 108), (.int (dc.toUInt32.toUInt16.toUInt32.toInt32))] (.int 0) := Arv.set Ar201 q201 S201 M201 H201 G201 (fits_nar_char _) W201 5 rfl (Nat.le_of_ble_eq_true rfl)
            obtain ⟨lc201, X201, N201⟩ := own_pack1 X201 N197 g_b178
            refine own_thrH (a := T201.setTop (mkF m 324 #[.val (.int p0), .val (.int p1), .val (.int p2), .val (.int p3), .val (.int 1), .val (.int kd), .val (.int dc), .val (.int ec), .unset, .unset, .unset] [(.ref b178), (.ref b175), (.ref b175)])) (fun t kt => st201 t kt) ?_
            have c206 := (((((((A175.ext E178).wr W181).wr W185).wr W189).wr W193).wr W197).wr W201)
            have c207 := (((((((F_value_b175.ext E178).other W181 (Or.inl ne_b175_b178)).other W185 (Or.inl ne_b175_b178)).other W189 (Or.inl ne_b175_b178)).other W193 (Or.inl ne_b175_b178)).other W197 (Or.inl ne_b175_b178)).other W201 (Or.inl ne_b175_b178))
            have c208 := (((((((F_coder_b175.ext E178).other W181 (Or.inl ne_b175_b178)).other W185 (Or.inl ne_b175_b178)).other W189 (Or.inl ne_b175_b178)).other W193 (Or.inl ne_b175_b178)).other W197 (Or.inl ne_b175_b178)).other W201 (Or.inl ne_b175_b178))
            have c209 := ((((((((hO.ext E175).ext E178).wr W181 g_b178).wr W185 g_b178).wr W189 g_b178).wr W193 g_b178).wr W197 g_b178).wr W201 g_b178)
            obtain ⟨_, _, ⟨T205, L205, k205, n205⟩, -, X205, ⟨Lc205, hQ205, l205, y205, z205⟩, st205⟩ := X201.specialBack hx (y := (⟨"java/lang/String", "<init>", "([C)V"⟩ : MethodName)) rfl hown (mvT hZ (hw _ (own_i 4 rfl))) (mvT hZ (hw _ (own_i 5 rfl))) (mvT hZ (hw _ (own_i 6 rfl))) (by decide) (StrChars.Road.backV hZ (fun d hd => hw d (own_sw d hd)) (hw _ (own_i 1 rfl)) (x := b175) (b := b178) (cs := [(45 : Int32), (45 : Int32), (117 : Int32), (114 : Int32), (108 : Int32), (dc.toUInt32.toUInt16.toUInt32.toInt32)]) (bs := [((45 : Int32).toInt8.toInt32), ((45 : Int32).toInt8.toInt32), ((117 : Int32).toInt8.toInt32), ((114 : Int32).toInt8.toInt32), ((108 : Int32).toInt8.toInt32), ((dc.toUInt32.toUInt16.toUInt32.toInt32).toInt8.toInt32)]) (n := 6) (W := 1) g_b175 Z204 c206 c207 c208 V201 (S_cs.ext c209.2) hcs rfl rfl (by decide) (by decide) (own_fa ⟨by decide, by decide⟩ (own_fa ⟨by decide, by decide⟩ (own_fa ⟨by decide, by decide⟩ (own_fa ⟨by decide, by decide⟩ (own_fa ⟨by decide, by decide⟩ (own_fa mdc own_f0)))))) rfl (by decide) (by decide)) (g := (mkF m 324 #[.val (.int p0), .val (.int p1), .val (.int p2), .val (.int p3), .val (.int 1), .val (.int kd), .val (.int dc), .val (.int ec), .unset, .unset, .unset] [(.ref b178), (.ref b175), (.ref b175)])) rfl (by rw [hml]; rfl) (Steps.refl _) (a := b175) (argsL := [(.ref b178)]) (rest := [(.ref b175)]) (lenOf pd__28_5bC_29V rfl) rfl (by show 2 * 0 + _ ≤ _; exact Nat.le_of_eq rfl) (hb hby at_324) (fun _ _ => ⟨rfl, e201, (by decide : 2 + 1 ≤ _), (by decide : 10 + 6 ≤ _)⟩)
            dsimp only [Pt.U, Pt.locs, Pt.cells, Pt.slots] at X205 l205 y205 z205 st205 hQ205
            obtain ⟨rfl, N205q, K205, o205_e, o205_c, sv205, ks205, -, -, -, o205_v, o205_A⟩ := hQ205
            have sf211 := own_safe (EL := own_EL) hZ.alike c206 c207
            have sf212 := Safe.keep K205 (allS sf211 all0) CH202.1 sf211
            have CH210 := CH202.trans (CHr.keep K205 (allS sf211 all0) CH202.1)
            have Z213 : n0 ≤ T205.heap.size := Nat.le_trans Z204 K205.1
            have Z213h : h0.size ≤ T205.heap.size := Nat.le_trans Z204h K205.1
            have o205_a : Arv Z T205.heap sv205 ks205 .byte (6 : Int32) [(.int ((45 : Int32).toInt8.toInt32)), (.int ((45 : Int32).toInt8.toInt32)), (.int ((117 : Int32).toInt8.toInt32)), (.int ((114 : Int32).toInt8.toInt32)), (.int ((108 : Int32).toInt8.toInt32)), (.int ((dc.toUInt32.toUInt16.toUInt32.toInt32).toInt8.toInt32))] (.int 0) := o205_A
            obtain ⟨lc205, X205, N205⟩ := own_pack X205 l205 y205 z205 N201 N205q (C := 3) (S' := 16) rfl rfl
            refine own_thrH (a := T205.setTop (mkF m 327 #[.val (.int p0), .val (.int p1), .val (.int p2), .val (.int p3), .val (.int 1), .val (.int kd), .val (.int dc), .val (.int ec), .unset, .unset, .unset] [(.ref b175)])) (fun t kt => st205.trans kt) ?_
            refine own_thrH (a := T205.setTop (mkF m 510 #[.val (.int p0), .val (.int p1), .val (.int p2), .val (.int p3), .val (.int 1), .val (.int kd), .val (.int dc), .val (.int ec), .val (.ref b175), .unset, .unset] [])) (fun t kt => ?_) ?_
            · refine XS.goto X205.here hx rfl (pc0 := 327) (pc' := 383) rfl (hb hby at_327) (by decide) (by decide) ?_
              refine XS.astore X205.here hx rfl (hb hby at_383) rfl rfl (l' := #[.val (.int p0), .val (.int p1), .val (.int p2), .val (.int p3), .val (.int 1), .val (.int kd), .val (.int dc), .val (.int ec), .val (.ref b175), .unset, .unset]) rfl ?_
              refine XS.goto X205.here hx rfl (pc0 := 385) (pc' := 510) rfl (hb hby at_385) (by decide) (by decide) ?_
              exact kt
            have c214 := (((((((((F_flu.ext E175).ext E178).other W181 (Or.inl ne_ou_b178)).other W185 (Or.inl ne_ou_b178)).other W189 (Or.inl ne_ou_b178)).other W193 (Or.inl ne_ou_b178)).other W197 (Or.inl ne_ou_b178)).other W201 (Or.inl ne_ou_b178)).keep K205 (ninS ne_ou_b175 nin0))
            have c215 := (((((((((E_flu.ext E175).ext E178).wr W181).wr W185).wr W189).wr W193).wr W197).wr W201).keep K205)
            have c216 := (((((((((F_fvu.ext E175).ext E178).other W181 (Or.inl ne_flu_b178)).other W185 (Or.inl ne_flu_b178)).other W189 (Or.inl ne_flu_b178)).other W193 (Or.inl ne_flu_b178)).other W197 (Or.inl ne_flu_b178)).other W201 (Or.inl ne_flu_b178)).keep K205 (ninS ne_flu_b175 nin0))
            have c217 := (((((((((F_fluc.ext E175).ext E178).other W181 (Or.inl ne_flu_b178)).other W185 (Or.inl ne_flu_b178)).other W189 (Or.inl ne_flu_b178)).other W193 (Or.inl ne_flu_b178)).other W197 (Or.inl ne_flu_b178)).other W201 (Or.inl ne_flu_b178)).keep K205 (ninS ne_flu_b175 nin0))
            have c218 := (((((((((V_fvu.ext E175).ext E178).other W181 ne_fvu_b178).other W185 ne_fvu_b178).other W189 ne_fvu_b178).other W193 ne_fvu_b178).other W197 ne_fvu_b178).other W201 ne_fvu_b178).keep K205 (ninS ne_fvu_b175 nin0))
            have c219 := (((((((((F_flq.ext E175).ext E178).other W181 (Or.inl ne_oq_b178)).other W185 (Or.inl ne_oq_b178)).other W189 (Or.inl ne_oq_b178)).other W193 (Or.inl ne_oq_b178)).other W197 (Or.inl ne_oq_b178)).other W201 (Or.inl ne_oq_b178)).keep K205 (ninS ne_oq_b175 nin0))
            have c220 := (((((((((E_flq.ext E175).ext E178).wr W181).wr W185).wr W189).wr W193).wr W197).wr W201).keep K205)
            have c221 := (((((((((F_fvq.ext E175).ext E178).other W181 (Or.inl ne_flq_b178)).other W185 (Or.inl ne_flq_b178)).other W189 (Or.inl ne_flq_b178)).other W193 (Or.inl ne_flq_b178)).other W197 (Or.inl ne_flq_b178)).other W201 (Or.inl ne_flq_b178)).keep K205 (ninS ne_flq_b175 nin0))
            have c222 := (((((((((F_flqc.ext E175).ext E178).other W181 (Or.inl ne_flq_b178)).other W185 (Or.inl ne_flq_b178)).other W189 (Or.inl ne_flq_b178)).other W193 (Or.inl ne_flq_b178)).other W197 (Or.inl ne_flq_b178)).other W201 (Or.inl ne_flq_b178)).keep K205 (ninS ne_flq_b175 nin0))
            have c223 := (((((((((V_fvq.ext E175).ext E178).other W181 ne_fvq_b178).other W185 ne_fvq_b178).other W189 ne_fvq_b178).other W193 ne_fvq_b178).other W197 ne_fvq_b178).other W201 ne_fvq_b178).keep K205 (ninS ne_fvq_b175 nin0))
            have c224 := (((((((((E_em.ext E175).ext E178).wr W181).wr W185).wr W189).wr W193).wr W197).wr W201).keep K205)
            have c225 := (((((((((F_em.ext E175).ext E178).other W181 (Or.inl ne_em_b178)).other W185 (Or.inl ne_em_b178)).other W189 (Or.inl ne_em_b178)).other W193 (Or.inl ne_em_b178)).other W197 (Or.inl ne_em_b178)).other W201 (Or.inl ne_em_b178)).keep K205 (ninS ne_em_b175 nin0))
            exact own_tailD p0 p1 p2 p3 va kv ou oq em flu fvu kfu flq fvq kfq cs hw hx hby hml hlk Bd.returns hh hEL hZ hown hS0 (Nat.zero_le _) CH210 Z213 Z213h _ _ _ _ b175 sv205 ks205 (6 : Int32) [(.int ((45 : Int32).toInt8.toInt32)), (.int ((45 : Int32).toInt8.toInt32)), (.int ((117 : Int32).toInt8.toInt32)), (.int ((114 : Int32).toInt8.toInt32)), (.int ((108 : Int32).toInt8.toInt32)), (.int ((dc.toUInt32.toUInt16.toUInt32.toInt32).toInt8.toInt32))] _ _ (Or.inl rfl) (Or.inl rfl) S_V V_va E_va hfit S_em S_cs hcs (c209.keep K205 (allS g_b175 all0)) c214 c215 c216 c217 c218 c219 c220 c221 c222 c223 S_ou S_oq c224 c225 o205_e o205_v o205_c o205_a (by decide) (by decide) (by decide) (by decide) (by decide) (by decide) X205 N205 rfl
          · refine own_thrH (a := s₁.setTop (mkF m 391 #[.val (.int p0), .val (.int p1), .val (.int p2), .val (.int p3), .val (.int 1), .val (.int kd), .val (.int dc), .val (.int ec), .unset, .unset, .unset] [(.int 3), (.int kd)])) (fun t kt => ?_) ?_
            · refine XS.icmpYes X0.here hx rfl (pc0 := 278) (pc' := 388) rfl (hb hby at_278) rfl (feq hc174).2 (by decide) (by decide) ?_
              refine XS.iload X0.here hx rfl (hb hby at_388) rfl ?_
              refine XS.iconst X0.here hx rfl (hb hby at_390) ?_
              exact kt
            by_cases hc226 : kd = (3 : Int32)
            · refine own_thrH (a := s₁.setTop (mkF m 399 #[.val (.int p0), .val (.int p1), .val (.int p2), .val (.int p3), .val (.int 1), .val (.int kd), .val (.int dc), .val (.int ec), .unset, .unset, .unset] [])) (fun t kt => ?_) ?_
              · refine XS.icmpNo X0.here hx rfl (hb hby at_391) rfl (teq hc226).2 ?_
                refine XS.iload X0.here hx rfl (hb hby at_394) rfl ?_
                refine XS.ifNo X0.here hx rfl (hb hby at_396) rfl ((if0 _ _).trans (feq (by decide)).1) ?_
                exact kt
              obtain ⟨T227, h227, X227, e227, E227, A227, D227, U227, st227⟩ := newO X0 hx hZ hown (hw _ (own_i 0 rfl)) (hw _ (own_i 1 rfl)) (hw _ (own_i 2 rfl)) e0 (g := (mkF m 399 #[.val (.int p0), .val (.int p1), .val (.int p2), .val (.int p3), .val (.int 1), .val (.int kd), .val (.int dc), .val (.int ec), .unset, .unset, .unset] [])) rfl (hb hby at_399) (by decide : 0 + 1 ≤ _) (by decide : 0 + 4 ≤ _)
              obtain ⟨b227, g227⟩ : ∃ z, z = h0.size := ⟨_, rfl⟩
              rw [← g227] at A227 D227 st227 U227
              have g_b227 : n0 ≤ b227 := Nat.le_trans Z0 (Nat.le_of_eq g227.symm)
              have sz_b227 : h0.size ≤ b227 := Nat.le_trans (Nat.le_refl h0.size) (Nat.le_of_eq g227.symm)
              have lt_ou_b227 : ou < b227 := Nat.lt_of_lt_of_le F_flu.lt (Nat.le_of_eq g227.symm)
              have ne_ou_b227 : ou ≠ b227 := Nat.ne_of_lt lt_ou_b227
              have lt_flu_b227 : flu < b227 := Nat.lt_of_lt_of_le E_flu.lt (Nat.le_of_eq g227.symm)
              have ne_flu_b227 : flu ≠ b227 := Nat.ne_of_lt lt_flu_b227
              have lt_fvu_b227 : fvu < b227 := Nat.lt_of_lt_of_le V_fvu.lt (Nat.le_of_eq g227.symm)
              have ne_fvu_b227 : fvu ≠ b227 := Nat.ne_of_lt lt_fvu_b227
              have lt_oq_b227 : oq < b227 := Nat.lt_of_lt_of_le F_flq.lt (Nat.le_of_eq g227.symm)
              have ne_oq_b227 : oq ≠ b227 := Nat.ne_of_lt lt_oq_b227
              have lt_flq_b227 : flq < b227 := Nat.lt_of_lt_of_le E_flq.lt (Nat.le_of_eq g227.symm)
              have ne_flq_b227 : flq ≠ b227 := Nat.ne_of_lt lt_flq_b227
              have lt_fvq_b227 : fvq < b227 := Nat.lt_of_lt_of_le V_fvq.lt (Nat.le_of_eq g227.symm)
              have ne_fvq_b227 : fvq ≠ b227 := Nat.ne_of_lt lt_fvq_b227
              have lt_em_b227 : em < b227 := Nat.lt_of_lt_of_le E_em.lt (Nat.le_of_eq g227.symm)
              have ne_em_b227 : em ≠ b227 := Nat.ne_of_lt lt_em_b227
              have CH228 := CH0.trans (CHr.ext E227 CH0.1)
              have Z229 : n0 ≤ h227.size := Nat.le_trans Z0 E227.1
              have Z229h : h0.size ≤ h227.size := Nat.le_trans (Nat.le_refl h0.size) E227.1
              have F_coder_b227 : Fld Z h227 b227 "java/lang/String" "coder" "B" (.int 0) := D227 (Or.inr (hw _ (own_i 27 rfl))) (ty := .byte) (by decide)
              have F_value_b227 : Fld Z h227 b227 "java/lang/String" "value" "[B" .null := D227 (Or.inr (hw _ (own_i 29 rfl))) (ty := (.array .byte)) (by decide)
              refine own_thrH (a := T227.setTop (mkF m 402 #[.val (.int p0), .val (.int p1), .val (.int p2), .val (.int p3), .val (.int 1), .val (.int kd), .val (.int dc), .val (.int ec), .unset, .unset, .unset] [(.ref b227)])) (fun t kt => st227 t kt) ?_
              refine own_thrH (a := T227.setTop (mkF m 404 #[.val (.int p0), .val (.int p1), .val (.int p2), .val (.int p3), .val (.int 1), .val (.int kd), .val (.int dc), .val (.int ec), .unset, .unset, .unset] [(.int 4), (.ref b227), (.ref b227)])) (fun t kt => ?_) ?_
              · refine XS.dup X227.here hx rfl (hb hby at_402) rfl rfl ?_
                refine XS.iconst X227.here hx rfl (hb hby at_403) ?_
                exact kt
              obtain ⟨T230, h230, k230, X230, e230, E230, A230, st230⟩ := newP X227 hx hZ (hw _ (own_i 3 rfl)) e227 (g := (mkF m 404 #[.val (.int p0), .val (.int p1), .val (.int p2), .val (.int p3), .val (.int 1), .val (.int kd), .val (.int dc), .val (.int ec), .unset, .unset, .unset] [(.int 4), (.ref b227), (.ref b227)])) rfl (hb hby at_404) rfl (by decide) (cap := 4) (by decide) (by decide) (by decide : 1 + 1 ≤ _) (by decide : 4 + 4 ≤ _)
              obtain ⟨b230, g230⟩ : ∃ z, z = h227.size := ⟨_, rfl⟩
              rw [← g230] at A230 st230
              have g_b230 : n0 ≤ b230 := Nat.le_trans Z229 (Nat.le_of_eq g230.symm)
              have sz_b230 : h0.size ≤ b230 := Nat.le_trans Z229h (Nat.le_of_eq g230.symm)
              have lt_ou_b230 : ou < b230 := Nat.lt_of_lt_of_le (F_flu.ext E227).lt (Nat.le_of_eq g230.symm)
              have ne_ou_b230 : ou ≠ b230 := Nat.ne_of_lt lt_ou_b230
              have lt_flu_b230 : flu < b230 := Nat.lt_of_lt_of_le (E_flu.ext E227).lt (Nat.le_of_eq g230.symm)
              have ne_flu_b230 : flu ≠ b230 := Nat.ne_of_lt lt_flu_b230
              have lt_fvu_b230 : fvu < b230 := Nat.lt_of_lt_of_le (V_fvu.ext E227).lt (Nat.le_of_eq g230.symm)
              have ne_fvu_b230 : fvu ≠ b230 := Nat.ne_of_lt lt_fvu_b230
              have lt_oq_b230 : oq < b230 := Nat.lt_of_lt_of_le (F_flq.ext E227).lt (Nat.le_of_eq g230.symm)
              have ne_oq_b230 : oq ≠ b230 := Nat.ne_of_lt lt_oq_b230
              have lt_flq_b230 : flq < b230 := Nat.lt_of_lt_of_le (E_flq.ext E227).lt (Nat.le_of_eq g230.symm)
              have ne_flq_b230 : flq ≠ b230 := Nat.ne_of_lt lt_flq_b230
              have lt_fvq_b230 : fvq < b230 := Nat.lt_of_lt_of_le (V_fvq.ext E227).lt (Nat.le_of_eq g230.symm)
              have ne_fvq_b230 : fvq ≠ b230 := Nat.ne_of_lt lt_fvq_b230
              have lt_em_b230 : em < b230 := Nat.lt_of_lt_of_le (E_em.ext E227).lt (Nat.le_of_eq g230.symm)
              have ne_em_b230 : em ≠ b230 := Nat.ne_of_lt lt_em_b230
              have lt_b227_b230 : b227 < b230 := Nat.lt_of_lt_of_le A227.lt (Nat.le_of_eq g230.symm)
              have ne_b227_b230 : b227 ≠ b230 := Nat.ne_of_lt lt_b227_b230
              have V_b230 : Arv Z h230 b230 k230 .char (4 : Int32) [(.int 0), (.int 0), (.int 0), (.int 0)] (.int 0) := (Arv.new A230 (by decide)).pad (pad_rep [] (.int 0) 4)
              have CH231 := CH228.trans (CHr.ext E230 CH228.1)
              have Z232 : n0 ≤ h230.size := Nat.le_trans Z229 E230.1
              have Z232h : h0.size ≤ h230.size := Nat.le_trans Z229h E230.1
              refine own_thrH (a := T230.setTop (mkF m 406 #[.val (.int p0), .val (.int p1), .val (.int p2), .val (.int p3), .val (.int 1), .val (.int kd), .val (.int dc), .val (.int ec), .unset, .unset, .unset] [(.ref b230), (.ref b227), (.ref b227)])) (fun t kt => st230 t kt) ?_
              refine own_thrH (a := T230.setTop (mkF m 410 #[.val (.int p0), .val (.int p1), .val (.int p2), .val (.int p3), .val (.int 1), .val (.int kd), .val (.int dc), .val (.int ec), .unset, .unset, .unset] [(.int 45), (.int 0), (.ref b230), (.ref b230), (.ref b227), (.ref b227)])) (fun t kt => ?_) ?_
              · refine XS.dup X230.here hx rfl (hb hby at_406) rfl rfl ?_
                refine XS.iconst X230.here hx rfl (hb hby at_407) ?_
                refine XS.bipush X230.here hx rfl (hb hby at_408) ?_
                exact kt
              obtain ⟨cl233, Ar233, q233, S233, M233, H233, G233⟩ := id V_b230
              have hin233 : ¬ ((0 : Int32) < 0 ∨ cl233.slots.size ≤ ((0 : Int32)).toNatClampNeg) := inb_of S233 ⟨by decide, by decide⟩
              obtain ⟨T233, h233, X233, e233, W233, st233⟩ := stC X230 hx hZ e230 Ar233 (j := (0 : Int32)) hin233 (g := (mkF m 410 #[.val (.int p0), .val (.int p1), .val (.int p2), .val (.int p3), .val (.int 1), .val (.int kd), .val (.int dc), .val (.int ec), .unset, .unset, .unset] [(.int 45), (.int 0), (.ref b230), (.ref b230), (.ref b227), (.ref b227)])) rfl rfl (hb hby at_410)
              obtain ⟨clv235, Arv235, -⟩ := id V_b230
              have CH234 := CH231.trans (CHr.wr W233 (Safe.arr hZ.alike Arv235 (by decide)) CH231.1)
              have Z236 : n0 ≤ h233.size := Nat.le_trans Z232 (Nat.le_of_eq W233.size.symm)
              have Z236h : h0.size ≤ h233.size := Nat.le_trans Z232h (Nat.le_of_eq W233.size.symm)
              have V233 : Arv Z h233 b230 k230 .char (4 : Int32) [(.int 45), (.int 0), (.int 0), (.int 0)] (.int 0) := Arv.set Ar233 q233 S233 M233 H233 G233 (fits_nar_char _) W233 0 rfl (Nat.le_of_ble_eq_true rfl)
              obtain ⟨lc233, X233, N233⟩ := own_pack1 X233 N0 g_b230
              refine own_thrH (a := T233.setTop (mkF m 411 #[.val (.int p0), .val (.int p1), .val (.int p2), .val (.int p3), .val (.int 1), .val (.int kd), .val (.int dc), .val (.int ec), .unset, .unset, .unset] [(.ref b230), (.ref b227), (.ref b227)])) (fun t kt => st233 t kt) ?_
              refine own_thrH (a := T233.setTop (mkF m 415 #[.val (.int p0), .val (.int p1), .val (.int p2), .val (.int p3), .val (.int 1), .val (.int kd), .val (.int dc), .val (.int ec), .unset, .unset, .unset] [(.int 45), (.int 1), (.ref b230), (.ref b230), (.ref b227), (.ref b227)])) (fun t kt => ?_) ?_
              · refine XS.dup X233.here hx rfl (hb hby at_411) rfl rfl ?_
                refine XS.iconst X233.here hx rfl (hb hby at_412) ?_
                refine XS.bipush X233.here hx rfl (hb hby at_413) ?_
                exact kt
              obtain ⟨cl237, Ar237, q237, S237, M237, H237, G237⟩ := id V233
              have hin237 : ¬ ((1 : Int32) < 0 ∨ cl237.slots.size ≤ ((1 : Int32)).toNatClampNeg) := inb_of S237 ⟨by decide, by decide⟩
              obtain ⟨T237, h237, X237, e237, W237, st237⟩ := stC X233 hx hZ e233 Ar237 (j := (1 : Int32)) hin237 (g := (mkF m 415 #[.val (.int p0), .val (.int p1), .val (.int p2), .val (.int p3), .val (.int 1), .val (.int kd), .val (.int dc), .val (.int ec), .unset, .unset, .unset] [(.int 45), (.int 1), (.ref b230), (.ref b230), (.ref b227), (.ref b227)])) rfl rfl (hb hby at_415)
              obtain ⟨clv239, Arv239, -⟩ := id V233
              have CH238 := CH234.trans (CHr.wr W237 (Safe.arr hZ.alike Arv239 (by decide)) CH234.1)
              have Z240 : n0 ≤ h237.size := Nat.le_trans Z236 (Nat.le_of_eq W237.size.symm)
              have Z240h : h0.size ≤ h237.size := Nat.le_trans Z236h (Nat.le_of_eq W237.size.symm)
              have V237 : Arv Z h237 b230 k230 .char (4 : Int32) [(.int 45), (.int 45), (.int 0), (.int 0)] (.int 0) := Arv.set Ar237 q237 S237 M237 H237 G237 (fits_nar_char _) W237 1 rfl (Nat.le_of_ble_eq_true rfl)
              obtain ⟨lc237, X237, N237⟩ := own_pack1 X237 N233 g_b230
              refine own_thrH (a := T237.setTop (mkF m 416 #[.val (.int p0), .val (.int p1), .val (.int p2), .val (.int p3), .val (.int 1), .val (.int kd), .val (.int dc), .val (.int ec), .unset, .unset, .unset] [(.ref b230), (.ref b227), (.ref b227)])) (fun t kt => st237 t kt) ?_
              refine own_thrH (a := T237.setTop (mkF m 420 #[.val (.int p0), .val (.int p1), .val (.int p2), .val (.int p3), .val (.int 1), .val (.int kd), .val (.int dc), .val (.int ec), .unset, .unset, .unset] [(.int 117), (.int 2), (.ref b230), (.ref b230), (.ref b227), (.ref b227)])) (fun t kt => ?_) ?_
              · refine XS.dup X237.here hx rfl (hb hby at_416) rfl rfl ?_
                refine XS.iconst X237.here hx rfl (hb hby at_417) ?_
                refine XS.bipush X237.here hx rfl (hb hby at_418) ?_
                exact kt
              obtain ⟨cl241, Ar241, q241, S241, M241, H241, G241⟩ := id V237
              have hin241 : ¬ ((2 : Int32) < 0 ∨ cl241.slots.size ≤ ((2 : Int32)).toNatClampNeg) := inb_of S241 ⟨by decide, by decide⟩
              obtain ⟨T241, h241, X241, e241, W241, st241⟩ := stC X237 hx hZ e237 Ar241 (j := (2 : Int32)) hin241 (g := (mkF m 420 #[.val (.int p0), .val (.int p1), .val (.int p2), .val (.int p3), .val (.int 1), .val (.int kd), .val (.int dc), .val (.int ec), .unset, .unset, .unset] [(.int 117), (.int 2), (.ref b230), (.ref b230), (.ref b227), (.ref b227)])) rfl rfl (hb hby at_420)
              obtain ⟨clv243, Arv243, -⟩ := id V237
              have CH242 := CH238.trans (CHr.wr W241 (Safe.arr hZ.alike Arv243 (by decide)) CH238.1)
              have Z244 : n0 ≤ h241.size := Nat.le_trans Z240 (Nat.le_of_eq W241.size.symm)
              have Z244h : h0.size ≤ h241.size := Nat.le_trans Z240h (Nat.le_of_eq W241.size.symm)
              have V241 : Arv Z h241 b230 k230 .char (4 : Int32) [(.int 45), (.int 45), (.int 117), (.int 0)] (.int 0) := Arv.set Ar241 q241 S241 M241 H241 G241 (fits_nar_char _) W241 2 rfl (Nat.le_of_ble_eq_true rfl)
              obtain ⟨lc241, X241, N241⟩ := own_pack1 X241 N237 g_b230
              refine own_thrH (a := T241.setTop (mkF m 421 #[.val (.int p0), .val (.int p1), .val (.int p2), .val (.int p3), .val (.int 1), .val (.int kd), .val (.int dc), .val (.int ec), .unset, .unset, .unset] [(.ref b230), (.ref b227), (.ref b227)])) (fun t kt => st241 t kt) ?_
              refine own_thrH (a := T241.setTop (mkF m 425 #[.val (.int p0), .val (.int p1), .val (.int p2), .val (.int p3), .val (.int 1), .val (.int kd), .val (.int dc), .val (.int ec), .unset, .unset, .unset] [(.int 114), (.int 3), (.ref b230), (.ref b230), (.ref b227), (.ref b227)])) (fun t kt => ?_) ?_
              · refine XS.dup X241.here hx rfl (hb hby at_421) rfl rfl ?_
                refine XS.iconst X241.here hx rfl (hb hby at_422) ?_
                refine XS.bipush X241.here hx rfl (hb hby at_423) ?_
                exact kt
              obtain ⟨cl245, Ar245, q245, S245, M245, H245, G245⟩ := id V241
              have hin245 : ¬ ((3 : Int32) < 0 ∨ cl245.slots.size ≤ ((3 : Int32)).toNatClampNeg) := inb_of S245 ⟨by decide, by decide⟩
              obtain ⟨T245, h245, X245, e245, W245, st245⟩ := stC X241 hx hZ e241 Ar245 (j := (3 : Int32)) hin245 (g := (mkF m 425 #[.val (.int p0), .val (.int p1), .val (.int p2), .val (.int p3), .val (.int 1), .val (.int kd), .val (.int dc), .val (.int ec), .unset, .unset, .unset] [(.int 114), (.int 3), (.ref b230), (.ref b230), (.ref b227), (.ref b227)])) rfl rfl (hb hby at_425)
              obtain ⟨clv247, Arv247, -⟩ := id V241
              have CH246 := CH242.trans (CHr.wr W245 (Safe.arr hZ.alike Arv247 (by decide)) CH242.1)
              have Z248 : n0 ≤ h245.size := Nat.le_trans Z244 (Nat.le_of_eq W245.size.symm)
              have Z248h : h0.size ≤ h245.size := Nat.le_trans Z244h (Nat.le_of_eq W245.size.symm)
              have V245 : Arv Z h245 b230 k230 .char (4 : Int32) [(.int 45), (.int 45), (.int 117), (.int 114)] (.int 0) := Arv.set Ar245 q245 S245 M245 H245 G245 (fits_nar_char _) W245 3 rfl (Nat.le_of_ble_eq_true rfl)
              obtain ⟨lc245, X245, N245⟩ := own_pack1 X245 N241 g_b230
              refine own_thrH (a := T245.setTop (mkF m 426 #[.val (.int p0), .val (.int p1), .val (.int p2), .val (.int p3), .val (.int 1), .val (.int kd), .val (.int dc), .val (.int ec), .unset, .unset, .unset] [(.ref b230), (.ref b227), (.ref b227)])) (fun t kt => st245 t kt) ?_
              have c250 := (((((F_value_b227.ext E230).other W233 (Or.inl ne_b227_b230)).other W237 (Or.inl ne_b227_b230)).other W241 (Or.inl ne_b227_b230)).other W245 (Or.inl ne_b227_b230))
              have c251 := (((((F_coder_b227.ext E230).other W233 (Or.inl ne_b227_b230)).other W237 (Or.inl ne_b227_b230)).other W241 (Or.inl ne_b227_b230)).other W245 (Or.inl ne_b227_b230))
              have c252 := ((((((hO.ext E227).ext E230).wr W233 g_b230).wr W237 g_b230).wr W241 g_b230).wr W245 g_b230)
              obtain ⟨_, _, ⟨T249, L249, k249, n249⟩, -, X249, ⟨Lc249, hQ249, l249, y249, z249⟩, st249⟩ := X245.specialBack hx (y := (⟨"java/lang/String", "<init>", "([C)V"⟩ : MethodName)) rfl hown (mvT hZ (hw _ (own_i 4 rfl))) (mvT hZ (hw _ (own_i 5 rfl))) (mvT hZ (hw _ (own_i 6 rfl))) (by decide) (StrChars.Road.backV hZ (fun d hd => hw d (own_sw d hd)) (hw _ (own_i 1 rfl)) (x := b227) (b := b230) (cs := [(45 : Int32), (45 : Int32), (117 : Int32), (114 : Int32)]) (bs := [((45 : Int32).toInt8.toInt32), ((45 : Int32).toInt8.toInt32), ((117 : Int32).toInt8.toInt32), ((114 : Int32).toInt8.toInt32)]) (n := 4) (W := 1) g_b227 Z248 (((((A227.ext E230).wr W233).wr W237).wr W241).wr W245) c250 c251 V245 (S_cs.ext c252.2) hcs rfl rfl (by decide) (by decide) (own_fa ⟨by decide, by decide⟩ (own_fa ⟨by decide, by decide⟩ (own_fa ⟨by decide, by decide⟩ (own_fa ⟨by decide, by decide⟩ own_f0)))) rfl (by decide) (by decide)) (g := (mkF m 426 #[.val (.int p0), .val (.int p1), .val (.int p2), .val (.int p3), .val (.int 1), .val (.int kd), .val (.int dc), .val (.int ec), .unset, .unset, .unset] [(.ref b230), (.ref b227), (.ref b227)])) rfl (by rw [hml]; rfl) (Steps.refl _) (a := b227) (argsL := [(.ref b230)]) (rest := [(.ref b227)]) (lenOf pd__28_5bC_29V rfl) rfl (by show 2 * 0 + _ ≤ _; exact Nat.le_of_eq rfl) (hb hby at_426) (fun _ _ => ⟨rfl, e245, (by decide : 2 + 1 ≤ _), (by decide : 8 + 4 ≤ _)⟩)
              dsimp only [Pt.U, Pt.locs, Pt.cells, Pt.slots] at X249 l249 y249 z249 st249 hQ249
              obtain ⟨rfl, N249q, K249, o249_e, o249_c, sv249, ks249, -, -, -, o249_v, o249_A⟩ := hQ249
              have sf254 := own_safe (EL := own_EL) hZ.alike (((((A227.ext E230).wr W233).wr W237).wr W241).wr W245) c250
              have sf255 := Safe.keep K249 (allS sf254 all0) CH246.1 sf254
              have CH253 := CH246.trans (CHr.keep K249 (allS sf254 all0) CH246.1)
              have Z256 : n0 ≤ T249.heap.size := Nat.le_trans Z248 K249.1
              have Z256h : h0.size ≤ T249.heap.size := Nat.le_trans Z248h K249.1
              have o249_a : Arv Z T249.heap sv249 ks249 .byte (4 : Int32) [(.int ((45 : Int32).toInt8.toInt32)), (.int ((45 : Int32).toInt8.toInt32)), (.int ((117 : Int32).toInt8.toInt32)), (.int ((114 : Int32).toInt8.toInt32))] (.int 0) := o249_A
              obtain ⟨lc249, X249, N249⟩ := own_pack X249 l249 y249 z249 N245 N249q (C := 3) (S' := 12) rfl rfl
              refine own_thrH (a := T249.setTop (mkF m 429 #[.val (.int p0), .val (.int p1), .val (.int p2), .val (.int p3), .val (.int 1), .val (.int kd), .val (.int dc), .val (.int ec), .unset, .unset, .unset] [(.ref b227)])) (fun t kt => st249.trans kt) ?_
              refine own_thrH (a := T249.setTop (mkF m 510 #[.val (.int p0), .val (.int p1), .val (.int p2), .val (.int p3), .val (.int 1), .val (.int kd), .val (.int dc), .val (.int ec), .val (.ref b227), .unset, .unset] [])) (fun t kt => ?_) ?_
              · refine XS.goto X249.here hx rfl (pc0 := 429) (pc' := 473) rfl (hb hby at_429) (by decide) (by decide) ?_
                refine XS.astore X249.here hx rfl (hb hby at_473) rfl rfl (l' := #[.val (.int p0), .val (.int p1), .val (.int p2), .val (.int p3), .val (.int 1), .val (.int kd), .val (.int dc), .val (.int ec), .val (.ref b227), .unset, .unset]) rfl ?_
                refine XS.goto X249.here hx rfl (pc0 := 475) (pc' := 510) rfl (hb hby at_475) (by decide) (by decide) ?_
                exact kt
              have c257 := (((((((F_flu.ext E227).ext E230).other W233 (Or.inl ne_ou_b230)).other W237 (Or.inl ne_ou_b230)).other W241 (Or.inl ne_ou_b230)).other W245 (Or.inl ne_ou_b230)).keep K249 (ninS ne_ou_b227 nin0))
              have c258 := (((((((E_flu.ext E227).ext E230).wr W233).wr W237).wr W241).wr W245).keep K249)
              have c259 := (((((((F_fvu.ext E227).ext E230).other W233 (Or.inl ne_flu_b230)).other W237 (Or.inl ne_flu_b230)).other W241 (Or.inl ne_flu_b230)).other W245 (Or.inl ne_flu_b230)).keep K249 (ninS ne_flu_b227 nin0))
              have c260 := (((((((F_fluc.ext E227).ext E230).other W233 (Or.inl ne_flu_b230)).other W237 (Or.inl ne_flu_b230)).other W241 (Or.inl ne_flu_b230)).other W245 (Or.inl ne_flu_b230)).keep K249 (ninS ne_flu_b227 nin0))
              have c261 := (((((((V_fvu.ext E227).ext E230).other W233 ne_fvu_b230).other W237 ne_fvu_b230).other W241 ne_fvu_b230).other W245 ne_fvu_b230).keep K249 (ninS ne_fvu_b227 nin0))
              have c262 := (((((((F_flq.ext E227).ext E230).other W233 (Or.inl ne_oq_b230)).other W237 (Or.inl ne_oq_b230)).other W241 (Or.inl ne_oq_b230)).other W245 (Or.inl ne_oq_b230)).keep K249 (ninS ne_oq_b227 nin0))
              have c263 := (((((((E_flq.ext E227).ext E230).wr W233).wr W237).wr W241).wr W245).keep K249)
              have c264 := (((((((F_fvq.ext E227).ext E230).other W233 (Or.inl ne_flq_b230)).other W237 (Or.inl ne_flq_b230)).other W241 (Or.inl ne_flq_b230)).other W245 (Or.inl ne_flq_b230)).keep K249 (ninS ne_flq_b227 nin0))
              have c265 := (((((((F_flqc.ext E227).ext E230).other W233 (Or.inl ne_flq_b230)).other W237 (Or.inl ne_flq_b230)).other W241 (Or.inl ne_flq_b230)).other W245 (Or.inl ne_flq_b230)).keep K249 (ninS ne_flq_b227 nin0))
              have c266 := (((((((V_fvq.ext E227).ext E230).other W233 ne_fvq_b230).other W237 ne_fvq_b230).other W241 ne_fvq_b230).other W245 ne_fvq_b230).keep K249 (ninS ne_fvq_b227 nin0))
              have c267 := (((((((E_em.ext E227).ext E230).wr W233).wr W237).wr W241).wr W245).keep K249)
              have c268 := (((((((F_em.ext E227).ext E230).other W233 (Or.inl ne_em_b230)).other W237 (Or.inl ne_em_b230)).other W241 (Or.inl ne_em_b230)).other W245 (Or.inl ne_em_b230)).keep K249 (ninS ne_em_b227 nin0))
              exact own_tailD p0 p1 p2 p3 va kv ou oq em flu fvu kfu flq fvq kfq cs hw hx hby hml hlk Bd.returns hh hEL hZ hown hS0 (Nat.zero_le _) CH253 Z256 Z256h _ _ _ _ b227 sv249 ks249 (4 : Int32) [(.int ((45 : Int32).toInt8.toInt32)), (.int ((45 : Int32).toInt8.toInt32)), (.int ((117 : Int32).toInt8.toInt32)), (.int ((114 : Int32).toInt8.toInt32))] _ _ (Or.inl rfl) (Or.inl rfl) S_V V_va E_va hfit S_em S_cs hcs (c252.keep K249 (allS g_b227 all0)) c257 c258 c259 c260 c261 c262 c263 c264 c265 c266 S_ou S_oq c267 c268 o249_e o249_v o249_c o249_a (by decide) (by decide) (by decide) (by decide) (by decide) (by decide) X249 N249 rfl
            · refine own_thrH (a := s₁.setTop (mkF m 481 #[.val (.int p0), .val (.int p1), .val (.int p2), .val (.int p3), .val (.int 1), .val (.int kd), .val (.int dc), .val (.int ec), .unset, .unset, .unset] [(.int 4), (.int kd)])) (fun t kt => ?_) ?_
              · refine XS.icmpYes X0.here hx rfl (pc0 := 391) (pc' := 478) rfl (hb hby at_391) rfl (feq hc226).2 (by decide) (by decide) ?_
                refine XS.iload X0.here hx rfl (hb hby at_478) rfl ?_
                refine XS.iconst X0.here hx rfl (hb hby at_480) ?_
                exact kt
              by_cases hc269 : kd = (4 : Int32)
              · refine own_thrH (a := s₁.setTop (mkF m 510 #[.val (.int p0), .val (.int p1), .val (.int p2), .val (.int p3), .val (.int 1), .val (.int kd), .val (.int dc), .val (.int ec), .val .null, .unset, .unset] [])) (fun t kt => ?_) ?_
                · refine XS.icmpNo X0.here hx rfl (hb hby at_481) rfl (teq hc269).2 ?_
                  refine XS.aconstNull X0.here hx rfl (hb hby at_484) ?_
                  refine XS.astore X0.here hx rfl (hb hby at_485) rfl rfl (l' := #[.val (.int p0), .val (.int p1), .val (.int p2), .val (.int p3), .val (.int 1), .val (.int kd), .val (.int dc), .val (.int ec), .val .null, .unset, .unset]) rfl ?_
                  refine XS.goto X0.here hx rfl (pc0 := 487) (pc' := 510) rfl (hb hby at_487) (by decide) (by decide) ?_
                  exact kt
                exact own_tailN p0 p1 p2 p3 va kv ou oq em flu fvu kfu flq fvq kfq cs hw hx hby hml hlk Bd.returns hh hEL hZ hown hS0 (Nat.zero_le _) CH0 Z0 (Nat.le_refl h0.size) _ _ _ _ _ _ (Or.inl rfl) (Or.inl rfl) S_V V_va E_va hfit S_em S_cs hcs hO F_flu E_flu F_fvu F_fluc V_fvu F_flq E_flq F_fvq F_flqc V_fvq S_ou S_oq E_em F_em (by decide) (by decide) X0 N0 e0
              · refine own_thrH (a := s₁.setTop (mkF m 493 #[.val (.int p0), .val (.int p1), .val (.int p2), .val (.int p3), .val (.int 1), .val (.int kd), .val (.int dc), .val (.int ec), .unset, .unset, .unset] [(.int 5), (.int kd)])) (fun t kt => ?_) ?_
                · refine XS.icmpYes X0.here hx rfl (pc0 := 481) (pc' := 490) rfl (hb hby at_481) rfl (feq hc269).2 (by decide) (by decide) ?_
                  refine XS.iload X0.here hx rfl (hb hby at_490) rfl ?_
                  refine XS.iconst X0.here hx rfl (hb hby at_492) ?_
                  exact kt
                by_cases hc270 : kd = (5 : Int32)
                · refine own_thrH (a := s₁.setTop (mkF m 496 #[.val (.int p0), .val (.int p1), .val (.int p2), .val (.int p3), .val (.int 1), .val (.int kd), .val (.int dc), .val (.int ec), .unset, .unset, .unset] [])) (fun t kt => ?_) ?_
                  · refine XS.icmpNo X0.here hx rfl (hb hby at_493) rfl (teq hc270).2 ?_
                    exact kt
                  obtain ⟨b271, T271, h271, kk271, d271, kc271, X271, e271, E271, hS271, hk271, hZ271, hown271, oE271, oC271, oV271, oA271, -, -, ch271, -, sfq271, st271⟩ := ldcCH X0 hx hZ hown (hw _ (own_i 113 rfl)) (fun a ha => hw a (own_sa a ha)) e0 hS0 (Nat.zero_le _) hEL (by decide) CH0.1 (vs := []) (z := (0 : Int32)) ⟨by decide, rfl⟩ (by decide) rfl (g := (mkF m 496 #[.val (.int p0), .val (.int p1), .val (.int p2), .val (.int p3), .val (.int 1), .val (.int kd), .val (.int dc), .val (.int ec), .unset, .unset, .unset] [])) rfl (hb hby at_496) (n := 0) (by decide) (by decide) (by decide : 0 + 2 ≤ _) (by decide : 0 + 4 ≤ _)
                  have Z272 : n0 ≤ h271.size := Nat.le_trans Z0 E271.1
                  have Z272h : h0.size ≤ h271.size := Nat.le_trans (Nat.le_refl h0.size) E271.1
                  have CHl271 := CH0.trans ch271
                  refine own_thrH (a := T271.setTop (mkF m 498 #[.val (.int p0), .val (.int p1), .val (.int p2), .val (.int p3), .val (.int 1), .val (.int kd), .val (.int dc), .val (.int ec), .unset, .unset, .unset] [(.ref b271)])) (fun t kt => st271 t kt) ?_
                  refine own_thrH (a := T271.setTop (mkF m 510 #[.val (.int p0), .val (.int p1), .val (.int p2), .val (.int p3), .val (.int 1), .val (.int kd), .val (.int dc), .val (.int ec), .val (.ref b271), .unset, .unset] [])) (fun t kt => ?_) ?_
                  · refine XS.astore X271.here hx rfl (hb hby at_498) rfl rfl (l' := #[.val (.int p0), .val (.int p1), .val (.int p2), .val (.int p3), .val (.int 1), .val (.int kd), .val (.int dc), .val (.int ec), .val (.ref b271), .unset, .unset]) rfl ?_
                    refine XS.goto X271.here hx rfl (pc0 := 500) (pc' := 510) rfl (hb hby at_500) (by decide) (by decide) ?_
                    exact kt
                  exact own_tailD p0 p1 p2 p3 va kv ou oq em flu fvu kfu flq fvq kfq cs hw hx hby hml hlk Bd.returns hh hEL hZ271 hown271 hS271 hk271 CHl271 Z272 Z272h _ _ _ _ b271 d271 kc271 (0 : Int32) [] _ _ (Or.inl rfl) (Or.inl rfl) S_V V_va E_va hfit S_em S_cs hcs (hO.ext E271) (F_flu.ext E271) (E_flu.ext E271) (F_fvu.ext E271) (F_fluc.ext E271) (V_fvu.ext E271) (F_flq.ext E271) (E_flq.ext E271) (F_fvq.ext E271) (F_flqc.ext E271) (V_fvq.ext E271) S_ou S_oq (E_em.ext E271) (F_em.ext E271) oE271 oV271 oC271 oA271 (by decide) (by decide) (by decide) (by decide) (by decide) (by decide) X271 N0 e271
                · refine own_thrH (a := s₁.setTop (mkF m 505 #[.val (.int p0), .val (.int p1), .val (.int p2), .val (.int p3), .val (.int 1), .val (.int kd), .val (.int dc), .val (.int ec), .unset, .unset, .unset] [(.int dc)])) (fun t kt => ?_) ?_
                  · refine XS.icmpYes X0.here hx rfl (pc0 := 493) (pc' := 503) rfl (hb hby at_493) rfl (feq hc270).2 (by decide) (by decide) ?_
                    refine XS.iload X0.here hx rfl (hb hby at_503) rfl ?_
                    exact kt
                  obtain ⟨_, _, ⟨T273, L273, k273, n273⟩, -, X273, ⟨Lc273, hQ273, l273, y273, z273⟩, st273⟩ := Jvm.LawKit.callS X0 hx (y := (⟨"java/lang/String", "valueOf", "(C)Ljava/lang/String;"⟩ : MethodName)) hown (mvT hZ (hw _ (own_i 95 rfl))) (mvT hZ (hw _ (own_i 96 rfl))) (mvT hZ (hw _ (own_i 2 rfl))) (mvT hZ (hw _ (own_i 97 rfl))) (by decide) (backOf (W := 0) (rmVO l Z a0 hw [] dc cs h0 n0 Z0 (S_cs.ext hO.2) hcs ldc) hZ (hw _ (own_i 97 rfl)) (hw _ (own_i 2 rfl)) (by decide) (by decide)) (g := (mkF m 505 #[.val (.int p0), .val (.int p1), .val (.int p2), .val (.int p3), .val (.int 1), .val (.int kd), .val (.int dc), .val (.int ec), .unset, .unset, .unset] [(.int dc)])) rfl (by rw [hml]; rfl) (argsL := [(.int dc)]) (rest := []) (lenOf pd__28C_29Ljava_2flang_2fString_3b rfl) rfl (by show 2 * 0 + _ ≤ _; exact Nat.le_of_eq rfl) (hb hby at_505) (fun _ _ => ⟨rfl, e0, (by decide : 0 + 2 ≤ _), (by decide : 0 + 5 ≤ _)⟩)
                  dsimp only [Pt.U, Pt.locs, Pt.cells, Pt.slots] at X273 l273 y273 z273 st273 hQ273
                  obtain ⟨r273, rfl, N273q, K273, o273_0, o273_1, o273_2⟩ := hQ273
                  have CH274 := CH0.trans (CHr.keep K273 all0 CH0.1)
                  have Z275 : n0 ≤ T273.heap.size := Nat.le_trans Z0 K273.1
                  have Z275h : h0.size ≤ T273.heap.size := Nat.le_trans (Nat.le_refl h0.size) K273.1
                  obtain ⟨lc273, X273, N273⟩ := own_pack X273 l273 y273 z273 N0 N273q (C := 2) (S' := 5) rfl rfl
                  refine own_thrH (a := T273.setTop (mkF m 508 #[.val (.int p0), .val (.int p1), .val (.int p2), .val (.int p3), .val (.int 1), .val (.int kd), .val (.int dc), .val (.int ec), .unset, .unset, .unset] [(.ref r273)])) (fun t kt => st273 t kt) ?_
                  obtain ⟨sv273, ks273, o273_v, o273_a⟩ := o273_2
                  refine own_thrH (a := T273.setTop (mkF m 510 #[.val (.int p0), .val (.int p1), .val (.int p2), .val (.int p3), .val (.int 1), .val (.int kd), .val (.int dc), .val (.int ec), .val (.ref r273), .unset, .unset] [])) (fun t kt => ?_) ?_
                  · refine XS.astore X273.here hx rfl (hb hby at_508) rfl rfl (l' := #[.val (.int p0), .val (.int p1), .val (.int p2), .val (.int p3), .val (.int 1), .val (.int kd), .val (.int dc), .val (.int ec), .val (.ref r273), .unset, .unset]) rfl ?_
                    exact kt
                  exact own_tailD p0 p1 p2 p3 va kv ou oq em flu fvu kfu flq fvq kfq cs hw hx hby hml hlk Bd.returns hh hEL hZ hown hS0 (Nat.zero_le _) CH274 Z275 Z275h _ _ _ _ r273 sv273 ks273 (1 : Int32) [(.int (((dc).toInt8.toInt32).toInt8.toInt32))] _ _ (Or.inl rfl) (Or.inl rfl) S_V V_va E_va hfit S_em S_cs hcs (hO.keep K273 all0) (F_flu.keep K273 nin0) (E_flu.keep K273) (F_fvu.keep K273 nin0) (F_fluc.keep K273 nin0) (V_fvu.keep K273 nin0) (F_flq.keep K273 nin0) (E_flq.keep K273) (F_fvq.keep K273 nin0) (F_flqc.keep K273 nin0) (V_fvq.keep K273 nin0) S_ou S_oq (E_em.keep K273) (F_em.keep K273 nin0) o273_0 o273_v o273_1 o273_a (by decide) (by decide) (by decide) (by decide) (by decide) (by decide) X273 N273 rfl
  · refine own_thrH (a := s₁.setTop (mkF m 37 #[.val (.int p0), .val (.int p1), .val (.int p2), .val (.int p3), .val (.int 0), .val (.int (((p0.toUInt32 >>> ((1 : Int32) &&& 31).toUInt32).toInt32) &&& (7 : Int32))), .val (.int ((p2 &&& (255 : Int32)).toUInt32.toUInt16.toUInt32.toInt32)), .val (.int ((p3 &&& (255 : Int32)).toUInt32.toUInt16.toUInt32.toInt32)), .unset, .unset, .unset] [])) (fun t kt => ?_) ?_
    · refine XS.ifYes X0.here hx rfl (pc0 := 3) (pc' := 10) rfl (hb hby at_3) rfl ((if0 _ _).trans (feq hc1).2) (by decide) (by decide) ?_
      refine XS.iconst X0.here hx rfl (hb hby at_10) ?_
      refine XS.istore X0.here hx rfl (hb hby at_11) rfl (l' := #[.val (.int p0), .val (.int p1), .val (.int p2), .val (.int p3), .val (.int 0), .unset, .unset, .unset, .unset, .unset, .unset]) rfl ?_
      refine XS.iloadN X0.here hx rfl (hb hby at_13) rfl ?_
      refine XS.iconst X0.here hx rfl (hb hby at_14) ?_
      refine XS.iushr X0.here hx rfl (hb hby at_15) rfl ?_
      refine XS.bipush X0.here hx rfl (hb hby at_16) ?_
      refine XS.iand X0.here hx rfl (hb hby at_18) rfl ?_
      refine XS.istore X0.here hx rfl (hb hby at_19) rfl (l' := #[.val (.int p0), .val (.int p1), .val (.int p2), .val (.int p3), .val (.int 0), .val (.int (((p0.toUInt32 >>> ((1 : Int32) &&& 31).toUInt32).toInt32) &&& (7 : Int32))), .unset, .unset, .unset, .unset, .unset]) rfl ?_
      refine XS.iloadN X0.here hx rfl (hb hby at_21) rfl ?_
      refine XS.sipush X0.here hx rfl (hb hby at_22) ?_
      refine XS.iand X0.here hx rfl (hb hby at_25) rfl ?_
      refine XS.i2c X0.here hx rfl (hb hby at_26) rfl ?_
      refine XS.istore X0.here hx rfl (hb hby at_27) rfl (l' := #[.val (.int p0), .val (.int p1), .val (.int p2), .val (.int p3), .val (.int 0), .val (.int (((p0.toUInt32 >>> ((1 : Int32) &&& 31).toUInt32).toInt32) &&& (7 : Int32))), .val (.int ((p2 &&& (255 : Int32)).toUInt32.toUInt16.toUInt32.toInt32)), .unset, .unset, .unset, .unset]) rfl ?_
      refine XS.iloadN X0.here hx rfl (hb hby at_29) rfl ?_
      refine XS.sipush X0.here hx rfl (hb hby at_30) ?_
      refine XS.iand X0.here hx rfl (hb hby at_33) rfl ?_
      refine XS.i2c X0.here hx rfl (hb hby at_34) rfl ?_
      refine XS.istore X0.here hx rfl (hb hby at_35) rfl (l' := #[.val (.int p0), .val (.int p1), .val (.int p2), .val (.int p3), .val (.int 0), .val (.int (((p0.toUInt32 >>> ((1 : Int32) &&& 31).toUInt32).toInt32) &&& (7 : Int32))), .val (.int ((p2 &&& (255 : Int32)).toUInt32.toUInt16.toUInt32.toInt32)), .val (.int ((p3 &&& (255 : Int32)).toUInt32.toUInt16.toUInt32.toInt32)), .unset, .unset, .unset]) rfl ?_
      exact kt
    obtain ⟨kd, ekd⟩ : ∃ z : Int32, z = (((p0.toUInt32 >>> ((1 : Int32) &&& 31).toUInt32).toInt32) &&& (7 : Int32)) := ⟨_, rfl⟩
    rw [← ekd]
    obtain ⟨dc, edc⟩ : ∃ z : Int32, z = ((p2 &&& (255 : Int32)).toUInt32.toUInt16.toUInt32.toInt32) := ⟨_, rfl⟩
    rw [← edc]
    obtain ⟨ec, eec⟩ : ∃ z : Int32, z = ((p3 &&& (255 : Int32)).toUInt32.toUInt16.toUInt32.toInt32) := ⟨_, rfl⟩
    rw [← eec]
    have ldc : ¬ (255 : Int32) < dc := by rw [edc]; exact own_c1 _
    have mdc : ¬ (dc.toUInt32.toUInt16.toUInt32.toInt32) < 0 ∧ ¬ (255 : Int32) < (dc.toUInt32.toUInt16.toUInt32.toInt32) := by rw [edc]; exact own_k2 _
    have lec : ¬ (255 : Int32) < ec := by rw [eec]; exact own_c1 _
    have mec : ¬ (ec.toUInt32.toUInt16.toUInt32.toInt32) < 0 ∧ ¬ (255 : Int32) < (ec.toUInt32.toUInt16.toUInt32.toInt32) := by rw [eec]; exact own_k2 _
    refine own_thrH (a := s₁.setTop (mkF m 39 #[.val (.int p0), .val (.int p1), .val (.int p2), .val (.int p3), .val (.int 0), .val (.int kd), .val (.int dc), .val (.int ec), .unset, .unset, .unset] [(.int kd)])) (fun t kt => ?_) ?_
    · refine XS.iload X0.here hx rfl (hb hby at_37) rfl ?_
      exact kt
    by_cases hc276 : kd = (0 : Int32)
    · refine own_thrH (a := s₁.setTop (mkF m 85 #[.val (.int p0), .val (.int p1), .val (.int p2), .val (.int p3), .val (.int 0), .val (.int kd), .val (.int dc), .val (.int ec), .unset, .unset, .unset] [])) (fun t kt => ?_) ?_
      · refine XS.ifNo X0.here hx rfl (hb hby at_39) rfl ((if0 _ _).trans (teq hc276).2) ?_
        refine XS.iload X0.here hx rfl (hb hby at_42) rfl ?_
        refine XS.ifYes X0.here hx rfl (pc0 := 44) (pc' := 85) rfl (hb hby at_44) rfl ((if0 _ _).trans (teq rfl).1) (by decide) (by decide) ?_
        exact kt
      obtain ⟨T277, h277, X277, e277, E277, A277, D277, U277, st277⟩ := newO X0 hx hZ hown (hw _ (own_i 0 rfl)) (hw _ (own_i 1 rfl)) (hw _ (own_i 2 rfl)) e0 (g := (mkF m 85 #[.val (.int p0), .val (.int p1), .val (.int p2), .val (.int p3), .val (.int 0), .val (.int kd), .val (.int dc), .val (.int ec), .unset, .unset, .unset] [])) rfl (hb hby at_85) (by decide : 0 + 1 ≤ _) (by decide : 0 + 4 ≤ _)
      obtain ⟨b277, g277⟩ : ∃ z, z = h0.size := ⟨_, rfl⟩
      rw [← g277] at A277 D277 st277 U277
      have g_b277 : n0 ≤ b277 := Nat.le_trans Z0 (Nat.le_of_eq g277.symm)
      have sz_b277 : h0.size ≤ b277 := Nat.le_trans (Nat.le_refl h0.size) (Nat.le_of_eq g277.symm)
      have lt_ou_b277 : ou < b277 := Nat.lt_of_lt_of_le F_flu.lt (Nat.le_of_eq g277.symm)
      have ne_ou_b277 : ou ≠ b277 := Nat.ne_of_lt lt_ou_b277
      have lt_flu_b277 : flu < b277 := Nat.lt_of_lt_of_le E_flu.lt (Nat.le_of_eq g277.symm)
      have ne_flu_b277 : flu ≠ b277 := Nat.ne_of_lt lt_flu_b277
      have lt_fvu_b277 : fvu < b277 := Nat.lt_of_lt_of_le V_fvu.lt (Nat.le_of_eq g277.symm)
      have ne_fvu_b277 : fvu ≠ b277 := Nat.ne_of_lt lt_fvu_b277
      have lt_oq_b277 : oq < b277 := Nat.lt_of_lt_of_le F_flq.lt (Nat.le_of_eq g277.symm)
      have ne_oq_b277 : oq ≠ b277 := Nat.ne_of_lt lt_oq_b277
      have lt_flq_b277 : flq < b277 := Nat.lt_of_lt_of_le E_flq.lt (Nat.le_of_eq g277.symm)
      have ne_flq_b277 : flq ≠ b277 := Nat.ne_of_lt lt_flq_b277
      have lt_fvq_b277 : fvq < b277 := Nat.lt_of_lt_of_le V_fvq.lt (Nat.le_of_eq g277.symm)
      have ne_fvq_b277 : fvq ≠ b277 := Nat.ne_of_lt lt_fvq_b277
      have lt_em_b277 : em < b277 := Nat.lt_of_lt_of_le E_em.lt (Nat.le_of_eq g277.symm)
      have ne_em_b277 : em ≠ b277 := Nat.ne_of_lt lt_em_b277
      have CH278 := CH0.trans (CHr.ext E277 CH0.1)
      have Z279 : n0 ≤ h277.size := Nat.le_trans Z0 E277.1
      have Z279h : h0.size ≤ h277.size := Nat.le_trans (Nat.le_refl h0.size) E277.1
      have F_coder_b277 : Fld Z h277 b277 "java/lang/String" "coder" "B" (.int 0) := D277 (Or.inr (hw _ (own_i 27 rfl))) (ty := .byte) (by decide)
      have F_value_b277 : Fld Z h277 b277 "java/lang/String" "value" "[B" .null := D277 (Or.inr (hw _ (own_i 29 rfl))) (ty := (.array .byte)) (by decide)
      refine own_thrH (a := T277.setTop (mkF m 88 #[.val (.int p0), .val (.int p1), .val (.int p2), .val (.int p3), .val (.int 0), .val (.int kd), .val (.int dc), .val (.int ec), .unset, .unset, .unset] [(.ref b277)])) (fun t kt => st277 t kt) ?_
      refine own_thrH (a := T277.setTop (mkF m 91 #[.val (.int p0), .val (.int p1), .val (.int p2), .val (.int p3), .val (.int 0), .val (.int kd), .val (.int dc), .val (.int ec), .unset, .unset, .unset] [(.int 7), (.ref b277), (.ref b277)])) (fun t kt => ?_) ?_
      · refine XS.dup X277.here hx rfl (hb hby at_88) rfl rfl ?_
        refine XS.bipush X277.here hx rfl (hb hby at_89) ?_
        exact kt
      obtain ⟨T280, h280, k280, X280, e280, E280, A280, st280⟩ := newP X277 hx hZ (hw _ (own_i 3 rfl)) e277 (g := (mkF m 91 #[.val (.int p0), .val (.int p1), .val (.int p2), .val (.int p3), .val (.int 0), .val (.int kd), .val (.int dc), .val (.int ec), .unset, .unset, .unset] [(.int 7), (.ref b277), (.ref b277)])) rfl (hb hby at_91) rfl (by decide) (cap := 7) (by decide) (by decide) (by decide : 1 + 1 ≤ _) (by decide : 4 + 7 ≤ _)
      obtain ⟨b280, g280⟩ : ∃ z, z = h277.size := ⟨_, rfl⟩
      rw [← g280] at A280 st280
      have g_b280 : n0 ≤ b280 := Nat.le_trans Z279 (Nat.le_of_eq g280.symm)
      have sz_b280 : h0.size ≤ b280 := Nat.le_trans Z279h (Nat.le_of_eq g280.symm)
      have lt_ou_b280 : ou < b280 := Nat.lt_of_lt_of_le (F_flu.ext E277).lt (Nat.le_of_eq g280.symm)
      have ne_ou_b280 : ou ≠ b280 := Nat.ne_of_lt lt_ou_b280
      have lt_flu_b280 : flu < b280 := Nat.lt_of_lt_of_le (E_flu.ext E277).lt (Nat.le_of_eq g280.symm)
      have ne_flu_b280 : flu ≠ b280 := Nat.ne_of_lt lt_flu_b280
      have lt_fvu_b280 : fvu < b280 := Nat.lt_of_lt_of_le (V_fvu.ext E277).lt (Nat.le_of_eq g280.symm)
      have ne_fvu_b280 : fvu ≠ b280 := Nat.ne_of_lt lt_fvu_b280
      have lt_oq_b280 : oq < b280 := Nat.lt_of_lt_of_le (F_flq.ext E277).lt (Nat.le_of_eq g280.symm)
      have ne_oq_b280 : oq ≠ b280 := Nat.ne_of_lt lt_oq_b280
      have lt_flq_b280 : flq < b280 := Nat.lt_of_lt_of_le (E_flq.ext E277).lt (Nat.le_of_eq g280.symm)
      have ne_flq_b280 : flq ≠ b280 := Nat.ne_of_lt lt_flq_b280
      have lt_fvq_b280 : fvq < b280 := Nat.lt_of_lt_of_le (V_fvq.ext E277).lt (Nat.le_of_eq g280.symm)
      have ne_fvq_b280 : fvq ≠ b280 := Nat.ne_of_lt lt_fvq_b280
      have lt_em_b280 : em < b280 := Nat.lt_of_lt_of_le (E_em.ext E277).lt (Nat.le_of_eq g280.symm)
      have ne_em_b280 : em ≠ b280 := Nat.ne_of_lt lt_em_b280
      have lt_b277_b280 : b277 < b280 := Nat.lt_of_lt_of_le A277.lt (Nat.le_of_eq g280.symm)
      have ne_b277_b280 : b277 ≠ b280 := Nat.ne_of_lt lt_b277_b280
      have V_b280 : Arv Z h280 b280 k280 .char (7 : Int32) [(.int 0), (.int 0), (.int 0), (.int 0), (.int 0), (.int 0), (.int 0)] (.int 0) := (Arv.new A280 (by decide)).pad (pad_rep [] (.int 0) 7)
      have CH281 := CH278.trans (CHr.ext E280 CH278.1)
      have Z282 : n0 ≤ h280.size := Nat.le_trans Z279 E280.1
      have Z282h : h0.size ≤ h280.size := Nat.le_trans Z279h E280.1
      refine own_thrH (a := T280.setTop (mkF m 93 #[.val (.int p0), .val (.int p1), .val (.int p2), .val (.int p3), .val (.int 0), .val (.int kd), .val (.int dc), .val (.int ec), .unset, .unset, .unset] [(.ref b280), (.ref b277), (.ref b277)])) (fun t kt => st280 t kt) ?_
      refine own_thrH (a := T280.setTop (mkF m 97 #[.val (.int p0), .val (.int p1), .val (.int p2), .val (.int p3), .val (.int 0), .val (.int kd), .val (.int dc), .val (.int ec), .unset, .unset, .unset] [(.int 45), (.int 0), (.ref b280), (.ref b280), (.ref b277), (.ref b277)])) (fun t kt => ?_) ?_
      · refine XS.dup X280.here hx rfl (hb hby at_93) rfl rfl ?_
        refine XS.iconst X280.here hx rfl (hb hby at_94) ?_
        refine XS.bipush X280.here hx rfl (hb hby at_95) ?_
        exact kt
      obtain ⟨cl283, Ar283, q283, S283, M283, H283, G283⟩ := id V_b280
      have hin283 : ¬ ((0 : Int32) < 0 ∨ cl283.slots.size ≤ ((0 : Int32)).toNatClampNeg) := inb_of S283 ⟨by decide, by decide⟩
      obtain ⟨T283, h283, X283, e283, W283, st283⟩ := stC X280 hx hZ e280 Ar283 (j := (0 : Int32)) hin283 (g := (mkF m 97 #[.val (.int p0), .val (.int p1), .val (.int p2), .val (.int p3), .val (.int 0), .val (.int kd), .val (.int dc), .val (.int ec), .unset, .unset, .unset] [(.int 45), (.int 0), (.ref b280), (.ref b280), (.ref b277), (.ref b277)])) rfl rfl (hb hby at_97)
      obtain ⟨clv285, Arv285, -⟩ := id V_b280
      have CH284 := CH281.trans (CHr.wr W283 (Safe.arr hZ.alike Arv285 (by decide)) CH281.1)
      have Z286 : n0 ≤ h283.size := Nat.le_trans Z282 (Nat.le_of_eq W283.size.symm)
      have Z286h : h0.size ≤ h283.size := Nat.le_trans Z282h (Nat.le_of_eq W283.size.symm)
      have V283 : Arv Z h283 b280 k280 .char (7 : Int32) [(.int 45), (.int 0), (.int 0), (.int 0), (.int 0), (.int 0), (.int 0)] (.int 0) := Arv.set Ar283 q283 S283 M283 H283 G283 (fits_nar_char _) W283 0 rfl (Nat.le_of_ble_eq_true rfl)
      obtain ⟨lc283, X283, N283⟩ := own_pack1 X283 N0 g_b280
      refine own_thrH (a := T283.setTop (mkF m 98 #[.val (.int p0), .val (.int p1), .val (.int p2), .val (.int p3), .val (.int 0), .val (.int kd), .val (.int dc), .val (.int ec), .unset, .unset, .unset] [(.ref b280), (.ref b277), (.ref b277)])) (fun t kt => st283 t kt) ?_
      refine own_thrH (a := T283.setTop (mkF m 102 #[.val (.int p0), .val (.int p1), .val (.int p2), .val (.int p3), .val (.int 0), .val (.int kd), .val (.int dc), .val (.int ec), .unset, .unset, .unset] [(.int 45), (.int 1), (.ref b280), (.ref b280), (.ref b277), (.ref b277)])) (fun t kt => ?_) ?_
      · refine XS.dup X283.here hx rfl (hb hby at_98) rfl rfl ?_
        refine XS.iconst X283.here hx rfl (hb hby at_99) ?_
        refine XS.bipush X283.here hx rfl (hb hby at_100) ?_
        exact kt
      obtain ⟨cl287, Ar287, q287, S287, M287, H287, G287⟩ := id V283
      have hin287 : ¬ ((1 : Int32) < 0 ∨ cl287.slots.size ≤ ((1 : Int32)).toNatClampNeg) := inb_of S287 ⟨by decide, by decide⟩
      obtain ⟨T287, h287, X287, e287, W287, st287⟩ := stC X283 hx hZ e283 Ar287 (j := (1 : Int32)) hin287 (g := (mkF m 102 #[.val (.int p0), .val (.int p1), .val (.int p2), .val (.int p3), .val (.int 0), .val (.int kd), .val (.int dc), .val (.int ec), .unset, .unset, .unset] [(.int 45), (.int 1), (.ref b280), (.ref b280), (.ref b277), (.ref b277)])) rfl rfl (hb hby at_102)
      obtain ⟨clv289, Arv289, -⟩ := id V283
      have CH288 := CH284.trans (CHr.wr W287 (Safe.arr hZ.alike Arv289 (by decide)) CH284.1)
      have Z290 : n0 ≤ h287.size := Nat.le_trans Z286 (Nat.le_of_eq W287.size.symm)
      have Z290h : h0.size ≤ h287.size := Nat.le_trans Z286h (Nat.le_of_eq W287.size.symm)
      have V287 : Arv Z h287 b280 k280 .char (7 : Int32) [(.int 45), (.int 45), (.int 0), (.int 0), (.int 0), (.int 0), (.int 0)] (.int 0) := Arv.set Ar287 q287 S287 M287 H287 G287 (fits_nar_char _) W287 1 rfl (Nat.le_of_ble_eq_true rfl)
      obtain ⟨lc287, X287, N287⟩ := own_pack1 X287 N283 g_b280
      refine own_thrH (a := T287.setTop (mkF m 103 #[.val (.int p0), .val (.int p1), .val (.int p2), .val (.int p3), .val (.int 0), .val (.int kd), .val (.int dc), .val (.int ec), .unset, .unset, .unset] [(.ref b280), (.ref b277), (.ref b277)])) (fun t kt => st287 t kt) ?_
      refine own_thrH (a := T287.setTop (mkF m 107 #[.val (.int p0), .val (.int p1), .val (.int p2), .val (.int p3), .val (.int 0), .val (.int kd), .val (.int dc), .val (.int ec), .unset, .unset, .unset] [(.int 113), (.int 2), (.ref b280), (.ref b280), (.ref b277), (.ref b277)])) (fun t kt => ?_) ?_
      · refine XS.dup X287.here hx rfl (hb hby at_103) rfl rfl ?_
        refine XS.iconst X287.here hx rfl (hb hby at_104) ?_
        refine XS.bipush X287.here hx rfl (hb hby at_105) ?_
        exact kt
      obtain ⟨cl291, Ar291, q291, S291, M291, H291, G291⟩ := id V287
      have hin291 : ¬ ((2 : Int32) < 0 ∨ cl291.slots.size ≤ ((2 : Int32)).toNatClampNeg) := inb_of S291 ⟨by decide, by decide⟩
      obtain ⟨T291, h291, X291, e291, W291, st291⟩ := stC X287 hx hZ e287 Ar291 (j := (2 : Int32)) hin291 (g := (mkF m 107 #[.val (.int p0), .val (.int p1), .val (.int p2), .val (.int p3), .val (.int 0), .val (.int kd), .val (.int dc), .val (.int ec), .unset, .unset, .unset] [(.int 113), (.int 2), (.ref b280), (.ref b280), (.ref b277), (.ref b277)])) rfl rfl (hb hby at_107)
      obtain ⟨clv293, Arv293, -⟩ := id V287
      have CH292 := CH288.trans (CHr.wr W291 (Safe.arr hZ.alike Arv293 (by decide)) CH288.1)
      have Z294 : n0 ≤ h291.size := Nat.le_trans Z290 (Nat.le_of_eq W291.size.symm)
      have Z294h : h0.size ≤ h291.size := Nat.le_trans Z290h (Nat.le_of_eq W291.size.symm)
      have V291 : Arv Z h291 b280 k280 .char (7 : Int32) [(.int 45), (.int 45), (.int 113), (.int 0), (.int 0), (.int 0), (.int 0)] (.int 0) := Arv.set Ar291 q291 S291 M291 H291 G291 (fits_nar_char _) W291 2 rfl (Nat.le_of_ble_eq_true rfl)
      obtain ⟨lc291, X291, N291⟩ := own_pack1 X291 N287 g_b280
      refine own_thrH (a := T291.setTop (mkF m 108 #[.val (.int p0), .val (.int p1), .val (.int p2), .val (.int p3), .val (.int 0), .val (.int kd), .val (.int dc), .val (.int ec), .unset, .unset, .unset] [(.ref b280), (.ref b277), (.ref b277)])) (fun t kt => st291 t kt) ?_
      refine own_thrH (a := T291.setTop (mkF m 112 #[.val (.int p0), .val (.int p1), .val (.int p2), .val (.int p3), .val (.int 0), .val (.int kd), .val (.int dc), .val (.int ec), .unset, .unset, .unset] [(.int 117), (.int 3), (.ref b280), (.ref b280), (.ref b277), (.ref b277)])) (fun t kt => ?_) ?_
      · refine XS.dup X291.here hx rfl (hb hby at_108) rfl rfl ?_
        refine XS.iconst X291.here hx rfl (hb hby at_109) ?_
        refine XS.bipush X291.here hx rfl (hb hby at_110) ?_
        exact kt
      obtain ⟨cl295, Ar295, q295, S295, M295, H295, G295⟩ := id V291
      have hin295 : ¬ ((3 : Int32) < 0 ∨ cl295.slots.size ≤ ((3 : Int32)).toNatClampNeg) := inb_of S295 ⟨by decide, by decide⟩
      obtain ⟨T295, h295, X295, e295, W295, st295⟩ := stC X291 hx hZ e291 Ar295 (j := (3 : Int32)) hin295 (g := (mkF m 112 #[.val (.int p0), .val (.int p1), .val (.int p2), .val (.int p3), .val (.int 0), .val (.int kd), .val (.int dc), .val (.int ec), .unset, .unset, .unset] [(.int 117), (.int 3), (.ref b280), (.ref b280), (.ref b277), (.ref b277)])) rfl rfl (hb hby at_112)
      obtain ⟨clv297, Arv297, -⟩ := id V291
      have CH296 := CH292.trans (CHr.wr W295 (Safe.arr hZ.alike Arv297 (by decide)) CH292.1)
      have Z298 : n0 ≤ h295.size := Nat.le_trans Z294 (Nat.le_of_eq W295.size.symm)
      have Z298h : h0.size ≤ h295.size := Nat.le_trans Z294h (Nat.le_of_eq W295.size.symm)
      have V295 : Arv Z h295 b280 k280 .char (7 : Int32) [(.int 45), (.int 45), (.int 113), (.int 117), (.int 0), (.int 0), (.int 0)] (.int 0) := Arv.set Ar295 q295 S295 M295 H295 G295 (fits_nar_char _) W295 3 rfl (Nat.le_of_ble_eq_true rfl)
      obtain ⟨lc295, X295, N295⟩ := own_pack1 X295 N291 g_b280
      refine own_thrH (a := T295.setTop (mkF m 113 #[.val (.int p0), .val (.int p1), .val (.int p2), .val (.int p3), .val (.int 0), .val (.int kd), .val (.int dc), .val (.int ec), .unset, .unset, .unset] [(.ref b280), (.ref b277), (.ref b277)])) (fun t kt => st295 t kt) ?_
      refine own_thrH (a := T295.setTop (mkF m 117 #[.val (.int p0), .val (.int p1), .val (.int p2), .val (.int p3), .val (.int 0), .val (.int kd), .val (.int dc), .val (.int ec), .unset, .unset, .unset] [(.int 101), (.int 4), (.ref b280), (.ref b280), (.ref b277), (.ref b277)])) (fun t kt => ?_) ?_
      · refine XS.dup X295.here hx rfl (hb hby at_113) rfl rfl ?_
        refine XS.iconst X295.here hx rfl (hb hby at_114) ?_
        refine XS.bipush X295.here hx rfl (hb hby at_115) ?_
        exact kt
      obtain ⟨cl299, Ar299, q299, S299, M299, H299, G299⟩ := id V295
      have hin299 : ¬ ((4 : Int32) < 0 ∨ cl299.slots.size ≤ ((4 : Int32)).toNatClampNeg) := inb_of S299 ⟨by decide, by decide⟩
      obtain ⟨T299, h299, X299, e299, W299, st299⟩ := stC X295 hx hZ e295 Ar299 (j := (4 : Int32)) hin299 (g := (mkF m 117 #[.val (.int p0), .val (.int p1), .val (.int p2), .val (.int p3), .val (.int 0), .val (.int kd), .val (.int dc), .val (.int ec), .unset, .unset, .unset] [(.int 101), (.int 4), (.ref b280), (.ref b280), (.ref b277), (.ref b277)])) rfl rfl (hb hby at_117)
      obtain ⟨clv301, Arv301, -⟩ := id V295
      have CH300 := CH296.trans (CHr.wr W299 (Safe.arr hZ.alike Arv301 (by decide)) CH296.1)
      have Z302 : n0 ≤ h299.size := Nat.le_trans Z298 (Nat.le_of_eq W299.size.symm)
      have Z302h : h0.size ≤ h299.size := Nat.le_trans Z298h (Nat.le_of_eq W299.size.symm)
      have V299 : Arv Z h299 b280 k280 .char (7 : Int32) [(.int 45), (.int 45), (.int 113), (.int 117), (.int 101), (.int 0), (.int 0)] (.int 0) := Arv.set Ar299 q299 S299 M299 H299 G299 (fits_nar_char _) W299 4 rfl (Nat.le_of_ble_eq_true rfl)
      obtain ⟨lc299, X299, N299⟩ := own_pack1 X299 N295 g_b280
      refine own_thrH (a := T299.setTop (mkF m 118 #[.val (.int p0), .val (.int p1), .val (.int p2), .val (.int p3), .val (.int 0), .val (.int kd), .val (.int dc), .val (.int ec), .unset, .unset, .unset] [(.ref b280), (.ref b277), (.ref b277)])) (fun t kt => st299 t kt) ?_
      refine own_thrH (a := T299.setTop (mkF m 122 #[.val (.int p0), .val (.int p1), .val (.int p2), .val (.int p3), .val (.int 0), .val (.int kd), .val (.int dc), .val (.int ec), .unset, .unset, .unset] [(.int 117), (.int 5), (.ref b280), (.ref b280), (.ref b277), (.ref b277)])) (fun t kt => ?_) ?_
      · refine XS.dup X299.here hx rfl (hb hby at_118) rfl rfl ?_
        refine XS.iconst X299.here hx rfl (hb hby at_119) ?_
        refine XS.bipush X299.here hx rfl (hb hby at_120) ?_
        exact kt
      obtain ⟨cl303, Ar303, q303, S303, M303, H303, G303⟩ := id V299
      have hin303 : ¬ ((5 : Int32) < 0 ∨ cl303.slots.size ≤ ((5 : Int32)).toNatClampNeg) := inb_of S303 ⟨by decide, by decide⟩
      obtain ⟨T303, h303, X303, e303, W303, st303⟩ := stC X299 hx hZ e299 Ar303 (j := (5 : Int32)) hin303 (g := (mkF m 122 #[.val (.int p0), .val (.int p1), .val (.int p2), .val (.int p3), .val (.int 0), .val (.int kd), .val (.int dc), .val (.int ec), .unset, .unset, .unset] [(.int 117), (.int 5), (.ref b280), (.ref b280), (.ref b277), (.ref b277)])) rfl rfl (hb hby at_122)
      obtain ⟨clv305, Arv305, -⟩ := id V299
      have CH304 := CH300.trans (CHr.wr W303 (Safe.arr hZ.alike Arv305 (by decide)) CH300.1)
      have Z306 : n0 ≤ h303.size := Nat.le_trans Z302 (Nat.le_of_eq W303.size.symm)
      have Z306h : h0.size ≤ h303.size := Nat.le_trans Z302h (Nat.le_of_eq W303.size.symm)
      have V303 : Arv Z h303 b280 k280 .char (7 : Int32) [(.int 45), (.int 45), (.int 113), (.int 117), (.int 101), (.int 117), (.int 0)] (.int 0) := Arv.set Ar303 q303 S303 M303 H303 G303 (fits_nar_char _) W303 5 rfl (Nat.le_of_ble_eq_true rfl)
      obtain ⟨lc303, X303, N303⟩ := own_pack1 X303 N299 g_b280
      refine own_thrH (a := T303.setTop (mkF m 123 #[.val (.int p0), .val (.int p1), .val (.int p2), .val (.int p3), .val (.int 0), .val (.int kd), .val (.int dc), .val (.int ec), .unset, .unset, .unset] [(.ref b280), (.ref b277), (.ref b277)])) (fun t kt => st303 t kt) ?_
      refine own_thrH (a := T303.setTop (mkF m 128 #[.val (.int p0), .val (.int p1), .val (.int p2), .val (.int p3), .val (.int 0), .val (.int kd), .val (.int dc), .val (.int ec), .unset, .unset, .unset] [(.int 101), (.int 6), (.ref b280), (.ref b280), (.ref b277), (.ref b277)])) (fun t kt => ?_) ?_
      · refine XS.dup X303.here hx rfl (hb hby at_123) rfl rfl ?_
        refine XS.bipush X303.here hx rfl (hb hby at_124) ?_
        refine XS.bipush X303.here hx rfl (hb hby at_126) ?_
        exact kt
      obtain ⟨cl307, Ar307, q307, S307, M307, H307, G307⟩ := id V303
      have hin307 : ¬ ((6 : Int32) < 0 ∨ cl307.slots.size ≤ ((6 : Int32)).toNatClampNeg) := inb_of S307 ⟨by decide, by decide⟩
      obtain ⟨T307, h307, X307, e307, W307, st307⟩ := stC X303 hx hZ e303 Ar307 (j := (6 : Int32)) hin307 (g := (mkF m 128 #[.val (.int p0), .val (.int p1), .val (.int p2), .val (.int p3), .val (.int 0), .val (.int kd), .val (.int dc), .val (.int ec), .unset, .unset, .unset] [(.int 101), (.int 6), (.ref b280), (.ref b280), (.ref b277), (.ref b277)])) rfl rfl (hb hby at_128)
      obtain ⟨clv309, Arv309, -⟩ := id V303
      have CH308 := CH304.trans (CHr.wr W307 (Safe.arr hZ.alike Arv309 (by decide)) CH304.1)
      have Z310 : n0 ≤ h307.size := Nat.le_trans Z306 (Nat.le_of_eq W307.size.symm)
      have Z310h : h0.size ≤ h307.size := Nat.le_trans Z306h (Nat.le_of_eq W307.size.symm)
      have V307 : Arv Z h307 b280 k280 .char (7 : Int32) [(.int 45), (.int 45), (.int 113), (.int 117), (.int 101), (.int 117), (.int 101)] (.int 0) := Arv.set Ar307 q307 S307 M307 H307 G307 (fits_nar_char _) W307 6 rfl (Nat.le_of_ble_eq_true rfl)
      obtain ⟨lc307, X307, N307⟩ := own_pack1 X307 N303 g_b280
      refine own_thrH (a := T307.setTop (mkF m 129 #[.val (.int p0), .val (.int p1), .val (.int p2), .val (.int p3), .val (.int 0), .val (.int kd), .val (.int dc), .val (.int ec), .unset, .unset, .unset] [(.ref b280), (.ref b277), (.ref b277)])) (fun t kt => st307 t kt) ?_
      have c312 := ((((((((A277.ext E280).wr W283).wr W287).wr W291).wr W295).wr W299).wr W303).wr W307)
      have c313 := ((((((((F_value_b277.ext E280).other W283 (Or.inl ne_b277_b280)).other W287 (Or.inl ne_b277_b280)).other W291 (Or.inl ne_b277_b280)).other W295 (Or.inl ne_b277_b280)).other W299 (Or.inl ne_b277_b280)).other W303 (Or.inl ne_b277_b280)).other W307 (Or.inl ne_b277_b280))
      have c314 := ((((((((F_coder_b277.ext E280).other W283 (Or.inl ne_b277_b280)).other W287 (Or.inl ne_b277_b280)).other W291 (Or.inl ne_b277_b280)).other W295 (Or.inl ne_b277_b280)).other W299 (Or.inl ne_b277_b280)).other W303 (Or.inl ne_b277_b280)).other W307 (Or.inl ne_b277_b280))
      have c315 := (((((((((hO.ext E277).ext E280).wr W283 g_b280).wr W287 g_b280).wr W291 g_b280).wr W295 g_b280).wr W299 g_b280).wr W303 g_b280).wr W307 g_b280)
      obtain ⟨_, _, ⟨T311, L311, k311, n311⟩, -, X311, ⟨Lc311, hQ311, l311, y311, z311⟩, st311⟩ := X307.specialBack hx (y := (⟨"java/lang/String", "<init>", "([C)V"⟩ : MethodName)) rfl hown (mvT hZ (hw _ (own_i 4 rfl))) (mvT hZ (hw _ (own_i 5 rfl))) (mvT hZ (hw _ (own_i 6 rfl))) (by decide) (StrChars.Road.backV hZ (fun d hd => hw d (own_sw d hd)) (hw _ (own_i 1 rfl)) (x := b277) (b := b280) (cs := [(45 : Int32), (45 : Int32), (113 : Int32), (117 : Int32), (101 : Int32), (117 : Int32), (101 : Int32)]) (bs := [((45 : Int32).toInt8.toInt32), ((45 : Int32).toInt8.toInt32), ((113 : Int32).toInt8.toInt32), ((117 : Int32).toInt8.toInt32), ((101 : Int32).toInt8.toInt32), ((117 : Int32).toInt8.toInt32), ((101 : Int32).toInt8.toInt32)]) (n := 7) (W := 1) g_b277 Z310 c312 c313 c314 V307 (S_cs.ext c315.2) hcs rfl rfl (by decide) (by decide) (own_fa ⟨by decide, by decide⟩ (own_fa ⟨by decide, by decide⟩ (own_fa ⟨by decide, by decide⟩ (own_fa ⟨by decide, by decide⟩ (own_fa ⟨by decide, by decide⟩ (own_fa ⟨by decide, by decide⟩ (own_fa ⟨by decide, by decide⟩ own_f0))))))) rfl (by decide) (by decide)) (g := (mkF m 129 #[.val (.int p0), .val (.int p1), .val (.int p2), .val (.int p3), .val (.int 0), .val (.int kd), .val (.int dc), .val (.int ec), .unset, .unset, .unset] [(.ref b280), (.ref b277), (.ref b277)])) rfl (by rw [hml]; rfl) (Steps.refl _) (a := b277) (argsL := [(.ref b280)]) (rest := [(.ref b277)]) (lenOf pd__28_5bC_29V rfl) rfl (by show 2 * 0 + _ ≤ _; exact Nat.le_of_eq rfl) (hb hby at_129) (fun _ _ => ⟨rfl, e307, (by decide : 2 + 1 ≤ _), (by decide : 11 + 7 ≤ _)⟩)
      dsimp only [Pt.U, Pt.locs, Pt.cells, Pt.slots] at X311 l311 y311 z311 st311 hQ311
      obtain ⟨rfl, N311q, K311, o311_e, o311_c, sv311, ks311, -, -, -, o311_v, o311_A⟩ := hQ311
      have sf317 := own_safe (EL := own_EL) hZ.alike c312 c313
      have sf318 := Safe.keep K311 (allS sf317 all0) CH308.1 sf317
      have CH316 := CH308.trans (CHr.keep K311 (allS sf317 all0) CH308.1)
      have Z319 : n0 ≤ T311.heap.size := Nat.le_trans Z310 K311.1
      have Z319h : h0.size ≤ T311.heap.size := Nat.le_trans Z310h K311.1
      have o311_a : Arv Z T311.heap sv311 ks311 .byte (7 : Int32) [(.int ((45 : Int32).toInt8.toInt32)), (.int ((45 : Int32).toInt8.toInt32)), (.int ((113 : Int32).toInt8.toInt32)), (.int ((117 : Int32).toInt8.toInt32)), (.int ((101 : Int32).toInt8.toInt32)), (.int ((117 : Int32).toInt8.toInt32)), (.int ((101 : Int32).toInt8.toInt32))] (.int 0) := o311_A
      obtain ⟨lc311, X311, N311⟩ := own_pack X311 l311 y311 z311 N307 N311q (C := 3) (S' := 18) rfl rfl
      refine own_thrH (a := T311.setTop (mkF m 132 #[.val (.int p0), .val (.int p1), .val (.int p2), .val (.int p3), .val (.int 0), .val (.int kd), .val (.int dc), .val (.int ec), .unset, .unset, .unset] [(.ref b277)])) (fun t kt => st311.trans kt) ?_
      refine own_thrH (a := T311.setTop (mkF m 510 #[.val (.int p0), .val (.int p1), .val (.int p2), .val (.int p3), .val (.int 0), .val (.int kd), .val (.int dc), .val (.int ec), .val (.ref b277), .unset, .unset] [])) (fun t kt => ?_) ?_
      · refine XS.astore X311.here hx rfl (hb hby at_132) rfl rfl (l' := #[.val (.int p0), .val (.int p1), .val (.int p2), .val (.int p3), .val (.int 0), .val (.int kd), .val (.int dc), .val (.int ec), .val (.ref b277), .unset, .unset]) rfl ?_
        refine XS.goto X311.here hx rfl (pc0 := 134) (pc' := 510) rfl (hb hby at_134) (by decide) (by decide) ?_
        exact kt
      have V320 := o311_a
      rw [show ((45 : Int32).toInt8.toInt32) = (45 : Int32) from by decide, show ((113 : Int32).toInt8.toInt32) = (113 : Int32) from by decide, show ((117 : Int32).toInt8.toInt32) = (117 : Int32) from by decide, show ((101 : Int32).toInt8.toInt32) = (101 : Int32) from by decide] at V320
      have c321 := ((((((((((F_flu.ext E277).ext E280).other W283 (Or.inl ne_ou_b280)).other W287 (Or.inl ne_ou_b280)).other W291 (Or.inl ne_ou_b280)).other W295 (Or.inl ne_ou_b280)).other W299 (Or.inl ne_ou_b280)).other W303 (Or.inl ne_ou_b280)).other W307 (Or.inl ne_ou_b280)).keep K311 (ninS ne_ou_b277 nin0))
      have c322 := ((((((((((E_flu.ext E277).ext E280).wr W283).wr W287).wr W291).wr W295).wr W299).wr W303).wr W307).keep K311)
      have c323 := ((((((((((F_fvu.ext E277).ext E280).other W283 (Or.inl ne_flu_b280)).other W287 (Or.inl ne_flu_b280)).other W291 (Or.inl ne_flu_b280)).other W295 (Or.inl ne_flu_b280)).other W299 (Or.inl ne_flu_b280)).other W303 (Or.inl ne_flu_b280)).other W307 (Or.inl ne_flu_b280)).keep K311 (ninS ne_flu_b277 nin0))
      have c324 := ((((((((((F_fluc.ext E277).ext E280).other W283 (Or.inl ne_flu_b280)).other W287 (Or.inl ne_flu_b280)).other W291 (Or.inl ne_flu_b280)).other W295 (Or.inl ne_flu_b280)).other W299 (Or.inl ne_flu_b280)).other W303 (Or.inl ne_flu_b280)).other W307 (Or.inl ne_flu_b280)).keep K311 (ninS ne_flu_b277 nin0))
      have c325 := ((((((((((V_fvu.ext E277).ext E280).other W283 ne_fvu_b280).other W287 ne_fvu_b280).other W291 ne_fvu_b280).other W295 ne_fvu_b280).other W299 ne_fvu_b280).other W303 ne_fvu_b280).other W307 ne_fvu_b280).keep K311 (ninS ne_fvu_b277 nin0))
      have c326 := ((((((((((F_flq.ext E277).ext E280).other W283 (Or.inl ne_oq_b280)).other W287 (Or.inl ne_oq_b280)).other W291 (Or.inl ne_oq_b280)).other W295 (Or.inl ne_oq_b280)).other W299 (Or.inl ne_oq_b280)).other W303 (Or.inl ne_oq_b280)).other W307 (Or.inl ne_oq_b280)).keep K311 (ninS ne_oq_b277 nin0))
      have c327 := ((((((((((E_flq.ext E277).ext E280).wr W283).wr W287).wr W291).wr W295).wr W299).wr W303).wr W307).keep K311)
      have c328 := ((((((((((F_fvq.ext E277).ext E280).other W283 (Or.inl ne_flq_b280)).other W287 (Or.inl ne_flq_b280)).other W291 (Or.inl ne_flq_b280)).other W295 (Or.inl ne_flq_b280)).other W299 (Or.inl ne_flq_b280)).other W303 (Or.inl ne_flq_b280)).other W307 (Or.inl ne_flq_b280)).keep K311 (ninS ne_flq_b277 nin0))
      have c329 := ((((((((((F_flqc.ext E277).ext E280).other W283 (Or.inl ne_flq_b280)).other W287 (Or.inl ne_flq_b280)).other W291 (Or.inl ne_flq_b280)).other W295 (Or.inl ne_flq_b280)).other W299 (Or.inl ne_flq_b280)).other W303 (Or.inl ne_flq_b280)).other W307 (Or.inl ne_flq_b280)).keep K311 (ninS ne_flq_b277 nin0))
      have c330 := ((((((((((V_fvq.ext E277).ext E280).other W283 ne_fvq_b280).other W287 ne_fvq_b280).other W291 ne_fvq_b280).other W295 ne_fvq_b280).other W299 ne_fvq_b280).other W303 ne_fvq_b280).other W307 ne_fvq_b280).keep K311 (ninS ne_fvq_b277 nin0))
      have c331 := ((((((((((E_em.ext E277).ext E280).wr W283).wr W287).wr W291).wr W295).wr W299).wr W303).wr W307).keep K311)
      have c332 := ((((((((((F_em.ext E277).ext E280).other W283 (Or.inl ne_em_b280)).other W287 (Or.inl ne_em_b280)).other W291 (Or.inl ne_em_b280)).other W295 (Or.inl ne_em_b280)).other W299 (Or.inl ne_em_b280)).other W303 (Or.inl ne_em_b280)).other W307 (Or.inl ne_em_b280)).keep K311 (ninS ne_em_b277 nin0))
      exact own_tailQ p0 p1 p2 p3 va kv ou oq em flu fvu kfu flq fvq kfq cs hw hx hby hml hlk Bd.returns hh hEL hZ hown hS0 (Nat.zero_le _) CH316 Z319 Z319h _ _ _ _ b277 sv311 ks311 _ _ (Or.inl rfl) (Or.inl rfl) S_V V_va E_va hfit S_em S_cs hcs (c315.keep K311 (allS g_b277 all0)) c321 c322 c323 c324 c325 c326 c327 c328 c329 c330 S_ou S_oq c331 c332 o311_e o311_v o311_c V320 (by decide) (by decide) X311 N311 rfl
    · refine own_thrH (a := s₁.setTop (mkF m 140 #[.val (.int p0), .val (.int p1), .val (.int p2), .val (.int p3), .val (.int 0), .val (.int kd), .val (.int dc), .val (.int ec), .unset, .unset, .unset] [(.int 1), (.int kd)])) (fun t kt => ?_) ?_
      · refine XS.ifYes X0.here hx rfl (pc0 := 39) (pc' := 137) rfl (hb hby at_39) rfl ((if0 _ _).trans (feq hc276).2) (by decide) (by decide) ?_
        refine XS.iload X0.here hx rfl (hb hby at_137) rfl ?_
        refine XS.iconst X0.here hx rfl (hb hby at_139) ?_
        exact kt
      by_cases hc333 : kd = (1 : Int32)
      · refine own_thrH (a := s₁.setTop (mkF m 188 #[.val (.int p0), .val (.int p1), .val (.int p2), .val (.int p3), .val (.int 0), .val (.int kd), .val (.int dc), .val (.int ec), .unset, .unset, .unset] [(.int 7)])) (fun t kt => ?_) ?_
        · refine XS.icmpYes X0.here hx rfl (pc0 := 140) (pc' := 150) rfl (hb hby at_140) rfl (teq hc333).1 (by decide) (by decide) ?_
          refine XS.iload X0.here hx rfl (hb hby at_150) rfl ?_
          refine XS.ifYes X0.here hx rfl (pc0 := 152) (pc' := 186) rfl (hb hby at_152) rfl ((if0 _ _).trans (teq rfl).1) (by decide) (by decide) ?_
          refine XS.bipush X0.here hx rfl (hb hby at_186) ?_
          exact kt
        obtain ⟨T334, h334, k334, X334, e334, E334, A334, st334⟩ := newP X0 hx hZ (hw _ (own_i 3 rfl)) e0 (g := (mkF m 188 #[.val (.int p0), .val (.int p1), .val (.int p2), .val (.int p3), .val (.int 0), .val (.int kd), .val (.int dc), .val (.int ec), .unset, .unset, .unset] [(.int 7)])) rfl (hb hby at_188) rfl (by decide) (cap := 7) (by decide) (by decide) (by decide : 0 + 1 ≤ _) (by decide : 0 + 7 ≤ _)
        obtain ⟨b334, g334⟩ : ∃ z, z = h0.size := ⟨_, rfl⟩
        rw [← g334] at A334 st334
        have g_b334 : n0 ≤ b334 := Nat.le_trans Z0 (Nat.le_of_eq g334.symm)
        have sz_b334 : h0.size ≤ b334 := Nat.le_trans (Nat.le_refl h0.size) (Nat.le_of_eq g334.symm)
        have lt_ou_b334 : ou < b334 := Nat.lt_of_lt_of_le F_flu.lt (Nat.le_of_eq g334.symm)
        have ne_ou_b334 : ou ≠ b334 := Nat.ne_of_lt lt_ou_b334
        have lt_flu_b334 : flu < b334 := Nat.lt_of_lt_of_le E_flu.lt (Nat.le_of_eq g334.symm)
        have ne_flu_b334 : flu ≠ b334 := Nat.ne_of_lt lt_flu_b334
        have lt_fvu_b334 : fvu < b334 := Nat.lt_of_lt_of_le V_fvu.lt (Nat.le_of_eq g334.symm)
        have ne_fvu_b334 : fvu ≠ b334 := Nat.ne_of_lt lt_fvu_b334
        have lt_oq_b334 : oq < b334 := Nat.lt_of_lt_of_le F_flq.lt (Nat.le_of_eq g334.symm)
        have ne_oq_b334 : oq ≠ b334 := Nat.ne_of_lt lt_oq_b334
        have lt_flq_b334 : flq < b334 := Nat.lt_of_lt_of_le E_flq.lt (Nat.le_of_eq g334.symm)
        have ne_flq_b334 : flq ≠ b334 := Nat.ne_of_lt lt_flq_b334
        have lt_fvq_b334 : fvq < b334 := Nat.lt_of_lt_of_le V_fvq.lt (Nat.le_of_eq g334.symm)
        have ne_fvq_b334 : fvq ≠ b334 := Nat.ne_of_lt lt_fvq_b334
        have lt_em_b334 : em < b334 := Nat.lt_of_lt_of_le E_em.lt (Nat.le_of_eq g334.symm)
        have ne_em_b334 : em ≠ b334 := Nat.ne_of_lt lt_em_b334
        have V_b334 : Arv Z h334 b334 k334 .char (7 : Int32) [(.int 0), (.int 0), (.int 0), (.int 0), (.int 0), (.int 0), (.int 0)] (.int 0) := (Arv.new A334 (by decide)).pad (pad_rep [] (.int 0) 7)
        have CH335 := CH0.trans (CHr.ext E334 CH0.1)
        have Z336 : n0 ≤ h334.size := Nat.le_trans Z0 E334.1
        have Z336h : h0.size ≤ h334.size := Nat.le_trans (Nat.le_refl h0.size) E334.1
        refine own_thrH (a := T334.setTop (mkF m 190 #[.val (.int p0), .val (.int p1), .val (.int p2), .val (.int p3), .val (.int 0), .val (.int kd), .val (.int dc), .val (.int ec), .unset, .unset, .unset] [(.ref b334)])) (fun t kt => st334 t kt) ?_
        refine own_thrH (a := T334.setTop (mkF m 194 #[.val (.int p0), .val (.int p1), .val (.int p2), .val (.int p3), .val (.int 0), .val (.int kd), .val (.int dc), .val (.int ec), .unset, .unset, .unset] [(.int 45), (.int 0), (.ref b334), (.ref b334)])) (fun t kt => ?_) ?_
        · refine XS.dup X334.here hx rfl (hb hby at_190) rfl rfl ?_
          refine XS.iconst X334.here hx rfl (hb hby at_191) ?_
          refine XS.bipush X334.here hx rfl (hb hby at_192) ?_
          exact kt
        obtain ⟨cl337, Ar337, q337, S337, M337, H337, G337⟩ := id V_b334
        have hin337 : ¬ ((0 : Int32) < 0 ∨ cl337.slots.size ≤ ((0 : Int32)).toNatClampNeg) := inb_of S337 ⟨by decide, by decide⟩
        obtain ⟨T337, h337, X337, e337, W337, st337⟩ := stC X334 hx hZ e334 Ar337 (j := (0 : Int32)) hin337 (g := (mkF m 194 #[.val (.int p0), .val (.int p1), .val (.int p2), .val (.int p3), .val (.int 0), .val (.int kd), .val (.int dc), .val (.int ec), .unset, .unset, .unset] [(.int 45), (.int 0), (.ref b334), (.ref b334)])) rfl rfl (hb hby at_194)
        obtain ⟨clv339, Arv339, -⟩ := id V_b334
        have CH338 := CH335.trans (CHr.wr W337 (Safe.arr hZ.alike Arv339 (by decide)) CH335.1)
        have Z340 : n0 ≤ h337.size := Nat.le_trans Z336 (Nat.le_of_eq W337.size.symm)
        have Z340h : h0.size ≤ h337.size := Nat.le_trans Z336h (Nat.le_of_eq W337.size.symm)
        have V337 : Arv Z h337 b334 k334 .char (7 : Int32) [(.int 45), (.int 0), (.int 0), (.int 0), (.int 0), (.int 0), (.int 0)] (.int 0) := Arv.set Ar337 q337 S337 M337 H337 G337 (fits_nar_char _) W337 0 rfl (Nat.le_of_ble_eq_true rfl)
        obtain ⟨lc337, X337, N337⟩ := own_pack1 X337 N0 g_b334
        refine own_thrH (a := T337.setTop (mkF m 195 #[.val (.int p0), .val (.int p1), .val (.int p2), .val (.int p3), .val (.int 0), .val (.int kd), .val (.int dc), .val (.int ec), .unset, .unset, .unset] [(.ref b334)])) (fun t kt => st337 t kt) ?_
        refine own_thrH (a := T337.setTop (mkF m 199 #[.val (.int p0), .val (.int p1), .val (.int p2), .val (.int p3), .val (.int 0), .val (.int kd), .val (.int dc), .val (.int ec), .unset, .unset, .unset] [(.int 45), (.int 1), (.ref b334), (.ref b334)])) (fun t kt => ?_) ?_
        · refine XS.dup X337.here hx rfl (hb hby at_195) rfl rfl ?_
          refine XS.iconst X337.here hx rfl (hb hby at_196) ?_
          refine XS.bipush X337.here hx rfl (hb hby at_197) ?_
          exact kt
        obtain ⟨cl341, Ar341, q341, S341, M341, H341, G341⟩ := id V337
        have hin341 : ¬ ((1 : Int32) < 0 ∨ cl341.slots.size ≤ ((1 : Int32)).toNatClampNeg) := inb_of S341 ⟨by decide, by decide⟩
        obtain ⟨T341, h341, X341, e341, W341, st341⟩ := stC X337 hx hZ e337 Ar341 (j := (1 : Int32)) hin341 (g := (mkF m 199 #[.val (.int p0), .val (.int p1), .val (.int p2), .val (.int p3), .val (.int 0), .val (.int kd), .val (.int dc), .val (.int ec), .unset, .unset, .unset] [(.int 45), (.int 1), (.ref b334), (.ref b334)])) rfl rfl (hb hby at_199)
        obtain ⟨clv343, Arv343, -⟩ := id V337
        have CH342 := CH338.trans (CHr.wr W341 (Safe.arr hZ.alike Arv343 (by decide)) CH338.1)
        have Z344 : n0 ≤ h341.size := Nat.le_trans Z340 (Nat.le_of_eq W341.size.symm)
        have Z344h : h0.size ≤ h341.size := Nat.le_trans Z340h (Nat.le_of_eq W341.size.symm)
        have V341 : Arv Z h341 b334 k334 .char (7 : Int32) [(.int 45), (.int 45), (.int 0), (.int 0), (.int 0), (.int 0), (.int 0)] (.int 0) := Arv.set Ar341 q341 S341 M341 H341 G341 (fits_nar_char _) W341 1 rfl (Nat.le_of_ble_eq_true rfl)
        obtain ⟨lc341, X341, N341⟩ := own_pack1 X341 N337 g_b334
        refine own_thrH (a := T341.setTop (mkF m 200 #[.val (.int p0), .val (.int p1), .val (.int p2), .val (.int p3), .val (.int 0), .val (.int kd), .val (.int dc), .val (.int ec), .unset, .unset, .unset] [(.ref b334)])) (fun t kt => st341 t kt) ?_
        refine own_thrH (a := T341.setTop (mkF m 204 #[.val (.int p0), .val (.int p1), .val (.int p2), .val (.int p3), .val (.int 0), .val (.int kd), .val (.int dc), .val (.int ec), .unset, .unset, .unset] [(.int 113), (.int 2), (.ref b334), (.ref b334)])) (fun t kt => ?_) ?_
        · refine XS.dup X341.here hx rfl (hb hby at_200) rfl rfl ?_
          refine XS.iconst X341.here hx rfl (hb hby at_201) ?_
          refine XS.bipush X341.here hx rfl (hb hby at_202) ?_
          exact kt
        obtain ⟨cl345, Ar345, q345, S345, M345, H345, G345⟩ := id V341
        have hin345 : ¬ ((2 : Int32) < 0 ∨ cl345.slots.size ≤ ((2 : Int32)).toNatClampNeg) := inb_of S345 ⟨by decide, by decide⟩
        obtain ⟨T345, h345, X345, e345, W345, st345⟩ := stC X341 hx hZ e341 Ar345 (j := (2 : Int32)) hin345 (g := (mkF m 204 #[.val (.int p0), .val (.int p1), .val (.int p2), .val (.int p3), .val (.int 0), .val (.int kd), .val (.int dc), .val (.int ec), .unset, .unset, .unset] [(.int 113), (.int 2), (.ref b334), (.ref b334)])) rfl rfl (hb hby at_204)
        obtain ⟨clv347, Arv347, -⟩ := id V341
        have CH346 := CH342.trans (CHr.wr W345 (Safe.arr hZ.alike Arv347 (by decide)) CH342.1)
        have Z348 : n0 ≤ h345.size := Nat.le_trans Z344 (Nat.le_of_eq W345.size.symm)
        have Z348h : h0.size ≤ h345.size := Nat.le_trans Z344h (Nat.le_of_eq W345.size.symm)
        have V345 : Arv Z h345 b334 k334 .char (7 : Int32) [(.int 45), (.int 45), (.int 113), (.int 0), (.int 0), (.int 0), (.int 0)] (.int 0) := Arv.set Ar345 q345 S345 M345 H345 G345 (fits_nar_char _) W345 2 rfl (Nat.le_of_ble_eq_true rfl)
        obtain ⟨lc345, X345, N345⟩ := own_pack1 X345 N341 g_b334
        refine own_thrH (a := T345.setTop (mkF m 205 #[.val (.int p0), .val (.int p1), .val (.int p2), .val (.int p3), .val (.int 0), .val (.int kd), .val (.int dc), .val (.int ec), .unset, .unset, .unset] [(.ref b334)])) (fun t kt => st345 t kt) ?_
        refine own_thrH (a := T345.setTop (mkF m 209 #[.val (.int p0), .val (.int p1), .val (.int p2), .val (.int p3), .val (.int 0), .val (.int kd), .val (.int dc), .val (.int ec), .unset, .unset, .unset] [(.int 117), (.int 3), (.ref b334), (.ref b334)])) (fun t kt => ?_) ?_
        · refine XS.dup X345.here hx rfl (hb hby at_205) rfl rfl ?_
          refine XS.iconst X345.here hx rfl (hb hby at_206) ?_
          refine XS.bipush X345.here hx rfl (hb hby at_207) ?_
          exact kt
        obtain ⟨cl349, Ar349, q349, S349, M349, H349, G349⟩ := id V345
        have hin349 : ¬ ((3 : Int32) < 0 ∨ cl349.slots.size ≤ ((3 : Int32)).toNatClampNeg) := inb_of S349 ⟨by decide, by decide⟩
        obtain ⟨T349, h349, X349, e349, W349, st349⟩ := stC X345 hx hZ e345 Ar349 (j := (3 : Int32)) hin349 (g := (mkF m 209 #[.val (.int p0), .val (.int p1), .val (.int p2), .val (.int p3), .val (.int 0), .val (.int kd), .val (.int dc), .val (.int ec), .unset, .unset, .unset] [(.int 117), (.int 3), (.ref b334), (.ref b334)])) rfl rfl (hb hby at_209)
        obtain ⟨clv351, Arv351, -⟩ := id V345
        have CH350 := CH346.trans (CHr.wr W349 (Safe.arr hZ.alike Arv351 (by decide)) CH346.1)
        have Z352 : n0 ≤ h349.size := Nat.le_trans Z348 (Nat.le_of_eq W349.size.symm)
        have Z352h : h0.size ≤ h349.size := Nat.le_trans Z348h (Nat.le_of_eq W349.size.symm)
        have V349 : Arv Z h349 b334 k334 .char (7 : Int32) [(.int 45), (.int 45), (.int 113), (.int 117), (.int 0), (.int 0), (.int 0)] (.int 0) := Arv.set Ar349 q349 S349 M349 H349 G349 (fits_nar_char _) W349 3 rfl (Nat.le_of_ble_eq_true rfl)
        obtain ⟨lc349, X349, N349⟩ := own_pack1 X349 N345 g_b334
        refine own_thrH (a := T349.setTop (mkF m 210 #[.val (.int p0), .val (.int p1), .val (.int p2), .val (.int p3), .val (.int 0), .val (.int kd), .val (.int dc), .val (.int ec), .unset, .unset, .unset] [(.ref b334)])) (fun t kt => st349 t kt) ?_
        refine own_thrH (a := T349.setTop (mkF m 214 #[.val (.int p0), .val (.int p1), .val (.int p2), .val (.int p3), .val (.int 0), .val (.int kd), .val (.int dc), .val (.int ec), .unset, .unset, .unset] [(.int 101), (.int 4), (.ref b334), (.ref b334)])) (fun t kt => ?_) ?_
        · refine XS.dup X349.here hx rfl (hb hby at_210) rfl rfl ?_
          refine XS.iconst X349.here hx rfl (hb hby at_211) ?_
          refine XS.bipush X349.here hx rfl (hb hby at_212) ?_
          exact kt
        obtain ⟨cl353, Ar353, q353, S353, M353, H353, G353⟩ := id V349
        have hin353 : ¬ ((4 : Int32) < 0 ∨ cl353.slots.size ≤ ((4 : Int32)).toNatClampNeg) := inb_of S353 ⟨by decide, by decide⟩
        obtain ⟨T353, h353, X353, e353, W353, st353⟩ := stC X349 hx hZ e349 Ar353 (j := (4 : Int32)) hin353 (g := (mkF m 214 #[.val (.int p0), .val (.int p1), .val (.int p2), .val (.int p3), .val (.int 0), .val (.int kd), .val (.int dc), .val (.int ec), .unset, .unset, .unset] [(.int 101), (.int 4), (.ref b334), (.ref b334)])) rfl rfl (hb hby at_214)
        obtain ⟨clv355, Arv355, -⟩ := id V349
        have CH354 := CH350.trans (CHr.wr W353 (Safe.arr hZ.alike Arv355 (by decide)) CH350.1)
        have Z356 : n0 ≤ h353.size := Nat.le_trans Z352 (Nat.le_of_eq W353.size.symm)
        have Z356h : h0.size ≤ h353.size := Nat.le_trans Z352h (Nat.le_of_eq W353.size.symm)
        have V353 : Arv Z h353 b334 k334 .char (7 : Int32) [(.int 45), (.int 45), (.int 113), (.int 117), (.int 101), (.int 0), (.int 0)] (.int 0) := Arv.set Ar353 q353 S353 M353 H353 G353 (fits_nar_char _) W353 4 rfl (Nat.le_of_ble_eq_true rfl)
        obtain ⟨lc353, X353, N353⟩ := own_pack1 X353 N349 g_b334
        refine own_thrH (a := T353.setTop (mkF m 215 #[.val (.int p0), .val (.int p1), .val (.int p2), .val (.int p3), .val (.int 0), .val (.int kd), .val (.int dc), .val (.int ec), .unset, .unset, .unset] [(.ref b334)])) (fun t kt => st353 t kt) ?_
        refine own_thrH (a := T353.setTop (mkF m 219 #[.val (.int p0), .val (.int p1), .val (.int p2), .val (.int p3), .val (.int 0), .val (.int kd), .val (.int dc), .val (.int ec), .unset, .unset, .unset] [(.int 117), (.int 5), (.ref b334), (.ref b334)])) (fun t kt => ?_) ?_
        · refine XS.dup X353.here hx rfl (hb hby at_215) rfl rfl ?_
          refine XS.iconst X353.here hx rfl (hb hby at_216) ?_
          refine XS.bipush X353.here hx rfl (hb hby at_217) ?_
          exact kt
        obtain ⟨cl357, Ar357, q357, S357, M357, H357, G357⟩ := id V353
        have hin357 : ¬ ((5 : Int32) < 0 ∨ cl357.slots.size ≤ ((5 : Int32)).toNatClampNeg) := inb_of S357 ⟨by decide, by decide⟩
        obtain ⟨T357, h357, X357, e357, W357, st357⟩ := stC X353 hx hZ e353 Ar357 (j := (5 : Int32)) hin357 (g := (mkF m 219 #[.val (.int p0), .val (.int p1), .val (.int p2), .val (.int p3), .val (.int 0), .val (.int kd), .val (.int dc), .val (.int ec), .unset, .unset, .unset] [(.int 117), (.int 5), (.ref b334), (.ref b334)])) rfl rfl (hb hby at_219)
        obtain ⟨clv359, Arv359, -⟩ := id V353
        have CH358 := CH354.trans (CHr.wr W357 (Safe.arr hZ.alike Arv359 (by decide)) CH354.1)
        have Z360 : n0 ≤ h357.size := Nat.le_trans Z356 (Nat.le_of_eq W357.size.symm)
        have Z360h : h0.size ≤ h357.size := Nat.le_trans Z356h (Nat.le_of_eq W357.size.symm)
        have V357 : Arv Z h357 b334 k334 .char (7 : Int32) [(.int 45), (.int 45), (.int 113), (.int 117), (.int 101), (.int 117), (.int 0)] (.int 0) := Arv.set Ar357 q357 S357 M357 H357 G357 (fits_nar_char _) W357 5 rfl (Nat.le_of_ble_eq_true rfl)
        obtain ⟨lc357, X357, N357⟩ := own_pack1 X357 N353 g_b334
        refine own_thrH (a := T357.setTop (mkF m 220 #[.val (.int p0), .val (.int p1), .val (.int p2), .val (.int p3), .val (.int 0), .val (.int kd), .val (.int dc), .val (.int ec), .unset, .unset, .unset] [(.ref b334)])) (fun t kt => st357 t kt) ?_
        refine own_thrH (a := T357.setTop (mkF m 225 #[.val (.int p0), .val (.int p1), .val (.int p2), .val (.int p3), .val (.int 0), .val (.int kd), .val (.int dc), .val (.int ec), .unset, .unset, .unset] [(.int 101), (.int 6), (.ref b334), (.ref b334)])) (fun t kt => ?_) ?_
        · refine XS.dup X357.here hx rfl (hb hby at_220) rfl rfl ?_
          refine XS.bipush X357.here hx rfl (hb hby at_221) ?_
          refine XS.bipush X357.here hx rfl (hb hby at_223) ?_
          exact kt
        obtain ⟨cl361, Ar361, q361, S361, M361, H361, G361⟩ := id V357
        have hin361 : ¬ ((6 : Int32) < 0 ∨ cl361.slots.size ≤ ((6 : Int32)).toNatClampNeg) := inb_of S361 ⟨by decide, by decide⟩
        obtain ⟨T361, h361, X361, e361, W361, st361⟩ := stC X357 hx hZ e357 Ar361 (j := (6 : Int32)) hin361 (g := (mkF m 225 #[.val (.int p0), .val (.int p1), .val (.int p2), .val (.int p3), .val (.int 0), .val (.int kd), .val (.int dc), .val (.int ec), .unset, .unset, .unset] [(.int 101), (.int 6), (.ref b334), (.ref b334)])) rfl rfl (hb hby at_225)
        obtain ⟨clv363, Arv363, -⟩ := id V357
        have CH362 := CH358.trans (CHr.wr W361 (Safe.arr hZ.alike Arv363 (by decide)) CH358.1)
        have Z364 : n0 ≤ h361.size := Nat.le_trans Z360 (Nat.le_of_eq W361.size.symm)
        have Z364h : h0.size ≤ h361.size := Nat.le_trans Z360h (Nat.le_of_eq W361.size.symm)
        have V361 : Arv Z h361 b334 k334 .char (7 : Int32) [(.int 45), (.int 45), (.int 113), (.int 117), (.int 101), (.int 117), (.int 101)] (.int 0) := Arv.set Ar361 q361 S361 M361 H361 G361 (fits_nar_char _) W361 6 rfl (Nat.le_of_ble_eq_true rfl)
        obtain ⟨lc361, X361, N361⟩ := own_pack1 X361 N357 g_b334
        refine own_thrH (a := T361.setTop (mkF m 226 #[.val (.int p0), .val (.int p1), .val (.int p2), .val (.int p3), .val (.int 0), .val (.int kd), .val (.int dc), .val (.int ec), .unset, .unset, .unset] [(.ref b334)])) (fun t kt => st361 t kt) ?_
        refine own_thrH (a := T361.setTop (mkF m 230 #[.val (.int p0), .val (.int p1), .val (.int p2), .val (.int p3), .val (.int 0), .val (.int kd), .val (.int dc), .val (.int ec), .unset, .val (.ref b334), .unset] [(.ref b334)])) (fun t kt => ?_) ?_
        · refine XS.astore X361.here hx rfl (hb hby at_226) rfl rfl (l' := #[.val (.int p0), .val (.int p1), .val (.int p2), .val (.int p3), .val (.int 0), .val (.int kd), .val (.int dc), .val (.int ec), .unset, .val (.ref b334), .unset]) rfl ?_
          refine XS.aload X361.here hx rfl (hb hby at_228) rfl rfl ?_
          exact kt
        obtain ⟨cl365, Ar365, -, S365, M365, -, -⟩ := id V361
        refine own_thrH (a := T361.setTop (mkF m 244 #[.val (.int p0), .val (.int p1), .val (.int p2), .val (.int p3), .val (.int 0), .val (.int kd), .val (.int dc), .val (.int ec), .unset, .val (.ref b334), .val (.int 7)] [(.int dc), (.int ((p1 &&& (2147483647 : Int32)) % (7 : Int32))), (.ref b334)])) (fun t kt => ?_) ?_
        · refine X361.arraylength hx (by rw [e361]; exact Ar365.1) (State.isArrayOf_alike hZ.alike Ar365.2.1) (g := (mkF m 230 #[.val (.int p0), .val (.int p1), .val (.int p2), .val (.int p3), .val (.int 0), .val (.int kd), .val (.int dc), .val (.int ec), .unset, .val (.ref b334), .unset] [(.ref b334)])) rfl rfl (hb hby at_230) _ ?_
          rw [len_of S365 M365]
          refine XS.istore X361.here hx rfl (hb hby at_231) rfl (l' := #[.val (.int p0), .val (.int p1), .val (.int p2), .val (.int p3), .val (.int 0), .val (.int kd), .val (.int dc), .val (.int ec), .unset, .val (.ref b334), .val (.int 7)]) rfl ?_
          refine XS.aload X361.here hx rfl (hb hby at_233) rfl rfl ?_
          refine XS.iloadN X361.here hx rfl (hb hby at_235) rfl ?_
          refine X361.ldcInt hx hown (mvT hZ (hw _ (own_i 112 rfl))) (g := (mkF m 236 #[.val (.int p0), .val (.int p1), .val (.int p2), .val (.int p3), .val (.int 0), .val (.int kd), .val (.int dc), .val (.int ec), .unset, .val (.ref b334), .val (.int 7)] [(.int p1), (.ref b334)])) rfl (hb hby at_236) _ ?_
          refine XS.iand X361.here hx rfl (hb hby at_238) rfl ?_
          refine XS.iload X361.here hx rfl (hb hby at_239) rfl ?_
          refine iremM X361 hx rfl (hb hby at_241) rfl (by decide) ?_
          refine XS.iload X361.here hx rfl (hb hby at_242) rfl ?_
          exact kt
        obtain ⟨cl366, Ar366, q366, S366, M366, H366, G366⟩ := id V361
        have hin366 : ¬ (((p1 &&& (2147483647 : Int32)) % (7 : Int32)) < 0 ∨ cl366.slots.size ≤ (((p1 &&& (2147483647 : Int32)) % (7 : Int32))).toNatClampNeg) := inb_of S366 (own_rem _ (7 : Int32) (own_p1 _) (by decide)).1
        obtain ⟨T366, h366, X366, e366, W366, st366⟩ := stC X361 hx hZ e361 Ar366 (j := ((p1 &&& (2147483647 : Int32)) % (7 : Int32))) hin366 (g := (mkF m 244 #[.val (.int p0), .val (.int p1), .val (.int p2), .val (.int p3), .val (.int 0), .val (.int kd), .val (.int dc), .val (.int ec), .unset, .val (.ref b334), .val (.int 7)] [(.int dc), (.int ((p1 &&& (2147483647 : Int32)) % (7 : Int32))), (.ref b334)])) rfl rfl (hb hby at_244)
        obtain ⟨clv368, Arv368, -⟩ := id V361
        have CH367 := CH362.trans (CHr.wr W366 (Safe.arr hZ.alike Arv368 (by decide)) CH362.1)
        have Z369 : n0 ≤ h366.size := Nat.le_trans Z364 (Nat.le_of_eq W366.size.symm)
        have Z369h : h0.size ≤ h366.size := Nat.le_trans Z364h (Nat.le_of_eq W366.size.symm)
        have V366 : Arv Z h366 b334 k334 .char (7 : Int32) (([(.int 45), (.int 45), (.int 113), (.int 117), (.int 101), (.int 117), (.int 101)] : List Value).set (((p1 &&& (2147483647 : Int32)) % (7 : Int32))).toNatClampNeg (.int (dc.toUInt32.toUInt16.toUInt32.toInt32))) (.int 0) := Arv.set Ar366 q366 S366 M366 H366 G366 (fits_nar_char _) W366 (((p1 &&& (2147483647 : Int32)) % (7 : Int32))).toNatClampNeg rfl (own_rem _ (7 : Int32) (own_p1 _) (by decide)).2
        obtain ⟨lc366, X366, N366⟩ := own_pack1 X366 N361 g_b334
        refine own_thrH (a := T366.setTop (mkF m 245 #[.val (.int p0), .val (.int p1), .val (.int p2), .val (.int p3), .val (.int 0), .val (.int kd), .val (.int dc), .val (.int ec), .unset, .val (.ref b334), .val (.int 7)] [])) (fun t kt => st366 t kt) ?_
        obtain ⟨g370_0, g370_1, g370_2, g370_3, g370_4, g370_5, g370_6, eg370, lg370_0, lg370_1, lg370_2, lg370_3, lg370_4, lg370_5, lg370_6⟩ := own_set7 (45 : Int32) (45 : Int32) (113 : Int32) (117 : Int32) (101 : Int32) (117 : Int32) (101 : Int32) (dc.toUInt32.toUInt16.toUInt32.toInt32) (((p1 &&& (2147483647 : Int32)) % (7 : Int32))).toNatClampNeg ⟨by decide, by decide⟩ ⟨by decide, by decide⟩ ⟨by decide, by decide⟩ ⟨by decide, by decide⟩ ⟨by decide, by decide⟩ ⟨by decide, by decide⟩ ⟨by decide, by decide⟩ mdc
        have Vg370 := V366
        rw [eg370] at Vg370
        refine own_thrH (a := T366.setTop (mkF m 260 #[.val (.int p0), .val (.int p1), .val (.int p2), .val (.int p3), .val (.int 0), .val (.int kd), .val (.int dc), .val (.int ec), .unset, .val (.ref b334), .val (.int 7)] [(.int ec), (.int ((((p1.toUInt32 >>> ((16 : Int32) &&& 31).toUInt32).toInt32) &&& (32767 : Int32)) % (7 : Int32))), (.ref b334)])) (fun t kt => ?_) ?_
        · refine XS.aload X366.here hx rfl (hb hby at_245) rfl rfl ?_
          refine XS.iloadN X366.here hx rfl (hb hby at_247) rfl ?_
          refine XS.bipush X366.here hx rfl (hb hby at_248) ?_
          refine XS.iushr X366.here hx rfl (hb hby at_250) rfl ?_
          refine XS.sipush X366.here hx rfl (hb hby at_251) ?_
          refine XS.iand X366.here hx rfl (hb hby at_254) rfl ?_
          refine XS.iload X366.here hx rfl (hb hby at_255) rfl ?_
          refine iremM X366 hx rfl (hb hby at_257) rfl (by decide) ?_
          refine XS.iload X366.here hx rfl (hb hby at_258) rfl ?_
          exact kt
        obtain ⟨cl371, Ar371, q371, S371, M371, H371, G371⟩ := id Vg370
        have hin371 : ¬ (((((p1.toUInt32 >>> ((16 : Int32) &&& 31).toUInt32).toInt32) &&& (32767 : Int32)) % (7 : Int32)) < 0 ∨ cl371.slots.size ≤ (((((p1.toUInt32 >>> ((16 : Int32) &&& 31).toUInt32).toInt32) &&& (32767 : Int32)) % (7 : Int32))).toNatClampNeg) := inb_of S371 (own_rem _ (7 : Int32) (own_p2 _) (by decide)).1
        obtain ⟨T371, h371, X371, e371, W371, st371⟩ := stC X366 hx hZ e366 Ar371 (j := ((((p1.toUInt32 >>> ((16 : Int32) &&& 31).toUInt32).toInt32) &&& (32767 : Int32)) % (7 : Int32))) hin371 (g := (mkF m 260 #[.val (.int p0), .val (.int p1), .val (.int p2), .val (.int p3), .val (.int 0), .val (.int kd), .val (.int dc), .val (.int ec), .unset, .val (.ref b334), .val (.int 7)] [(.int ec), (.int ((((p1.toUInt32 >>> ((16 : Int32) &&& 31).toUInt32).toInt32) &&& (32767 : Int32)) % (7 : Int32))), (.ref b334)])) rfl rfl (hb hby at_260)
        obtain ⟨clv373, Arv373, -⟩ := id Vg370
        have CH372 := CH367.trans (CHr.wr W371 (Safe.arr hZ.alike Arv373 (by decide)) CH367.1)
        have Z374 : n0 ≤ h371.size := Nat.le_trans Z369 (Nat.le_of_eq W371.size.symm)
        have Z374h : h0.size ≤ h371.size := Nat.le_trans Z369h (Nat.le_of_eq W371.size.symm)
        have V371 : Arv Z h371 b334 k334 .char (7 : Int32) (([(.int g370_0), (.int g370_1), (.int g370_2), (.int g370_3), (.int g370_4), (.int g370_5), (.int g370_6)] : List Value).set (((((p1.toUInt32 >>> ((16 : Int32) &&& 31).toUInt32).toInt32) &&& (32767 : Int32)) % (7 : Int32))).toNatClampNeg (.int (ec.toUInt32.toUInt16.toUInt32.toInt32))) (.int 0) := Arv.set Ar371 q371 S371 M371 H371 G371 (fits_nar_char _) W371 (((((p1.toUInt32 >>> ((16 : Int32) &&& 31).toUInt32).toInt32) &&& (32767 : Int32)) % (7 : Int32))).toNatClampNeg rfl (own_rem _ (7 : Int32) (own_p2 _) (by decide)).2
        obtain ⟨lc371, X371, N371⟩ := own_pack1 X371 N366 g_b334
        refine own_thrH (a := T371.setTop (mkF m 261 #[.val (.int p0), .val (.int p1), .val (.int p2), .val (.int p3), .val (.int 0), .val (.int kd), .val (.int dc), .val (.int ec), .unset, .val (.ref b334), .val (.int 7)] [])) (fun t kt => st371 t kt) ?_
        obtain ⟨g375_0, g375_1, g375_2, g375_3, g375_4, g375_5, g375_6, eg375, lg375_0, lg375_1, lg375_2, lg375_3, lg375_4, lg375_5, lg375_6⟩ := own_set7 g370_0 g370_1 g370_2 g370_3 g370_4 g370_5 g370_6 (ec.toUInt32.toUInt16.toUInt32.toInt32) (((((p1.toUInt32 >>> ((16 : Int32) &&& 31).toUInt32).toInt32) &&& (32767 : Int32)) % (7 : Int32))).toNatClampNeg lg370_0 lg370_1 lg370_2 lg370_3 lg370_4 lg370_5 lg370_6 mec
        have Vg375 := V371
        rw [eg375] at Vg375
        have c377 := ((((((((((F_flu.ext E334).other W337 (Or.inl ne_ou_b334)).other W341 (Or.inl ne_ou_b334)).other W345 (Or.inl ne_ou_b334)).other W349 (Or.inl ne_ou_b334)).other W353 (Or.inl ne_ou_b334)).other W357 (Or.inl ne_ou_b334)).other W361 (Or.inl ne_ou_b334)).other W366 (Or.inl ne_ou_b334)).other W371 (Or.inl ne_ou_b334))
        have c378 := ((((((((((E_flu.ext E334).wr W337).wr W341).wr W345).wr W349).wr W353).wr W357).wr W361).wr W366).wr W371)
        have c379 := ((((((((((V_fvu.ext E334).other W337 ne_fvu_b334).other W341 ne_fvu_b334).other W345 ne_fvu_b334).other W349 ne_fvu_b334).other W353 ne_fvu_b334).other W357 ne_fvu_b334).other W361 ne_fvu_b334).other W366 ne_fvu_b334).other W371 ne_fvu_b334)
        have c380 := ((((((((((F_flq.ext E334).other W337 (Or.inl ne_oq_b334)).other W341 (Or.inl ne_oq_b334)).other W345 (Or.inl ne_oq_b334)).other W349 (Or.inl ne_oq_b334)).other W353 (Or.inl ne_oq_b334)).other W357 (Or.inl ne_oq_b334)).other W361 (Or.inl ne_oq_b334)).other W366 (Or.inl ne_oq_b334)).other W371 (Or.inl ne_oq_b334))
        have c381 := ((((((((((E_flq.ext E334).wr W337).wr W341).wr W345).wr W349).wr W353).wr W357).wr W361).wr W366).wr W371)
        have c382 := ((((((((((V_fvq.ext E334).other W337 ne_fvq_b334).other W341 ne_fvq_b334).other W345 ne_fvq_b334).other W349 ne_fvq_b334).other W353 ne_fvq_b334).other W357 ne_fvq_b334).other W361 ne_fvq_b334).other W366 ne_fvq_b334).other W371 ne_fvq_b334)
        have c383 := ((((((((((E_em.ext E334).wr W337).wr W341).wr W345).wr W349).wr W353).wr W357).wr W361).wr W366).wr W371)
        obtain ⟨T376, h376, X376, e376, E376, A376, D376, U376, st376⟩ := newO X371 hx hZ hown (hw _ (own_i 0 rfl)) (hw _ (own_i 1 rfl)) (hw _ (own_i 2 rfl)) e371 (g := (mkF m 261 #[.val (.int p0), .val (.int p1), .val (.int p2), .val (.int p3), .val (.int 0), .val (.int kd), .val (.int dc), .val (.int ec), .unset, .val (.ref b334), .val (.int 7)] [])) rfl (hb hby at_261) (by decide : 1 + 1 ≤ _) (by decide : 7 + 4 ≤ _)
        obtain ⟨b376, g376⟩ : ∃ z, z = h371.size := ⟨_, rfl⟩
        rw [← g376] at A376 D376 st376 U376
        have g_b376 : n0 ≤ b376 := Nat.le_trans Z374 (Nat.le_of_eq g376.symm)
        have sz_b376 : h0.size ≤ b376 := Nat.le_trans Z374h (Nat.le_of_eq g376.symm)
        have lt_ou_b376 : ou < b376 := Nat.lt_of_lt_of_le c377.lt (Nat.le_of_eq g376.symm)
        have ne_ou_b376 : ou ≠ b376 := Nat.ne_of_lt lt_ou_b376
        have lt_flu_b376 : flu < b376 := Nat.lt_of_lt_of_le c378.lt (Nat.le_of_eq g376.symm)
        have ne_flu_b376 : flu ≠ b376 := Nat.ne_of_lt lt_flu_b376
        have lt_fvu_b376 : fvu < b376 := Nat.lt_of_lt_of_le c379.lt (Nat.le_of_eq g376.symm)
        have ne_fvu_b376 : fvu ≠ b376 := Nat.ne_of_lt lt_fvu_b376
        have lt_oq_b376 : oq < b376 := Nat.lt_of_lt_of_le c380.lt (Nat.le_of_eq g376.symm)
        have ne_oq_b376 : oq ≠ b376 := Nat.ne_of_lt lt_oq_b376
        have lt_flq_b376 : flq < b376 := Nat.lt_of_lt_of_le c381.lt (Nat.le_of_eq g376.symm)
        have ne_flq_b376 : flq ≠ b376 := Nat.ne_of_lt lt_flq_b376
        have lt_fvq_b376 : fvq < b376 := Nat.lt_of_lt_of_le c382.lt (Nat.le_of_eq g376.symm)
        have ne_fvq_b376 : fvq ≠ b376 := Nat.ne_of_lt lt_fvq_b376
        have lt_em_b376 : em < b376 := Nat.lt_of_lt_of_le c383.lt (Nat.le_of_eq g376.symm)
        have ne_em_b376 : em ≠ b376 := Nat.ne_of_lt lt_em_b376
        have lt_b334_b376 : b334 < b376 := Nat.lt_of_lt_of_le Vg375.lt (Nat.le_of_eq g376.symm)
        have ne_b334_b376 : b334 ≠ b376 := Nat.ne_of_lt lt_b334_b376
        have CH384 := CH372.trans (CHr.ext E376 CH372.1)
        have Z385 : n0 ≤ h376.size := Nat.le_trans Z374 E376.1
        have Z385h : h0.size ≤ h376.size := Nat.le_trans Z374h E376.1
        have F_coder_b376 : Fld Z h376 b376 "java/lang/String" "coder" "B" (.int 0) := D376 (Or.inr (hw _ (own_i 27 rfl))) (ty := .byte) (by decide)
        have F_value_b376 : Fld Z h376 b376 "java/lang/String" "value" "[B" .null := D376 (Or.inr (hw _ (own_i 29 rfl))) (ty := (.array .byte)) (by decide)
        refine own_thrH (a := T376.setTop (mkF m 264 #[.val (.int p0), .val (.int p1), .val (.int p2), .val (.int p3), .val (.int 0), .val (.int kd), .val (.int dc), .val (.int ec), .unset, .val (.ref b334), .val (.int 7)] [(.ref b376)])) (fun t kt => st376 t kt) ?_
        refine own_thrH (a := T376.setTop (mkF m 267 #[.val (.int p0), .val (.int p1), .val (.int p2), .val (.int p3), .val (.int 0), .val (.int kd), .val (.int dc), .val (.int ec), .unset, .val (.ref b334), .val (.int 7)] [(.ref b334), (.ref b376), (.ref b376)])) (fun t kt => ?_) ?_
        · refine XS.dup X376.here hx rfl (hb hby at_264) rfl rfl ?_
          refine XS.aload X376.here hx rfl (hb hby at_265) rfl rfl ?_
          exact kt
        have c387 := (((((((((((hO.ext E334).wr W337 g_b334).wr W341 g_b334).wr W345 g_b334).wr W349 g_b334).wr W353 g_b334).wr W357 g_b334).wr W361 g_b334).wr W366 g_b334).wr W371 g_b334).ext E376)
        obtain ⟨_, _, ⟨T386, L386, k386, n386⟩, -, X386, ⟨Lc386, hQ386, l386, y386, z386⟩, st386⟩ := X376.specialBack hx (y := (⟨"java/lang/String", "<init>", "([C)V"⟩ : MethodName)) rfl hown (mvT hZ (hw _ (own_i 4 rfl))) (mvT hZ (hw _ (own_i 5 rfl))) (mvT hZ (hw _ (own_i 6 rfl))) (by decide) (StrChars.Road.backV hZ (fun d hd => hw d (own_sw d hd)) (hw _ (own_i 1 rfl)) (x := b376) (b := b334) (cs := [g375_0, g375_1, g375_2, g375_3, g375_4, g375_5, g375_6]) (bs := [(g375_0.toInt8.toInt32), (g375_1.toInt8.toInt32), (g375_2.toInt8.toInt32), (g375_3.toInt8.toInt32), (g375_4.toInt8.toInt32), (g375_5.toInt8.toInt32), (g375_6.toInt8.toInt32)]) (n := 7) (W := 1) g_b376 Z385 A376 F_value_b376 F_coder_b376 (Vg375.ext E376) (S_cs.ext c387.2) hcs rfl rfl (by decide) (by decide) (own_fa lg375_0 (own_fa lg375_1 (own_fa lg375_2 (own_fa lg375_3 (own_fa lg375_4 (own_fa lg375_5 (own_fa lg375_6 own_f0))))))) rfl (by decide) (by decide)) (g := (mkF m 267 #[.val (.int p0), .val (.int p1), .val (.int p2), .val (.int p3), .val (.int 0), .val (.int kd), .val (.int dc), .val (.int ec), .unset, .val (.ref b334), .val (.int 7)] [(.ref b334), (.ref b376), (.ref b376)])) rfl (by rw [hml]; rfl) (Steps.refl _) (a := b376) (argsL := [(.ref b334)]) (rest := [(.ref b376)]) (lenOf pd__28_5bC_29V rfl) rfl (by show 2 * 0 + _ ≤ _; exact Nat.le_of_eq rfl) (hb hby at_267) (fun _ _ => ⟨rfl, e376, (by decide : 2 + 1 ≤ _), (by decide : 11 + 7 ≤ _)⟩)
        dsimp only [Pt.U, Pt.locs, Pt.cells, Pt.slots] at X386 l386 y386 z386 st386 hQ386
        obtain ⟨rfl, N386q, K386, o386_e, o386_c, sv386, ks386, -, -, -, o386_v, o386_A⟩ := hQ386
        have sf389 := own_safe (EL := own_EL) hZ.alike A376 F_value_b376
        have sf390 := Safe.keep K386 (allS sf389 all0) CH384.1 sf389
        have CH388 := CH384.trans (CHr.keep K386 (allS sf389 all0) CH384.1)
        have Z391 : n0 ≤ T386.heap.size := Nat.le_trans Z385 K386.1
        have Z391h : h0.size ≤ T386.heap.size := Nat.le_trans Z385h K386.1
        have o386_a : Arv Z T386.heap sv386 ks386 .byte (7 : Int32) [(.int (g375_0.toInt8.toInt32)), (.int (g375_1.toInt8.toInt32)), (.int (g375_2.toInt8.toInt32)), (.int (g375_3.toInt8.toInt32)), (.int (g375_4.toInt8.toInt32)), (.int (g375_5.toInt8.toInt32)), (.int (g375_6.toInt8.toInt32))] (.int 0) := o386_A
        obtain ⟨lc386, X386, N386⟩ := own_pack X386 l386 y386 z386 N371 N386q (C := 3) (S' := 18) rfl rfl
        refine own_thrH (a := T386.setTop (mkF m 270 #[.val (.int p0), .val (.int p1), .val (.int p2), .val (.int p3), .val (.int 0), .val (.int kd), .val (.int dc), .val (.int ec), .unset, .val (.ref b334), .val (.int 7)] [(.ref b376)])) (fun t kt => st386.trans kt) ?_
        refine own_thrH (a := T386.setTop (mkF m 510 #[.val (.int p0), .val (.int p1), .val (.int p2), .val (.int p3), .val (.int 0), .val (.int kd), .val (.int dc), .val (.int ec), .val (.ref b376), .val (.ref b334), .val (.int 7)] [])) (fun t kt => ?_) ?_
        · refine XS.astore X386.here hx rfl (hb hby at_270) rfl rfl (l' := #[.val (.int p0), .val (.int p1), .val (.int p2), .val (.int p3), .val (.int 0), .val (.int kd), .val (.int dc), .val (.int ec), .val (.ref b376), .val (.ref b334), .val (.int 7)]) rfl ?_
          refine XS.goto X386.here hx rfl (pc0 := 272) (pc' := 510) rfl (hb hby at_272) (by decide) (by decide) ?_
          exact kt
        by_cases hm : (g375_0.toInt8.toInt32) = (45 : Int32) ∧ (g375_1.toInt8.toInt32) = (45 : Int32) ∧ (g375_2.toInt8.toInt32) = (113 : Int32) ∧ (g375_3.toInt8.toInt32) = (117 : Int32) ∧ (g375_4.toInt8.toInt32) = (101 : Int32) ∧ (g375_5.toInt8.toInt32) = (117 : Int32) ∧ (g375_6.toInt8.toInt32) = (101 : Int32)
        · obtain ⟨hm0, hm1, hm2, hm3, hm4, hm5, hm6⟩ := id hm
          have V392 := o386_a
          rw [hm0, hm1, hm2, hm3, hm4, hm5, hm6] at V392
          have c393 := ((((((((((((F_fvu.ext E334).other W337 (Or.inl ne_flu_b334)).other W341 (Or.inl ne_flu_b334)).other W345 (Or.inl ne_flu_b334)).other W349 (Or.inl ne_flu_b334)).other W353 (Or.inl ne_flu_b334)).other W357 (Or.inl ne_flu_b334)).other W361 (Or.inl ne_flu_b334)).other W366 (Or.inl ne_flu_b334)).other W371 (Or.inl ne_flu_b334)).ext E376).keep K386 (ninS ne_flu_b376 nin0))
          have c394 := ((((((((((((F_fluc.ext E334).other W337 (Or.inl ne_flu_b334)).other W341 (Or.inl ne_flu_b334)).other W345 (Or.inl ne_flu_b334)).other W349 (Or.inl ne_flu_b334)).other W353 (Or.inl ne_flu_b334)).other W357 (Or.inl ne_flu_b334)).other W361 (Or.inl ne_flu_b334)).other W366 (Or.inl ne_flu_b334)).other W371 (Or.inl ne_flu_b334)).ext E376).keep K386 (ninS ne_flu_b376 nin0))
          have c395 := ((((((((((((F_fvq.ext E334).other W337 (Or.inl ne_flq_b334)).other W341 (Or.inl ne_flq_b334)).other W345 (Or.inl ne_flq_b334)).other W349 (Or.inl ne_flq_b334)).other W353 (Or.inl ne_flq_b334)).other W357 (Or.inl ne_flq_b334)).other W361 (Or.inl ne_flq_b334)).other W366 (Or.inl ne_flq_b334)).other W371 (Or.inl ne_flq_b334)).ext E376).keep K386 (ninS ne_flq_b376 nin0))
          have c396 := ((((((((((((F_flqc.ext E334).other W337 (Or.inl ne_flq_b334)).other W341 (Or.inl ne_flq_b334)).other W345 (Or.inl ne_flq_b334)).other W349 (Or.inl ne_flq_b334)).other W353 (Or.inl ne_flq_b334)).other W357 (Or.inl ne_flq_b334)).other W361 (Or.inl ne_flq_b334)).other W366 (Or.inl ne_flq_b334)).other W371 (Or.inl ne_flq_b334)).ext E376).keep K386 (ninS ne_flq_b376 nin0))
          have c397 := ((((((((((((F_em.ext E334).other W337 (Or.inl ne_em_b334)).other W341 (Or.inl ne_em_b334)).other W345 (Or.inl ne_em_b334)).other W349 (Or.inl ne_em_b334)).other W353 (Or.inl ne_em_b334)).other W357 (Or.inl ne_em_b334)).other W361 (Or.inl ne_em_b334)).other W366 (Or.inl ne_em_b334)).other W371 (Or.inl ne_em_b334)).ext E376).keep K386 (ninS ne_em_b376 nin0))
          exact own_tailQ p0 p1 p2 p3 va kv ou oq em flu fvu kfu flq fvq kfq cs hw hx hby hml hlk Bd.returns hh hEL hZ hown hS0 (Nat.zero_le _) CH388 Z391 Z391h _ _ _ _ b376 sv386 ks386 _ _ (Or.inr ⟨_, rfl, rfl⟩) (Or.inr ⟨_, rfl, rfl⟩) S_V V_va E_va hfit S_em S_cs hcs (c387.keep K386 (allS g_b376 all0)) ((c377.ext E376).keep K386 (ninS ne_ou_b376 nin0)) ((c378.ext E376).keep K386) c393 c394 ((c379.ext E376).keep K386 (ninS ne_fvu_b376 nin0)) ((c380.ext E376).keep K386 (ninS ne_oq_b376 nin0)) ((c381.ext E376).keep K386) c395 c396 ((c382.ext E376).keep K386 (ninS ne_fvq_b376 nin0)) S_ou S_oq ((c383.ext E376).keep K386) c397 o386_e o386_v o386_c V392 (by decide) (by decide) X386 N386 rfl
        · have c398 := ((((((((((((F_fvu.ext E334).other W337 (Or.inl ne_flu_b334)).other W341 (Or.inl ne_flu_b334)).other W345 (Or.inl ne_flu_b334)).other W349 (Or.inl ne_flu_b334)).other W353 (Or.inl ne_flu_b334)).other W357 (Or.inl ne_flu_b334)).other W361 (Or.inl ne_flu_b334)).other W366 (Or.inl ne_flu_b334)).other W371 (Or.inl ne_flu_b334)).ext E376).keep K386 (ninS ne_flu_b376 nin0))
          have c399 := ((((((((((((F_fluc.ext E334).other W337 (Or.inl ne_flu_b334)).other W341 (Or.inl ne_flu_b334)).other W345 (Or.inl ne_flu_b334)).other W349 (Or.inl ne_flu_b334)).other W353 (Or.inl ne_flu_b334)).other W357 (Or.inl ne_flu_b334)).other W361 (Or.inl ne_flu_b334)).other W366 (Or.inl ne_flu_b334)).other W371 (Or.inl ne_flu_b334)).ext E376).keep K386 (ninS ne_flu_b376 nin0))
          have c400 := ((((((((((((F_fvq.ext E334).other W337 (Or.inl ne_flq_b334)).other W341 (Or.inl ne_flq_b334)).other W345 (Or.inl ne_flq_b334)).other W349 (Or.inl ne_flq_b334)).other W353 (Or.inl ne_flq_b334)).other W357 (Or.inl ne_flq_b334)).other W361 (Or.inl ne_flq_b334)).other W366 (Or.inl ne_flq_b334)).other W371 (Or.inl ne_flq_b334)).ext E376).keep K386 (ninS ne_flq_b376 nin0))
          have c401 := ((((((((((((F_flqc.ext E334).other W337 (Or.inl ne_flq_b334)).other W341 (Or.inl ne_flq_b334)).other W345 (Or.inl ne_flq_b334)).other W349 (Or.inl ne_flq_b334)).other W353 (Or.inl ne_flq_b334)).other W357 (Or.inl ne_flq_b334)).other W361 (Or.inl ne_flq_b334)).other W366 (Or.inl ne_flq_b334)).other W371 (Or.inl ne_flq_b334)).ext E376).keep K386 (ninS ne_flq_b376 nin0))
          have c402 := ((((((((((((F_em.ext E334).other W337 (Or.inl ne_em_b334)).other W341 (Or.inl ne_em_b334)).other W345 (Or.inl ne_em_b334)).other W349 (Or.inl ne_em_b334)).other W353 (Or.inl ne_em_b334)).other W357 (Or.inl ne_em_b334)).other W361 (Or.inl ne_em_b334)).other W366 (Or.inl ne_em_b334)).other W371 (Or.inl ne_em_b334)).ext E376).keep K386 (ninS ne_em_b376 nin0))
          exact own_tailB p0 p1 p2 p3 va kv ou oq em flu fvu kfu flq fvq kfq cs hw hx hby hml hlk Bd.returns hh hEL hZ hown hS0 (Nat.zero_le _) CH388 Z391 Z391h _ _ _ _ b376 sv386 ks386 (g375_0.toInt8.toInt32) (g375_1.toInt8.toInt32) (g375_2.toInt8.toInt32) (g375_3.toInt8.toInt32) (g375_4.toInt8.toInt32) (g375_5.toInt8.toInt32) (g375_6.toInt8.toInt32) _ _ (Or.inr ⟨_, rfl, rfl⟩) (Or.inr ⟨_, rfl, rfl⟩) S_V V_va E_va hfit S_em S_cs hcs (c387.keep K386 (allS g_b376 all0)) ((c377.ext E376).keep K386 (ninS ne_ou_b376 nin0)) ((c378.ext E376).keep K386) c398 c399 ((c379.ext E376).keep K386 (ninS ne_fvu_b376 nin0)) ((c380.ext E376).keep K386 (ninS ne_oq_b376 nin0)) ((c381.ext E376).keep K386) c400 c401 ((c382.ext E376).keep K386 (ninS ne_fvq_b376 nin0)) S_ou S_oq ((c383.ext E376).keep K386) c402 o386_e o386_v o386_c o386_a hm (by decide) (by decide) X386 N386 rfl
      · refine own_thrH (a := s₁.setTop (mkF m 147 #[.val (.int p0), .val (.int p1), .val (.int p2), .val (.int p3), .val (.int 0), .val (.int kd), .val (.int dc), .val (.int ec), .unset, .unset, .unset] [(.int 7), (.int kd)])) (fun t kt => ?_) ?_
        · refine XS.icmpNo X0.here hx rfl (hb hby at_140) rfl (feq hc333).1 ?_
          refine XS.iload X0.here hx rfl (hb hby at_143) rfl ?_
          refine XS.bipush X0.here hx rfl (hb hby at_145) ?_
          exact kt
        by_cases hc403 : kd = (7 : Int32)
        · refine own_thrH (a := s₁.setTop (mkF m 188 #[.val (.int p0), .val (.int p1), .val (.int p2), .val (.int p3), .val (.int 0), .val (.int kd), .val (.int dc), .val (.int ec), .unset, .unset, .unset] [(.int 7)])) (fun t kt => ?_) ?_
          · refine XS.icmpNo X0.here hx rfl (hb hby at_147) rfl (teq hc403).2 ?_
            refine XS.iload X0.here hx rfl (hb hby at_150) rfl ?_
            refine XS.ifYes X0.here hx rfl (pc0 := 152) (pc' := 186) rfl (hb hby at_152) rfl ((if0 _ _).trans (teq rfl).1) (by decide) (by decide) ?_
            refine XS.bipush X0.here hx rfl (hb hby at_186) ?_
            exact kt
          obtain ⟨T404, h404, k404, X404, e404, E404, A404, st404⟩ := newP X0 hx hZ (hw _ (own_i 3 rfl)) e0 (g := (mkF m 188 #[.val (.int p0), .val (.int p1), .val (.int p2), .val (.int p3), .val (.int 0), .val (.int kd), .val (.int dc), .val (.int ec), .unset, .unset, .unset] [(.int 7)])) rfl (hb hby at_188) rfl (by decide) (cap := 7) (by decide) (by decide) (by decide : 0 + 1 ≤ _) (by decide : 0 + 7 ≤ _)
          obtain ⟨b404, g404⟩ : ∃ z, z = h0.size := ⟨_, rfl⟩
          rw [← g404] at A404 st404
          have g_b404 : n0 ≤ b404 := Nat.le_trans Z0 (Nat.le_of_eq g404.symm)
          have sz_b404 : h0.size ≤ b404 := Nat.le_trans (Nat.le_refl h0.size) (Nat.le_of_eq g404.symm)
          have lt_ou_b404 : ou < b404 := Nat.lt_of_lt_of_le F_flu.lt (Nat.le_of_eq g404.symm)
          have ne_ou_b404 : ou ≠ b404 := Nat.ne_of_lt lt_ou_b404
          have lt_flu_b404 : flu < b404 := Nat.lt_of_lt_of_le E_flu.lt (Nat.le_of_eq g404.symm)
          have ne_flu_b404 : flu ≠ b404 := Nat.ne_of_lt lt_flu_b404
          have lt_fvu_b404 : fvu < b404 := Nat.lt_of_lt_of_le V_fvu.lt (Nat.le_of_eq g404.symm)
          have ne_fvu_b404 : fvu ≠ b404 := Nat.ne_of_lt lt_fvu_b404
          have lt_oq_b404 : oq < b404 := Nat.lt_of_lt_of_le F_flq.lt (Nat.le_of_eq g404.symm)
          have ne_oq_b404 : oq ≠ b404 := Nat.ne_of_lt lt_oq_b404
          have lt_flq_b404 : flq < b404 := Nat.lt_of_lt_of_le E_flq.lt (Nat.le_of_eq g404.symm)
          have ne_flq_b404 : flq ≠ b404 := Nat.ne_of_lt lt_flq_b404
          have lt_fvq_b404 : fvq < b404 := Nat.lt_of_lt_of_le V_fvq.lt (Nat.le_of_eq g404.symm)
          have ne_fvq_b404 : fvq ≠ b404 := Nat.ne_of_lt lt_fvq_b404
          have lt_em_b404 : em < b404 := Nat.lt_of_lt_of_le E_em.lt (Nat.le_of_eq g404.symm)
          have ne_em_b404 : em ≠ b404 := Nat.ne_of_lt lt_em_b404
          have V_b404 : Arv Z h404 b404 k404 .char (7 : Int32) [(.int 0), (.int 0), (.int 0), (.int 0), (.int 0), (.int 0), (.int 0)] (.int 0) := (Arv.new A404 (by decide)).pad (pad_rep [] (.int 0) 7)
          have CH405 := CH0.trans (CHr.ext E404 CH0.1)
          have Z406 : n0 ≤ h404.size := Nat.le_trans Z0 E404.1
          have Z406h : h0.size ≤ h404.size := Nat.le_trans (Nat.le_refl h0.size) E404.1
          refine own_thrH (a := T404.setTop (mkF m 190 #[.val (.int p0), .val (.int p1), .val (.int p2), .val (.int p3), .val (.int 0), .val (.int kd), .val (.int dc), .val (.int ec), .unset, .unset, .unset] [(.ref b404)])) (fun t kt => st404 t kt) ?_
          refine own_thrH (a := T404.setTop (mkF m 194 #[.val (.int p0), .val (.int p1), .val (.int p2), .val (.int p3), .val (.int 0), .val (.int kd), .val (.int dc), .val (.int ec), .unset, .unset, .unset] [(.int 45), (.int 0), (.ref b404), (.ref b404)])) (fun t kt => ?_) ?_
          · refine XS.dup X404.here hx rfl (hb hby at_190) rfl rfl ?_
            refine XS.iconst X404.here hx rfl (hb hby at_191) ?_
            refine XS.bipush X404.here hx rfl (hb hby at_192) ?_
            exact kt
          obtain ⟨cl407, Ar407, q407, S407, M407, H407, G407⟩ := id V_b404
          have hin407 : ¬ ((0 : Int32) < 0 ∨ cl407.slots.size ≤ ((0 : Int32)).toNatClampNeg) := inb_of S407 ⟨by decide, by decide⟩
          obtain ⟨T407, h407, X407, e407, W407, st407⟩ := stC X404 hx hZ e404 Ar407 (j := (0 : Int32)) hin407 (g := (mkF m 194 #[.val (.int p0), .val (.int p1), .val (.int p2), .val (.int p3), .val (.int 0), .val (.int kd), .val (.int dc), .val (.int ec), .unset, .unset, .unset] [(.int 45), (.int 0), (.ref b404), (.ref b404)])) rfl rfl (hb hby at_194)
          obtain ⟨clv409, Arv409, -⟩ := id V_b404
          have CH408 := CH405.trans (CHr.wr W407 (Safe.arr hZ.alike Arv409 (by decide)) CH405.1)
          have Z410 : n0 ≤ h407.size := Nat.le_trans Z406 (Nat.le_of_eq W407.size.symm)
          have Z410h : h0.size ≤ h407.size := Nat.le_trans Z406h (Nat.le_of_eq W407.size.symm)
          have V407 : Arv Z h407 b404 k404 .char (7 : Int32) [(.int 45), (.int 0), (.int 0), (.int 0), (.int 0), (.int 0), (.int 0)] (.int 0) := Arv.set Ar407 q407 S407 M407 H407 G407 (fits_nar_char _) W407 0 rfl (Nat.le_of_ble_eq_true rfl)
          obtain ⟨lc407, X407, N407⟩ := own_pack1 X407 N0 g_b404
          refine own_thrH (a := T407.setTop (mkF m 195 #[.val (.int p0), .val (.int p1), .val (.int p2), .val (.int p3), .val (.int 0), .val (.int kd), .val (.int dc), .val (.int ec), .unset, .unset, .unset] [(.ref b404)])) (fun t kt => st407 t kt) ?_
          refine own_thrH (a := T407.setTop (mkF m 199 #[.val (.int p0), .val (.int p1), .val (.int p2), .val (.int p3), .val (.int 0), .val (.int kd), .val (.int dc), .val (.int ec), .unset, .unset, .unset] [(.int 45), (.int 1), (.ref b404), (.ref b404)])) (fun t kt => ?_) ?_
          · refine XS.dup X407.here hx rfl (hb hby at_195) rfl rfl ?_
            refine XS.iconst X407.here hx rfl (hb hby at_196) ?_
            refine XS.bipush X407.here hx rfl (hb hby at_197) ?_
            exact kt
          obtain ⟨cl411, Ar411, q411, S411, M411, H411, G411⟩ := id V407
          have hin411 : ¬ ((1 : Int32) < 0 ∨ cl411.slots.size ≤ ((1 : Int32)).toNatClampNeg) := inb_of S411 ⟨by decide, by decide⟩
          obtain ⟨T411, h411, X411, e411, W411, st411⟩ := stC X407 hx hZ e407 Ar411 (j := (1 : Int32)) hin411 (g := (mkF m 199 #[.val (.int p0), .val (.int p1), .val (.int p2), .val (.int p3), .val (.int 0), .val (.int kd), .val (.int dc), .val (.int ec), .unset, .unset, .unset] [(.int 45), (.int 1), (.ref b404), (.ref b404)])) rfl rfl (hb hby at_199)
          obtain ⟨clv413, Arv413, -⟩ := id V407
          have CH412 := CH408.trans (CHr.wr W411 (Safe.arr hZ.alike Arv413 (by decide)) CH408.1)
          have Z414 : n0 ≤ h411.size := Nat.le_trans Z410 (Nat.le_of_eq W411.size.symm)
          have Z414h : h0.size ≤ h411.size := Nat.le_trans Z410h (Nat.le_of_eq W411.size.symm)
          have V411 : Arv Z h411 b404 k404 .char (7 : Int32) [(.int 45), (.int 45), (.int 0), (.int 0), (.int 0), (.int 0), (.int 0)] (.int 0) := Arv.set Ar411 q411 S411 M411 H411 G411 (fits_nar_char _) W411 1 rfl (Nat.le_of_ble_eq_true rfl)
          obtain ⟨lc411, X411, N411⟩ := own_pack1 X411 N407 g_b404
          refine own_thrH (a := T411.setTop (mkF m 200 #[.val (.int p0), .val (.int p1), .val (.int p2), .val (.int p3), .val (.int 0), .val (.int kd), .val (.int dc), .val (.int ec), .unset, .unset, .unset] [(.ref b404)])) (fun t kt => st411 t kt) ?_
          refine own_thrH (a := T411.setTop (mkF m 204 #[.val (.int p0), .val (.int p1), .val (.int p2), .val (.int p3), .val (.int 0), .val (.int kd), .val (.int dc), .val (.int ec), .unset, .unset, .unset] [(.int 113), (.int 2), (.ref b404), (.ref b404)])) (fun t kt => ?_) ?_
          · refine XS.dup X411.here hx rfl (hb hby at_200) rfl rfl ?_
            refine XS.iconst X411.here hx rfl (hb hby at_201) ?_
            refine XS.bipush X411.here hx rfl (hb hby at_202) ?_
            exact kt
          obtain ⟨cl415, Ar415, q415, S415, M415, H415, G415⟩ := id V411
          have hin415 : ¬ ((2 : Int32) < 0 ∨ cl415.slots.size ≤ ((2 : Int32)).toNatClampNeg) := inb_of S415 ⟨by decide, by decide⟩
          obtain ⟨T415, h415, X415, e415, W415, st415⟩ := stC X411 hx hZ e411 Ar415 (j := (2 : Int32)) hin415 (g := (mkF m 204 #[.val (.int p0), .val (.int p1), .val (.int p2), .val (.int p3), .val (.int 0), .val (.int kd), .val (.int dc), .val (.int ec), .unset, .unset, .unset] [(.int 113), (.int 2), (.ref b404), (.ref b404)])) rfl rfl (hb hby at_204)
          obtain ⟨clv417, Arv417, -⟩ := id V411
          have CH416 := CH412.trans (CHr.wr W415 (Safe.arr hZ.alike Arv417 (by decide)) CH412.1)
          have Z418 : n0 ≤ h415.size := Nat.le_trans Z414 (Nat.le_of_eq W415.size.symm)
          have Z418h : h0.size ≤ h415.size := Nat.le_trans Z414h (Nat.le_of_eq W415.size.symm)
          have V415 : Arv Z h415 b404 k404 .char (7 : Int32) [(.int 45), (.int 45), (.int 113), (.int 0), (.int 0), (.int 0), (.int 0)] (.int 0) := Arv.set Ar415 q415 S415 M415 H415 G415 (fits_nar_char _) W415 2 rfl (Nat.le_of_ble_eq_true rfl)
          obtain ⟨lc415, X415, N415⟩ := own_pack1 X415 N411 g_b404
          refine own_thrH (a := T415.setTop (mkF m 205 #[.val (.int p0), .val (.int p1), .val (.int p2), .val (.int p3), .val (.int 0), .val (.int kd), .val (.int dc), .val (.int ec), .unset, .unset, .unset] [(.ref b404)])) (fun t kt => st415 t kt) ?_
          refine own_thrH (a := T415.setTop (mkF m 209 #[.val (.int p0), .val (.int p1), .val (.int p2), .val (.int p3), .val (.int 0), .val (.int kd), .val (.int dc), .val (.int ec), .unset, .unset, .unset] [(.int 117), (.int 3), (.ref b404), (.ref b404)])) (fun t kt => ?_) ?_
          · refine XS.dup X415.here hx rfl (hb hby at_205) rfl rfl ?_
            refine XS.iconst X415.here hx rfl (hb hby at_206) ?_
            refine XS.bipush X415.here hx rfl (hb hby at_207) ?_
            exact kt
          obtain ⟨cl419, Ar419, q419, S419, M419, H419, G419⟩ := id V415
          have hin419 : ¬ ((3 : Int32) < 0 ∨ cl419.slots.size ≤ ((3 : Int32)).toNatClampNeg) := inb_of S419 ⟨by decide, by decide⟩
          obtain ⟨T419, h419, X419, e419, W419, st419⟩ := stC X415 hx hZ e415 Ar419 (j := (3 : Int32)) hin419 (g := (mkF m 209 #[.val (.int p0), .val (.int p1), .val (.int p2), .val (.int p3), .val (.int 0), .val (.int kd), .val (.int dc), .val (.int ec), .unset, .unset, .unset] [(.int 117), (.int 3), (.ref b404), (.ref b404)])) rfl rfl (hb hby at_209)
          obtain ⟨clv421, Arv421, -⟩ := id V415
          have CH420 := CH416.trans (CHr.wr W419 (Safe.arr hZ.alike Arv421 (by decide)) CH416.1)
          have Z422 : n0 ≤ h419.size := Nat.le_trans Z418 (Nat.le_of_eq W419.size.symm)
          have Z422h : h0.size ≤ h419.size := Nat.le_trans Z418h (Nat.le_of_eq W419.size.symm)
          have V419 : Arv Z h419 b404 k404 .char (7 : Int32) [(.int 45), (.int 45), (.int 113), (.int 117), (.int 0), (.int 0), (.int 0)] (.int 0) := Arv.set Ar419 q419 S419 M419 H419 G419 (fits_nar_char _) W419 3 rfl (Nat.le_of_ble_eq_true rfl)
          obtain ⟨lc419, X419, N419⟩ := own_pack1 X419 N415 g_b404
          refine own_thrH (a := T419.setTop (mkF m 210 #[.val (.int p0), .val (.int p1), .val (.int p2), .val (.int p3), .val (.int 0), .val (.int kd), .val (.int dc), .val (.int ec), .unset, .unset, .unset] [(.ref b404)])) (fun t kt => st419 t kt) ?_
          refine own_thrH (a := T419.setTop (mkF m 214 #[.val (.int p0), .val (.int p1), .val (.int p2), .val (.int p3), .val (.int 0), .val (.int kd), .val (.int dc), .val (.int ec), .unset, .unset, .unset] [(.int 101), (.int 4), (.ref b404), (.ref b404)])) (fun t kt => ?_) ?_
          · refine XS.dup X419.here hx rfl (hb hby at_210) rfl rfl ?_
            refine XS.iconst X419.here hx rfl (hb hby at_211) ?_
            refine XS.bipush X419.here hx rfl (hb hby at_212) ?_
            exact kt
          obtain ⟨cl423, Ar423, q423, S423, M423, H423, G423⟩ := id V419
          have hin423 : ¬ ((4 : Int32) < 0 ∨ cl423.slots.size ≤ ((4 : Int32)).toNatClampNeg) := inb_of S423 ⟨by decide, by decide⟩
          obtain ⟨T423, h423, X423, e423, W423, st423⟩ := stC X419 hx hZ e419 Ar423 (j := (4 : Int32)) hin423 (g := (mkF m 214 #[.val (.int p0), .val (.int p1), .val (.int p2), .val (.int p3), .val (.int 0), .val (.int kd), .val (.int dc), .val (.int ec), .unset, .unset, .unset] [(.int 101), (.int 4), (.ref b404), (.ref b404)])) rfl rfl (hb hby at_214)
          obtain ⟨clv425, Arv425, -⟩ := id V419
          have CH424 := CH420.trans (CHr.wr W423 (Safe.arr hZ.alike Arv425 (by decide)) CH420.1)
          have Z426 : n0 ≤ h423.size := Nat.le_trans Z422 (Nat.le_of_eq W423.size.symm)
          have Z426h : h0.size ≤ h423.size := Nat.le_trans Z422h (Nat.le_of_eq W423.size.symm)
          have V423 : Arv Z h423 b404 k404 .char (7 : Int32) [(.int 45), (.int 45), (.int 113), (.int 117), (.int 101), (.int 0), (.int 0)] (.int 0) := Arv.set Ar423 q423 S423 M423 H423 G423 (fits_nar_char _) W423 4 rfl (Nat.le_of_ble_eq_true rfl)
          obtain ⟨lc423, X423, N423⟩ := own_pack1 X423 N419 g_b404
          refine own_thrH (a := T423.setTop (mkF m 215 #[.val (.int p0), .val (.int p1), .val (.int p2), .val (.int p3), .val (.int 0), .val (.int kd), .val (.int dc), .val (.int ec), .unset, .unset, .unset] [(.ref b404)])) (fun t kt => st423 t kt) ?_
          refine own_thrH (a := T423.setTop (mkF m 219 #[.val (.int p0), .val (.int p1), .val (.int p2), .val (.int p3), .val (.int 0), .val (.int kd), .val (.int dc), .val (.int ec), .unset, .unset, .unset] [(.int 117), (.int 5), (.ref b404), (.ref b404)])) (fun t kt => ?_) ?_
          · refine XS.dup X423.here hx rfl (hb hby at_215) rfl rfl ?_
            refine XS.iconst X423.here hx rfl (hb hby at_216) ?_
            refine XS.bipush X423.here hx rfl (hb hby at_217) ?_
            exact kt
          obtain ⟨cl427, Ar427, q427, S427, M427, H427, G427⟩ := id V423
          have hin427 : ¬ ((5 : Int32) < 0 ∨ cl427.slots.size ≤ ((5 : Int32)).toNatClampNeg) := inb_of S427 ⟨by decide, by decide⟩
          obtain ⟨T427, h427, X427, e427, W427, st427⟩ := stC X423 hx hZ e423 Ar427 (j := (5 : Int32)) hin427 (g := (mkF m 219 #[.val (.int p0), .val (.int p1), .val (.int p2), .val (.int p3), .val (.int 0), .val (.int kd), .val (.int dc), .val (.int ec), .unset, .unset, .unset] [(.int 117), (.int 5), (.ref b404), (.ref b404)])) rfl rfl (hb hby at_219)
          obtain ⟨clv429, Arv429, -⟩ := id V423
          have CH428 := CH424.trans (CHr.wr W427 (Safe.arr hZ.alike Arv429 (by decide)) CH424.1)
          have Z430 : n0 ≤ h427.size := Nat.le_trans Z426 (Nat.le_of_eq W427.size.symm)
          have Z430h : h0.size ≤ h427.size := Nat.le_trans Z426h (Nat.le_of_eq W427.size.symm)
          have V427 : Arv Z h427 b404 k404 .char (7 : Int32) [(.int 45), (.int 45), (.int 113), (.int 117), (.int 101), (.int 117), (.int 0)] (.int 0) := Arv.set Ar427 q427 S427 M427 H427 G427 (fits_nar_char _) W427 5 rfl (Nat.le_of_ble_eq_true rfl)
          obtain ⟨lc427, X427, N427⟩ := own_pack1 X427 N423 g_b404
          refine own_thrH (a := T427.setTop (mkF m 220 #[.val (.int p0), .val (.int p1), .val (.int p2), .val (.int p3), .val (.int 0), .val (.int kd), .val (.int dc), .val (.int ec), .unset, .unset, .unset] [(.ref b404)])) (fun t kt => st427 t kt) ?_
          refine own_thrH (a := T427.setTop (mkF m 225 #[.val (.int p0), .val (.int p1), .val (.int p2), .val (.int p3), .val (.int 0), .val (.int kd), .val (.int dc), .val (.int ec), .unset, .unset, .unset] [(.int 101), (.int 6), (.ref b404), (.ref b404)])) (fun t kt => ?_) ?_
          · refine XS.dup X427.here hx rfl (hb hby at_220) rfl rfl ?_
            refine XS.bipush X427.here hx rfl (hb hby at_221) ?_
            refine XS.bipush X427.here hx rfl (hb hby at_223) ?_
            exact kt
          obtain ⟨cl431, Ar431, q431, S431, M431, H431, G431⟩ := id V427
          have hin431 : ¬ ((6 : Int32) < 0 ∨ cl431.slots.size ≤ ((6 : Int32)).toNatClampNeg) := inb_of S431 ⟨by decide, by decide⟩
          obtain ⟨T431, h431, X431, e431, W431, st431⟩ := stC X427 hx hZ e427 Ar431 (j := (6 : Int32)) hin431 (g := (mkF m 225 #[.val (.int p0), .val (.int p1), .val (.int p2), .val (.int p3), .val (.int 0), .val (.int kd), .val (.int dc), .val (.int ec), .unset, .unset, .unset] [(.int 101), (.int 6), (.ref b404), (.ref b404)])) rfl rfl (hb hby at_225)
          obtain ⟨clv433, Arv433, -⟩ := id V427
          have CH432 := CH428.trans (CHr.wr W431 (Safe.arr hZ.alike Arv433 (by decide)) CH428.1)
          have Z434 : n0 ≤ h431.size := Nat.le_trans Z430 (Nat.le_of_eq W431.size.symm)
          have Z434h : h0.size ≤ h431.size := Nat.le_trans Z430h (Nat.le_of_eq W431.size.symm)
          have V431 : Arv Z h431 b404 k404 .char (7 : Int32) [(.int 45), (.int 45), (.int 113), (.int 117), (.int 101), (.int 117), (.int 101)] (.int 0) := Arv.set Ar431 q431 S431 M431 H431 G431 (fits_nar_char _) W431 6 rfl (Nat.le_of_ble_eq_true rfl)
          obtain ⟨lc431, X431, N431⟩ := own_pack1 X431 N427 g_b404
          refine own_thrH (a := T431.setTop (mkF m 226 #[.val (.int p0), .val (.int p1), .val (.int p2), .val (.int p3), .val (.int 0), .val (.int kd), .val (.int dc), .val (.int ec), .unset, .unset, .unset] [(.ref b404)])) (fun t kt => st431 t kt) ?_
          refine own_thrH (a := T431.setTop (mkF m 230 #[.val (.int p0), .val (.int p1), .val (.int p2), .val (.int p3), .val (.int 0), .val (.int kd), .val (.int dc), .val (.int ec), .unset, .val (.ref b404), .unset] [(.ref b404)])) (fun t kt => ?_) ?_
          · refine XS.astore X431.here hx rfl (hb hby at_226) rfl rfl (l' := #[.val (.int p0), .val (.int p1), .val (.int p2), .val (.int p3), .val (.int 0), .val (.int kd), .val (.int dc), .val (.int ec), .unset, .val (.ref b404), .unset]) rfl ?_
            refine XS.aload X431.here hx rfl (hb hby at_228) rfl rfl ?_
            exact kt
          obtain ⟨cl435, Ar435, -, S435, M435, -, -⟩ := id V431
          refine own_thrH (a := T431.setTop (mkF m 244 #[.val (.int p0), .val (.int p1), .val (.int p2), .val (.int p3), .val (.int 0), .val (.int kd), .val (.int dc), .val (.int ec), .unset, .val (.ref b404), .val (.int 7)] [(.int dc), (.int ((p1 &&& (2147483647 : Int32)) % (7 : Int32))), (.ref b404)])) (fun t kt => ?_) ?_
          · refine X431.arraylength hx (by rw [e431]; exact Ar435.1) (State.isArrayOf_alike hZ.alike Ar435.2.1) (g := (mkF m 230 #[.val (.int p0), .val (.int p1), .val (.int p2), .val (.int p3), .val (.int 0), .val (.int kd), .val (.int dc), .val (.int ec), .unset, .val (.ref b404), .unset] [(.ref b404)])) rfl rfl (hb hby at_230) _ ?_
            rw [len_of S435 M435]
            refine XS.istore X431.here hx rfl (hb hby at_231) rfl (l' := #[.val (.int p0), .val (.int p1), .val (.int p2), .val (.int p3), .val (.int 0), .val (.int kd), .val (.int dc), .val (.int ec), .unset, .val (.ref b404), .val (.int 7)]) rfl ?_
            refine XS.aload X431.here hx rfl (hb hby at_233) rfl rfl ?_
            refine XS.iloadN X431.here hx rfl (hb hby at_235) rfl ?_
            refine X431.ldcInt hx hown (mvT hZ (hw _ (own_i 112 rfl))) (g := (mkF m 236 #[.val (.int p0), .val (.int p1), .val (.int p2), .val (.int p3), .val (.int 0), .val (.int kd), .val (.int dc), .val (.int ec), .unset, .val (.ref b404), .val (.int 7)] [(.int p1), (.ref b404)])) rfl (hb hby at_236) _ ?_
            refine XS.iand X431.here hx rfl (hb hby at_238) rfl ?_
            refine XS.iload X431.here hx rfl (hb hby at_239) rfl ?_
            refine iremM X431 hx rfl (hb hby at_241) rfl (by decide) ?_
            refine XS.iload X431.here hx rfl (hb hby at_242) rfl ?_
            exact kt
          obtain ⟨cl436, Ar436, q436, S436, M436, H436, G436⟩ := id V431
          have hin436 : ¬ (((p1 &&& (2147483647 : Int32)) % (7 : Int32)) < 0 ∨ cl436.slots.size ≤ (((p1 &&& (2147483647 : Int32)) % (7 : Int32))).toNatClampNeg) := inb_of S436 (own_rem _ (7 : Int32) (own_p1 _) (by decide)).1
          obtain ⟨T436, h436, X436, e436, W436, st436⟩ := stC X431 hx hZ e431 Ar436 (j := ((p1 &&& (2147483647 : Int32)) % (7 : Int32))) hin436 (g := (mkF m 244 #[.val (.int p0), .val (.int p1), .val (.int p2), .val (.int p3), .val (.int 0), .val (.int kd), .val (.int dc), .val (.int ec), .unset, .val (.ref b404), .val (.int 7)] [(.int dc), (.int ((p1 &&& (2147483647 : Int32)) % (7 : Int32))), (.ref b404)])) rfl rfl (hb hby at_244)
          obtain ⟨clv438, Arv438, -⟩ := id V431
          have CH437 := CH432.trans (CHr.wr W436 (Safe.arr hZ.alike Arv438 (by decide)) CH432.1)
          have Z439 : n0 ≤ h436.size := Nat.le_trans Z434 (Nat.le_of_eq W436.size.symm)
          have Z439h : h0.size ≤ h436.size := Nat.le_trans Z434h (Nat.le_of_eq W436.size.symm)
          have V436 : Arv Z h436 b404 k404 .char (7 : Int32) (([(.int 45), (.int 45), (.int 113), (.int 117), (.int 101), (.int 117), (.int 101)] : List Value).set (((p1 &&& (2147483647 : Int32)) % (7 : Int32))).toNatClampNeg (.int (dc.toUInt32.toUInt16.toUInt32.toInt32))) (.int 0) := Arv.set Ar436 q436 S436 M436 H436 G436 (fits_nar_char _) W436 (((p1 &&& (2147483647 : Int32)) % (7 : Int32))).toNatClampNeg rfl (own_rem _ (7 : Int32) (own_p1 _) (by decide)).2
          obtain ⟨lc436, X436, N436⟩ := own_pack1 X436 N431 g_b404
          refine own_thrH (a := T436.setTop (mkF m 245 #[.val (.int p0), .val (.int p1), .val (.int p2), .val (.int p3), .val (.int 0), .val (.int kd), .val (.int dc), .val (.int ec), .unset, .val (.ref b404), .val (.int 7)] [])) (fun t kt => st436 t kt) ?_
          obtain ⟨g440_0, g440_1, g440_2, g440_3, g440_4, g440_5, g440_6, eg440, lg440_0, lg440_1, lg440_2, lg440_3, lg440_4, lg440_5, lg440_6⟩ := own_set7 (45 : Int32) (45 : Int32) (113 : Int32) (117 : Int32) (101 : Int32) (117 : Int32) (101 : Int32) (dc.toUInt32.toUInt16.toUInt32.toInt32) (((p1 &&& (2147483647 : Int32)) % (7 : Int32))).toNatClampNeg ⟨by decide, by decide⟩ ⟨by decide, by decide⟩ ⟨by decide, by decide⟩ ⟨by decide, by decide⟩ ⟨by decide, by decide⟩ ⟨by decide, by decide⟩ ⟨by decide, by decide⟩ mdc
          have Vg440 := V436
          rw [eg440] at Vg440
          refine own_thrH (a := T436.setTop (mkF m 260 #[.val (.int p0), .val (.int p1), .val (.int p2), .val (.int p3), .val (.int 0), .val (.int kd), .val (.int dc), .val (.int ec), .unset, .val (.ref b404), .val (.int 7)] [(.int ec), (.int ((((p1.toUInt32 >>> ((16 : Int32) &&& 31).toUInt32).toInt32) &&& (32767 : Int32)) % (7 : Int32))), (.ref b404)])) (fun t kt => ?_) ?_
          · refine XS.aload X436.here hx rfl (hb hby at_245) rfl rfl ?_
            refine XS.iloadN X436.here hx rfl (hb hby at_247) rfl ?_
            refine XS.bipush X436.here hx rfl (hb hby at_248) ?_
            refine XS.iushr X436.here hx rfl (hb hby at_250) rfl ?_
            refine XS.sipush X436.here hx rfl (hb hby at_251) ?_
            refine XS.iand X436.here hx rfl (hb hby at_254) rfl ?_
            refine XS.iload X436.here hx rfl (hb hby at_255) rfl ?_
            refine iremM X436 hx rfl (hb hby at_257) rfl (by decide) ?_
            refine XS.iload X436.here hx rfl (hb hby at_258) rfl ?_
            exact kt
          obtain ⟨cl441, Ar441, q441, S441, M441, H441, G441⟩ := id Vg440
          have hin441 : ¬ (((((p1.toUInt32 >>> ((16 : Int32) &&& 31).toUInt32).toInt32) &&& (32767 : Int32)) % (7 : Int32)) < 0 ∨ cl441.slots.size ≤ (((((p1.toUInt32 >>> ((16 : Int32) &&& 31).toUInt32).toInt32) &&& (32767 : Int32)) % (7 : Int32))).toNatClampNeg) := inb_of S441 (own_rem _ (7 : Int32) (own_p2 _) (by decide)).1
          obtain ⟨T441, h441, X441, e441, W441, st441⟩ := stC X436 hx hZ e436 Ar441 (j := ((((p1.toUInt32 >>> ((16 : Int32) &&& 31).toUInt32).toInt32) &&& (32767 : Int32)) % (7 : Int32))) hin441 (g := (mkF m 260 #[.val (.int p0), .val (.int p1), .val (.int p2), .val (.int p3), .val (.int 0), .val (.int kd), .val (.int dc), .val (.int ec), .unset, .val (.ref b404), .val (.int 7)] [(.int ec), (.int ((((p1.toUInt32 >>> ((16 : Int32) &&& 31).toUInt32).toInt32) &&& (32767 : Int32)) % (7 : Int32))), (.ref b404)])) rfl rfl (hb hby at_260)
          obtain ⟨clv443, Arv443, -⟩ := id Vg440
          have CH442 := CH437.trans (CHr.wr W441 (Safe.arr hZ.alike Arv443 (by decide)) CH437.1)
          have Z444 : n0 ≤ h441.size := Nat.le_trans Z439 (Nat.le_of_eq W441.size.symm)
          have Z444h : h0.size ≤ h441.size := Nat.le_trans Z439h (Nat.le_of_eq W441.size.symm)
          have V441 : Arv Z h441 b404 k404 .char (7 : Int32) (([(.int g440_0), (.int g440_1), (.int g440_2), (.int g440_3), (.int g440_4), (.int g440_5), (.int g440_6)] : List Value).set (((((p1.toUInt32 >>> ((16 : Int32) &&& 31).toUInt32).toInt32) &&& (32767 : Int32)) % (7 : Int32))).toNatClampNeg (.int (ec.toUInt32.toUInt16.toUInt32.toInt32))) (.int 0) := Arv.set Ar441 q441 S441 M441 H441 G441 (fits_nar_char _) W441 (((((p1.toUInt32 >>> ((16 : Int32) &&& 31).toUInt32).toInt32) &&& (32767 : Int32)) % (7 : Int32))).toNatClampNeg rfl (own_rem _ (7 : Int32) (own_p2 _) (by decide)).2
          obtain ⟨lc441, X441, N441⟩ := own_pack1 X441 N436 g_b404
          refine own_thrH (a := T441.setTop (mkF m 261 #[.val (.int p0), .val (.int p1), .val (.int p2), .val (.int p3), .val (.int 0), .val (.int kd), .val (.int dc), .val (.int ec), .unset, .val (.ref b404), .val (.int 7)] [])) (fun t kt => st441 t kt) ?_
          obtain ⟨g445_0, g445_1, g445_2, g445_3, g445_4, g445_5, g445_6, eg445, lg445_0, lg445_1, lg445_2, lg445_3, lg445_4, lg445_5, lg445_6⟩ := own_set7 g440_0 g440_1 g440_2 g440_3 g440_4 g440_5 g440_6 (ec.toUInt32.toUInt16.toUInt32.toInt32) (((((p1.toUInt32 >>> ((16 : Int32) &&& 31).toUInt32).toInt32) &&& (32767 : Int32)) % (7 : Int32))).toNatClampNeg lg440_0 lg440_1 lg440_2 lg440_3 lg440_4 lg440_5 lg440_6 mec
          have Vg445 := V441
          rw [eg445] at Vg445
          have c447 := ((((((((((F_flu.ext E404).other W407 (Or.inl ne_ou_b404)).other W411 (Or.inl ne_ou_b404)).other W415 (Or.inl ne_ou_b404)).other W419 (Or.inl ne_ou_b404)).other W423 (Or.inl ne_ou_b404)).other W427 (Or.inl ne_ou_b404)).other W431 (Or.inl ne_ou_b404)).other W436 (Or.inl ne_ou_b404)).other W441 (Or.inl ne_ou_b404))
          have c448 := ((((((((((E_flu.ext E404).wr W407).wr W411).wr W415).wr W419).wr W423).wr W427).wr W431).wr W436).wr W441)
          have c449 := ((((((((((V_fvu.ext E404).other W407 ne_fvu_b404).other W411 ne_fvu_b404).other W415 ne_fvu_b404).other W419 ne_fvu_b404).other W423 ne_fvu_b404).other W427 ne_fvu_b404).other W431 ne_fvu_b404).other W436 ne_fvu_b404).other W441 ne_fvu_b404)
          have c450 := ((((((((((F_flq.ext E404).other W407 (Or.inl ne_oq_b404)).other W411 (Or.inl ne_oq_b404)).other W415 (Or.inl ne_oq_b404)).other W419 (Or.inl ne_oq_b404)).other W423 (Or.inl ne_oq_b404)).other W427 (Or.inl ne_oq_b404)).other W431 (Or.inl ne_oq_b404)).other W436 (Or.inl ne_oq_b404)).other W441 (Or.inl ne_oq_b404))
          have c451 := ((((((((((E_flq.ext E404).wr W407).wr W411).wr W415).wr W419).wr W423).wr W427).wr W431).wr W436).wr W441)
          have c452 := ((((((((((V_fvq.ext E404).other W407 ne_fvq_b404).other W411 ne_fvq_b404).other W415 ne_fvq_b404).other W419 ne_fvq_b404).other W423 ne_fvq_b404).other W427 ne_fvq_b404).other W431 ne_fvq_b404).other W436 ne_fvq_b404).other W441 ne_fvq_b404)
          have c453 := ((((((((((E_em.ext E404).wr W407).wr W411).wr W415).wr W419).wr W423).wr W427).wr W431).wr W436).wr W441)
          obtain ⟨T446, h446, X446, e446, E446, A446, D446, U446, st446⟩ := newO X441 hx hZ hown (hw _ (own_i 0 rfl)) (hw _ (own_i 1 rfl)) (hw _ (own_i 2 rfl)) e441 (g := (mkF m 261 #[.val (.int p0), .val (.int p1), .val (.int p2), .val (.int p3), .val (.int 0), .val (.int kd), .val (.int dc), .val (.int ec), .unset, .val (.ref b404), .val (.int 7)] [])) rfl (hb hby at_261) (by decide : 1 + 1 ≤ _) (by decide : 7 + 4 ≤ _)
          obtain ⟨b446, g446⟩ : ∃ z, z = h441.size := ⟨_, rfl⟩
          rw [← g446] at A446 D446 st446 U446
          have g_b446 : n0 ≤ b446 := Nat.le_trans Z444 (Nat.le_of_eq g446.symm)
          have sz_b446 : h0.size ≤ b446 := Nat.le_trans Z444h (Nat.le_of_eq g446.symm)
          have lt_ou_b446 : ou < b446 := Nat.lt_of_lt_of_le c447.lt (Nat.le_of_eq g446.symm)
          have ne_ou_b446 : ou ≠ b446 := Nat.ne_of_lt lt_ou_b446
          have lt_flu_b446 : flu < b446 := Nat.lt_of_lt_of_le c448.lt (Nat.le_of_eq g446.symm)
          have ne_flu_b446 : flu ≠ b446 := Nat.ne_of_lt lt_flu_b446
          have lt_fvu_b446 : fvu < b446 := Nat.lt_of_lt_of_le c449.lt (Nat.le_of_eq g446.symm)
          have ne_fvu_b446 : fvu ≠ b446 := Nat.ne_of_lt lt_fvu_b446
          have lt_oq_b446 : oq < b446 := Nat.lt_of_lt_of_le c450.lt (Nat.le_of_eq g446.symm)
          have ne_oq_b446 : oq ≠ b446 := Nat.ne_of_lt lt_oq_b446
          have lt_flq_b446 : flq < b446 := Nat.lt_of_lt_of_le c451.lt (Nat.le_of_eq g446.symm)
          have ne_flq_b446 : flq ≠ b446 := Nat.ne_of_lt lt_flq_b446
          have lt_fvq_b446 : fvq < b446 := Nat.lt_of_lt_of_le c452.lt (Nat.le_of_eq g446.symm)
          have ne_fvq_b446 : fvq ≠ b446 := Nat.ne_of_lt lt_fvq_b446
          have lt_em_b446 : em < b446 := Nat.lt_of_lt_of_le c453.lt (Nat.le_of_eq g446.symm)
          have ne_em_b446 : em ≠ b446 := Nat.ne_of_lt lt_em_b446
          have lt_b404_b446 : b404 < b446 := Nat.lt_of_lt_of_le Vg445.lt (Nat.le_of_eq g446.symm)
          have ne_b404_b446 : b404 ≠ b446 := Nat.ne_of_lt lt_b404_b446
          have CH454 := CH442.trans (CHr.ext E446 CH442.1)
          have Z455 : n0 ≤ h446.size := Nat.le_trans Z444 E446.1
          have Z455h : h0.size ≤ h446.size := Nat.le_trans Z444h E446.1
          have F_coder_b446 : Fld Z h446 b446 "java/lang/String" "coder" "B" (.int 0) := D446 (Or.inr (hw _ (own_i 27 rfl))) (ty := .byte) (by decide)
          have F_value_b446 : Fld Z h446 b446 "java/lang/String" "value" "[B" .null := D446 (Or.inr (hw _ (own_i 29 rfl))) (ty := (.array .byte)) (by decide)
          refine own_thrH (a := T446.setTop (mkF m 264 #[.val (.int p0), .val (.int p1), .val (.int p2), .val (.int p3), .val (.int 0), .val (.int kd), .val (.int dc), .val (.int ec), .unset, .val (.ref b404), .val (.int 7)] [(.ref b446)])) (fun t kt => st446 t kt) ?_
          refine own_thrH (a := T446.setTop (mkF m 267 #[.val (.int p0), .val (.int p1), .val (.int p2), .val (.int p3), .val (.int 0), .val (.int kd), .val (.int dc), .val (.int ec), .unset, .val (.ref b404), .val (.int 7)] [(.ref b404), (.ref b446), (.ref b446)])) (fun t kt => ?_) ?_
          · refine XS.dup X446.here hx rfl (hb hby at_264) rfl rfl ?_
            refine XS.aload X446.here hx rfl (hb hby at_265) rfl rfl ?_
            exact kt
          have c457 := (((((((((((hO.ext E404).wr W407 g_b404).wr W411 g_b404).wr W415 g_b404).wr W419 g_b404).wr W423 g_b404).wr W427 g_b404).wr W431 g_b404).wr W436 g_b404).wr W441 g_b404).ext E446)
          obtain ⟨_, _, ⟨T456, L456, k456, n456⟩, -, X456, ⟨Lc456, hQ456, l456, y456, z456⟩, st456⟩ := X446.specialBack hx (y := (⟨"java/lang/String", "<init>", "([C)V"⟩ : MethodName)) rfl hown (mvT hZ (hw _ (own_i 4 rfl))) (mvT hZ (hw _ (own_i 5 rfl))) (mvT hZ (hw _ (own_i 6 rfl))) (by decide) (StrChars.Road.backV hZ (fun d hd => hw d (own_sw d hd)) (hw _ (own_i 1 rfl)) (x := b446) (b := b404) (cs := [g445_0, g445_1, g445_2, g445_3, g445_4, g445_5, g445_6]) (bs := [(g445_0.toInt8.toInt32), (g445_1.toInt8.toInt32), (g445_2.toInt8.toInt32), (g445_3.toInt8.toInt32), (g445_4.toInt8.toInt32), (g445_5.toInt8.toInt32), (g445_6.toInt8.toInt32)]) (n := 7) (W := 1) g_b446 Z455 A446 F_value_b446 F_coder_b446 (Vg445.ext E446) (S_cs.ext c457.2) hcs rfl rfl (by decide) (by decide) (own_fa lg445_0 (own_fa lg445_1 (own_fa lg445_2 (own_fa lg445_3 (own_fa lg445_4 (own_fa lg445_5 (own_fa lg445_6 own_f0))))))) rfl (by decide) (by decide)) (g := (mkF m 267 #[.val (.int p0), .val (.int p1), .val (.int p2), .val (.int p3), .val (.int 0), .val (.int kd), .val (.int dc), .val (.int ec), .unset, .val (.ref b404), .val (.int 7)] [(.ref b404), (.ref b446), (.ref b446)])) rfl (by rw [hml]; rfl) (Steps.refl _) (a := b446) (argsL := [(.ref b404)]) (rest := [(.ref b446)]) (lenOf pd__28_5bC_29V rfl) rfl (by show 2 * 0 + _ ≤ _; exact Nat.le_of_eq rfl) (hb hby at_267) (fun _ _ => ⟨rfl, e446, (by decide : 2 + 1 ≤ _), (by decide : 11 + 7 ≤ _)⟩)
          dsimp only [Pt.U, Pt.locs, Pt.cells, Pt.slots] at X456 l456 y456 z456 st456 hQ456
          obtain ⟨rfl, N456q, K456, o456_e, o456_c, sv456, ks456, -, -, -, o456_v, o456_A⟩ := hQ456
          have sf459 := own_safe (EL := own_EL) hZ.alike A446 F_value_b446
          have sf460 := Safe.keep K456 (allS sf459 all0) CH454.1 sf459
          have CH458 := CH454.trans (CHr.keep K456 (allS sf459 all0) CH454.1)
          have Z461 : n0 ≤ T456.heap.size := Nat.le_trans Z455 K456.1
          have Z461h : h0.size ≤ T456.heap.size := Nat.le_trans Z455h K456.1
          have o456_a : Arv Z T456.heap sv456 ks456 .byte (7 : Int32) [(.int (g445_0.toInt8.toInt32)), (.int (g445_1.toInt8.toInt32)), (.int (g445_2.toInt8.toInt32)), (.int (g445_3.toInt8.toInt32)), (.int (g445_4.toInt8.toInt32)), (.int (g445_5.toInt8.toInt32)), (.int (g445_6.toInt8.toInt32))] (.int 0) := o456_A
          obtain ⟨lc456, X456, N456⟩ := own_pack X456 l456 y456 z456 N441 N456q (C := 3) (S' := 18) rfl rfl
          refine own_thrH (a := T456.setTop (mkF m 270 #[.val (.int p0), .val (.int p1), .val (.int p2), .val (.int p3), .val (.int 0), .val (.int kd), .val (.int dc), .val (.int ec), .unset, .val (.ref b404), .val (.int 7)] [(.ref b446)])) (fun t kt => st456.trans kt) ?_
          refine own_thrH (a := T456.setTop (mkF m 510 #[.val (.int p0), .val (.int p1), .val (.int p2), .val (.int p3), .val (.int 0), .val (.int kd), .val (.int dc), .val (.int ec), .val (.ref b446), .val (.ref b404), .val (.int 7)] [])) (fun t kt => ?_) ?_
          · refine XS.astore X456.here hx rfl (hb hby at_270) rfl rfl (l' := #[.val (.int p0), .val (.int p1), .val (.int p2), .val (.int p3), .val (.int 0), .val (.int kd), .val (.int dc), .val (.int ec), .val (.ref b446), .val (.ref b404), .val (.int 7)]) rfl ?_
            refine XS.goto X456.here hx rfl (pc0 := 272) (pc' := 510) rfl (hb hby at_272) (by decide) (by decide) ?_
            exact kt
          by_cases hm : (g445_0.toInt8.toInt32) = (45 : Int32) ∧ (g445_1.toInt8.toInt32) = (45 : Int32) ∧ (g445_2.toInt8.toInt32) = (113 : Int32) ∧ (g445_3.toInt8.toInt32) = (117 : Int32) ∧ (g445_4.toInt8.toInt32) = (101 : Int32) ∧ (g445_5.toInt8.toInt32) = (117 : Int32) ∧ (g445_6.toInt8.toInt32) = (101 : Int32)
          · obtain ⟨hm0, hm1, hm2, hm3, hm4, hm5, hm6⟩ := id hm
            have V462 := o456_a
            rw [hm0, hm1, hm2, hm3, hm4, hm5, hm6] at V462
            have c463 := ((((((((((((F_fvu.ext E404).other W407 (Or.inl ne_flu_b404)).other W411 (Or.inl ne_flu_b404)).other W415 (Or.inl ne_flu_b404)).other W419 (Or.inl ne_flu_b404)).other W423 (Or.inl ne_flu_b404)).other W427 (Or.inl ne_flu_b404)).other W431 (Or.inl ne_flu_b404)).other W436 (Or.inl ne_flu_b404)).other W441 (Or.inl ne_flu_b404)).ext E446).keep K456 (ninS ne_flu_b446 nin0))
            have c464 := ((((((((((((F_fluc.ext E404).other W407 (Or.inl ne_flu_b404)).other W411 (Or.inl ne_flu_b404)).other W415 (Or.inl ne_flu_b404)).other W419 (Or.inl ne_flu_b404)).other W423 (Or.inl ne_flu_b404)).other W427 (Or.inl ne_flu_b404)).other W431 (Or.inl ne_flu_b404)).other W436 (Or.inl ne_flu_b404)).other W441 (Or.inl ne_flu_b404)).ext E446).keep K456 (ninS ne_flu_b446 nin0))
            have c465 := ((((((((((((F_fvq.ext E404).other W407 (Or.inl ne_flq_b404)).other W411 (Or.inl ne_flq_b404)).other W415 (Or.inl ne_flq_b404)).other W419 (Or.inl ne_flq_b404)).other W423 (Or.inl ne_flq_b404)).other W427 (Or.inl ne_flq_b404)).other W431 (Or.inl ne_flq_b404)).other W436 (Or.inl ne_flq_b404)).other W441 (Or.inl ne_flq_b404)).ext E446).keep K456 (ninS ne_flq_b446 nin0))
            have c466 := ((((((((((((F_flqc.ext E404).other W407 (Or.inl ne_flq_b404)).other W411 (Or.inl ne_flq_b404)).other W415 (Or.inl ne_flq_b404)).other W419 (Or.inl ne_flq_b404)).other W423 (Or.inl ne_flq_b404)).other W427 (Or.inl ne_flq_b404)).other W431 (Or.inl ne_flq_b404)).other W436 (Or.inl ne_flq_b404)).other W441 (Or.inl ne_flq_b404)).ext E446).keep K456 (ninS ne_flq_b446 nin0))
            have c467 := ((((((((((((F_em.ext E404).other W407 (Or.inl ne_em_b404)).other W411 (Or.inl ne_em_b404)).other W415 (Or.inl ne_em_b404)).other W419 (Or.inl ne_em_b404)).other W423 (Or.inl ne_em_b404)).other W427 (Or.inl ne_em_b404)).other W431 (Or.inl ne_em_b404)).other W436 (Or.inl ne_em_b404)).other W441 (Or.inl ne_em_b404)).ext E446).keep K456 (ninS ne_em_b446 nin0))
            exact own_tailQ p0 p1 p2 p3 va kv ou oq em flu fvu kfu flq fvq kfq cs hw hx hby hml hlk Bd.returns hh hEL hZ hown hS0 (Nat.zero_le _) CH458 Z461 Z461h _ _ _ _ b446 sv456 ks456 _ _ (Or.inr ⟨_, rfl, rfl⟩) (Or.inr ⟨_, rfl, rfl⟩) S_V V_va E_va hfit S_em S_cs hcs (c457.keep K456 (allS g_b446 all0)) ((c447.ext E446).keep K456 (ninS ne_ou_b446 nin0)) ((c448.ext E446).keep K456) c463 c464 ((c449.ext E446).keep K456 (ninS ne_fvu_b446 nin0)) ((c450.ext E446).keep K456 (ninS ne_oq_b446 nin0)) ((c451.ext E446).keep K456) c465 c466 ((c452.ext E446).keep K456 (ninS ne_fvq_b446 nin0)) S_ou S_oq ((c453.ext E446).keep K456) c467 o456_e o456_v o456_c V462 (by decide) (by decide) X456 N456 rfl
          · have c468 := ((((((((((((F_fvu.ext E404).other W407 (Or.inl ne_flu_b404)).other W411 (Or.inl ne_flu_b404)).other W415 (Or.inl ne_flu_b404)).other W419 (Or.inl ne_flu_b404)).other W423 (Or.inl ne_flu_b404)).other W427 (Or.inl ne_flu_b404)).other W431 (Or.inl ne_flu_b404)).other W436 (Or.inl ne_flu_b404)).other W441 (Or.inl ne_flu_b404)).ext E446).keep K456 (ninS ne_flu_b446 nin0))
            have c469 := ((((((((((((F_fluc.ext E404).other W407 (Or.inl ne_flu_b404)).other W411 (Or.inl ne_flu_b404)).other W415 (Or.inl ne_flu_b404)).other W419 (Or.inl ne_flu_b404)).other W423 (Or.inl ne_flu_b404)).other W427 (Or.inl ne_flu_b404)).other W431 (Or.inl ne_flu_b404)).other W436 (Or.inl ne_flu_b404)).other W441 (Or.inl ne_flu_b404)).ext E446).keep K456 (ninS ne_flu_b446 nin0))
            have c470 := ((((((((((((F_fvq.ext E404).other W407 (Or.inl ne_flq_b404)).other W411 (Or.inl ne_flq_b404)).other W415 (Or.inl ne_flq_b404)).other W419 (Or.inl ne_flq_b404)).other W423 (Or.inl ne_flq_b404)).other W427 (Or.inl ne_flq_b404)).other W431 (Or.inl ne_flq_b404)).other W436 (Or.inl ne_flq_b404)).other W441 (Or.inl ne_flq_b404)).ext E446).keep K456 (ninS ne_flq_b446 nin0))
            have c471 := ((((((((((((F_flqc.ext E404).other W407 (Or.inl ne_flq_b404)).other W411 (Or.inl ne_flq_b404)).other W415 (Or.inl ne_flq_b404)).other W419 (Or.inl ne_flq_b404)).other W423 (Or.inl ne_flq_b404)).other W427 (Or.inl ne_flq_b404)).other W431 (Or.inl ne_flq_b404)).other W436 (Or.inl ne_flq_b404)).other W441 (Or.inl ne_flq_b404)).ext E446).keep K456 (ninS ne_flq_b446 nin0))
            have c472 := ((((((((((((F_em.ext E404).other W407 (Or.inl ne_em_b404)).other W411 (Or.inl ne_em_b404)).other W415 (Or.inl ne_em_b404)).other W419 (Or.inl ne_em_b404)).other W423 (Or.inl ne_em_b404)).other W427 (Or.inl ne_em_b404)).other W431 (Or.inl ne_em_b404)).other W436 (Or.inl ne_em_b404)).other W441 (Or.inl ne_em_b404)).ext E446).keep K456 (ninS ne_em_b446 nin0))
            exact own_tailB p0 p1 p2 p3 va kv ou oq em flu fvu kfu flq fvq kfq cs hw hx hby hml hlk Bd.returns hh hEL hZ hown hS0 (Nat.zero_le _) CH458 Z461 Z461h _ _ _ _ b446 sv456 ks456 (g445_0.toInt8.toInt32) (g445_1.toInt8.toInt32) (g445_2.toInt8.toInt32) (g445_3.toInt8.toInt32) (g445_4.toInt8.toInt32) (g445_5.toInt8.toInt32) (g445_6.toInt8.toInt32) _ _ (Or.inr ⟨_, rfl, rfl⟩) (Or.inr ⟨_, rfl, rfl⟩) S_V V_va E_va hfit S_em S_cs hcs (c457.keep K456 (allS g_b446 all0)) ((c447.ext E446).keep K456 (ninS ne_ou_b446 nin0)) ((c448.ext E446).keep K456) c468 c469 ((c449.ext E446).keep K456 (ninS ne_fvu_b446 nin0)) ((c450.ext E446).keep K456 (ninS ne_oq_b446 nin0)) ((c451.ext E446).keep K456) c470 c471 ((c452.ext E446).keep K456 (ninS ne_fvq_b446 nin0)) S_ou S_oq ((c453.ext E446).keep K456) c472 o456_e o456_v o456_c o456_a hm (by decide) (by decide) X456 N456 rfl
        · refine own_thrH (a := s₁.setTop (mkF m 278 #[.val (.int p0), .val (.int p1), .val (.int p2), .val (.int p3), .val (.int 0), .val (.int kd), .val (.int dc), .val (.int ec), .unset, .unset, .unset] [(.int 2), (.int kd)])) (fun t kt => ?_) ?_
          · refine XS.icmpYes X0.here hx rfl (pc0 := 147) (pc' := 275) rfl (hb hby at_147) rfl (feq hc403).2 (by decide) (by decide) ?_
            refine XS.iload X0.here hx rfl (hb hby at_275) rfl ?_
            refine XS.iconst X0.here hx rfl (hb hby at_277) ?_
            exact kt
          by_cases hc473 : kd = (2 : Int32)
          · refine own_thrH (a := s₁.setTop (mkF m 330 #[.val (.int p0), .val (.int p1), .val (.int p2), .val (.int p3), .val (.int 0), .val (.int kd), .val (.int dc), .val (.int ec), .unset, .unset, .unset] [])) (fun t kt => ?_) ?_
            · refine XS.icmpNo X0.here hx rfl (hb hby at_278) rfl (teq hc473).2 ?_
              refine XS.iload X0.here hx rfl (hb hby at_281) rfl ?_
              refine XS.ifYes X0.here hx rfl (pc0 := 283) (pc' := 330) rfl (hb hby at_283) rfl ((if0 _ _).trans (teq rfl).1) (by decide) (by decide) ?_
              exact kt
            obtain ⟨T474, h474, X474, e474, E474, A474, D474, U474, st474⟩ := newO X0 hx hZ hown (hw _ (own_i 0 rfl)) (hw _ (own_i 1 rfl)) (hw _ (own_i 2 rfl)) e0 (g := (mkF m 330 #[.val (.int p0), .val (.int p1), .val (.int p2), .val (.int p3), .val (.int 0), .val (.int kd), .val (.int dc), .val (.int ec), .unset, .unset, .unset] [])) rfl (hb hby at_330) (by decide : 0 + 1 ≤ _) (by decide : 0 + 4 ≤ _)
            obtain ⟨b474, g474⟩ : ∃ z, z = h0.size := ⟨_, rfl⟩
            rw [← g474] at A474 D474 st474 U474
            have g_b474 : n0 ≤ b474 := Nat.le_trans Z0 (Nat.le_of_eq g474.symm)
            have sz_b474 : h0.size ≤ b474 := Nat.le_trans (Nat.le_refl h0.size) (Nat.le_of_eq g474.symm)
            have lt_ou_b474 : ou < b474 := Nat.lt_of_lt_of_le F_flu.lt (Nat.le_of_eq g474.symm)
            have ne_ou_b474 : ou ≠ b474 := Nat.ne_of_lt lt_ou_b474
            have lt_flu_b474 : flu < b474 := Nat.lt_of_lt_of_le E_flu.lt (Nat.le_of_eq g474.symm)
            have ne_flu_b474 : flu ≠ b474 := Nat.ne_of_lt lt_flu_b474
            have lt_fvu_b474 : fvu < b474 := Nat.lt_of_lt_of_le V_fvu.lt (Nat.le_of_eq g474.symm)
            have ne_fvu_b474 : fvu ≠ b474 := Nat.ne_of_lt lt_fvu_b474
            have lt_oq_b474 : oq < b474 := Nat.lt_of_lt_of_le F_flq.lt (Nat.le_of_eq g474.symm)
            have ne_oq_b474 : oq ≠ b474 := Nat.ne_of_lt lt_oq_b474
            have lt_flq_b474 : flq < b474 := Nat.lt_of_lt_of_le E_flq.lt (Nat.le_of_eq g474.symm)
            have ne_flq_b474 : flq ≠ b474 := Nat.ne_of_lt lt_flq_b474
            have lt_fvq_b474 : fvq < b474 := Nat.lt_of_lt_of_le V_fvq.lt (Nat.le_of_eq g474.symm)
            have ne_fvq_b474 : fvq ≠ b474 := Nat.ne_of_lt lt_fvq_b474
            have lt_em_b474 : em < b474 := Nat.lt_of_lt_of_le E_em.lt (Nat.le_of_eq g474.symm)
            have ne_em_b474 : em ≠ b474 := Nat.ne_of_lt lt_em_b474
            have CH475 := CH0.trans (CHr.ext E474 CH0.1)
            have Z476 : n0 ≤ h474.size := Nat.le_trans Z0 E474.1
            have Z476h : h0.size ≤ h474.size := Nat.le_trans (Nat.le_refl h0.size) E474.1
            have F_coder_b474 : Fld Z h474 b474 "java/lang/String" "coder" "B" (.int 0) := D474 (Or.inr (hw _ (own_i 27 rfl))) (ty := .byte) (by decide)
            have F_value_b474 : Fld Z h474 b474 "java/lang/String" "value" "[B" .null := D474 (Or.inr (hw _ (own_i 29 rfl))) (ty := (.array .byte)) (by decide)
            refine own_thrH (a := T474.setTop (mkF m 333 #[.val (.int p0), .val (.int p1), .val (.int p2), .val (.int p3), .val (.int 0), .val (.int kd), .val (.int dc), .val (.int ec), .unset, .unset, .unset] [(.ref b474)])) (fun t kt => st474 t kt) ?_
            refine own_thrH (a := T474.setTop (mkF m 336 #[.val (.int p0), .val (.int p1), .val (.int p2), .val (.int p3), .val (.int 0), .val (.int kd), .val (.int dc), .val (.int ec), .unset, .unset, .unset] [(.int 8), (.ref b474), (.ref b474)])) (fun t kt => ?_) ?_
            · refine XS.dup X474.here hx rfl (hb hby at_333) rfl rfl ?_
              refine XS.bipush X474.here hx rfl (hb hby at_334) ?_
              exact kt
            obtain ⟨T477, h477, k477, X477, e477, E477, A477, st477⟩ := newP X474 hx hZ (hw _ (own_i 3 rfl)) e474 (g := (mkF m 336 #[.val (.int p0), .val (.int p1), .val (.int p2), .val (.int p3), .val (.int 0), .val (.int kd), .val (.int dc), .val (.int ec), .unset, .unset, .unset] [(.int 8), (.ref b474), (.ref b474)])) rfl (hb hby at_336) rfl (by decide) (cap := 8) (by decide) (by decide) (by decide : 1 + 1 ≤ _) (by decide : 4 + 8 ≤ _)
            obtain ⟨b477, g477⟩ : ∃ z, z = h474.size := ⟨_, rfl⟩
            rw [← g477] at A477 st477
            have g_b477 : n0 ≤ b477 := Nat.le_trans Z476 (Nat.le_of_eq g477.symm)
            have sz_b477 : h0.size ≤ b477 := Nat.le_trans Z476h (Nat.le_of_eq g477.symm)
            have lt_ou_b477 : ou < b477 := Nat.lt_of_lt_of_le (F_flu.ext E474).lt (Nat.le_of_eq g477.symm)
            have ne_ou_b477 : ou ≠ b477 := Nat.ne_of_lt lt_ou_b477
            have lt_flu_b477 : flu < b477 := Nat.lt_of_lt_of_le (E_flu.ext E474).lt (Nat.le_of_eq g477.symm)
            have ne_flu_b477 : flu ≠ b477 := Nat.ne_of_lt lt_flu_b477
            have lt_fvu_b477 : fvu < b477 := Nat.lt_of_lt_of_le (V_fvu.ext E474).lt (Nat.le_of_eq g477.symm)
            have ne_fvu_b477 : fvu ≠ b477 := Nat.ne_of_lt lt_fvu_b477
            have lt_oq_b477 : oq < b477 := Nat.lt_of_lt_of_le (F_flq.ext E474).lt (Nat.le_of_eq g477.symm)
            have ne_oq_b477 : oq ≠ b477 := Nat.ne_of_lt lt_oq_b477
            have lt_flq_b477 : flq < b477 := Nat.lt_of_lt_of_le (E_flq.ext E474).lt (Nat.le_of_eq g477.symm)
            have ne_flq_b477 : flq ≠ b477 := Nat.ne_of_lt lt_flq_b477
            have lt_fvq_b477 : fvq < b477 := Nat.lt_of_lt_of_le (V_fvq.ext E474).lt (Nat.le_of_eq g477.symm)
            have ne_fvq_b477 : fvq ≠ b477 := Nat.ne_of_lt lt_fvq_b477
            have lt_em_b477 : em < b477 := Nat.lt_of_lt_of_le (E_em.ext E474).lt (Nat.le_of_eq g477.symm)
            have ne_em_b477 : em ≠ b477 := Nat.ne_of_lt lt_em_b477
            have lt_b474_b477 : b474 < b477 := Nat.lt_of_lt_of_le A474.lt (Nat.le_of_eq g477.symm)
            have ne_b474_b477 : b474 ≠ b477 := Nat.ne_of_lt lt_b474_b477
            have V_b477 : Arv Z h477 b477 k477 .char (8 : Int32) [(.int 0), (.int 0), (.int 0), (.int 0), (.int 0), (.int 0), (.int 0), (.int 0)] (.int 0) := (Arv.new A477 (by decide)).pad (pad_rep [] (.int 0) 8)
            have CH478 := CH475.trans (CHr.ext E477 CH475.1)
            have Z479 : n0 ≤ h477.size := Nat.le_trans Z476 E477.1
            have Z479h : h0.size ≤ h477.size := Nat.le_trans Z476h E477.1
            refine own_thrH (a := T477.setTop (mkF m 338 #[.val (.int p0), .val (.int p1), .val (.int p2), .val (.int p3), .val (.int 0), .val (.int kd), .val (.int dc), .val (.int ec), .unset, .unset, .unset] [(.ref b477), (.ref b474), (.ref b474)])) (fun t kt => st477 t kt) ?_
            refine own_thrH (a := T477.setTop (mkF m 342 #[.val (.int p0), .val (.int p1), .val (.int p2), .val (.int p3), .val (.int 0), .val (.int kd), .val (.int dc), .val (.int ec), .unset, .unset, .unset] [(.int 45), (.int 0), (.ref b477), (.ref b477), (.ref b474), (.ref b474)])) (fun t kt => ?_) ?_
            · refine XS.dup X477.here hx rfl (hb hby at_338) rfl rfl ?_
              refine XS.iconst X477.here hx rfl (hb hby at_339) ?_
              refine XS.bipush X477.here hx rfl (hb hby at_340) ?_
              exact kt
            obtain ⟨cl480, Ar480, q480, S480, M480, H480, G480⟩ := id V_b477
            have hin480 : ¬ ((0 : Int32) < 0 ∨ cl480.slots.size ≤ ((0 : Int32)).toNatClampNeg) := inb_of S480 ⟨by decide, by decide⟩
            obtain ⟨T480, h480, X480, e480, W480, st480⟩ := stC X477 hx hZ e477 Ar480 (j := (0 : Int32)) hin480 (g := (mkF m 342 #[.val (.int p0), .val (.int p1), .val (.int p2), .val (.int p3), .val (.int 0), .val (.int kd), .val (.int dc), .val (.int ec), .unset, .unset, .unset] [(.int 45), (.int 0), (.ref b477), (.ref b477), (.ref b474), (.ref b474)])) rfl rfl (hb hby at_342)
            obtain ⟨clv482, Arv482, -⟩ := id V_b477
            have CH481 := CH478.trans (CHr.wr W480 (Safe.arr hZ.alike Arv482 (by decide)) CH478.1)
            have Z483 : n0 ≤ h480.size := Nat.le_trans Z479 (Nat.le_of_eq W480.size.symm)
            have Z483h : h0.size ≤ h480.size := Nat.le_trans Z479h (Nat.le_of_eq W480.size.symm)
            have V480 : Arv Z h480 b477 k477 .char (8 : Int32) [(.int 45), (.int 0), (.int 0), (.int 0), (.int 0), (.int 0), (.int 0), (.int 0)] (.int 0) := Arv.set Ar480 q480 S480 M480 H480 G480 (fits_nar_char _) W480 0 rfl (Nat.le_of_ble_eq_true rfl)
            obtain ⟨lc480, X480, N480⟩ := own_pack1 X480 N0 g_b477
            refine own_thrH (a := T480.setTop (mkF m 343 #[.val (.int p0), .val (.int p1), .val (.int p2), .val (.int p3), .val (.int 0), .val (.int kd), .val (.int dc), .val (.int ec), .unset, .unset, .unset] [(.ref b477), (.ref b474), (.ref b474)])) (fun t kt => st480 t kt) ?_
            refine own_thrH (a := T480.setTop (mkF m 347 #[.val (.int p0), .val (.int p1), .val (.int p2), .val (.int p3), .val (.int 0), .val (.int kd), .val (.int dc), .val (.int ec), .unset, .unset, .unset] [(.int 45), (.int 1), (.ref b477), (.ref b477), (.ref b474), (.ref b474)])) (fun t kt => ?_) ?_
            · refine XS.dup X480.here hx rfl (hb hby at_343) rfl rfl ?_
              refine XS.iconst X480.here hx rfl (hb hby at_344) ?_
              refine XS.bipush X480.here hx rfl (hb hby at_345) ?_
              exact kt
            obtain ⟨cl484, Ar484, q484, S484, M484, H484, G484⟩ := id V480
            have hin484 : ¬ ((1 : Int32) < 0 ∨ cl484.slots.size ≤ ((1 : Int32)).toNatClampNeg) := inb_of S484 ⟨by decide, by decide⟩
            obtain ⟨T484, h484, X484, e484, W484, st484⟩ := stC X480 hx hZ e480 Ar484 (j := (1 : Int32)) hin484 (g := (mkF m 347 #[.val (.int p0), .val (.int p1), .val (.int p2), .val (.int p3), .val (.int 0), .val (.int kd), .val (.int dc), .val (.int ec), .unset, .unset, .unset] [(.int 45), (.int 1), (.ref b477), (.ref b477), (.ref b474), (.ref b474)])) rfl rfl (hb hby at_347)
            obtain ⟨clv486, Arv486, -⟩ := id V480
            have CH485 := CH481.trans (CHr.wr W484 (Safe.arr hZ.alike Arv486 (by decide)) CH481.1)
            have Z487 : n0 ≤ h484.size := Nat.le_trans Z483 (Nat.le_of_eq W484.size.symm)
            have Z487h : h0.size ≤ h484.size := Nat.le_trans Z483h (Nat.le_of_eq W484.size.symm)
            have V484 : Arv Z h484 b477 k477 .char (8 : Int32) [(.int 45), (.int 45), (.int 0), (.int 0), (.int 0), (.int 0), (.int 0), (.int 0)] (.int 0) := Arv.set Ar484 q484 S484 M484 H484 G484 (fits_nar_char _) W484 1 rfl (Nat.le_of_ble_eq_true rfl)
            obtain ⟨lc484, X484, N484⟩ := own_pack1 X484 N480 g_b477
            refine own_thrH (a := T484.setTop (mkF m 348 #[.val (.int p0), .val (.int p1), .val (.int p2), .val (.int p3), .val (.int 0), .val (.int kd), .val (.int dc), .val (.int ec), .unset, .unset, .unset] [(.ref b477), (.ref b474), (.ref b474)])) (fun t kt => st484 t kt) ?_
            refine own_thrH (a := T484.setTop (mkF m 352 #[.val (.int p0), .val (.int p1), .val (.int p2), .val (.int p3), .val (.int 0), .val (.int kd), .val (.int dc), .val (.int ec), .unset, .unset, .unset] [(.int 113), (.int 2), (.ref b477), (.ref b477), (.ref b474), (.ref b474)])) (fun t kt => ?_) ?_
            · refine XS.dup X484.here hx rfl (hb hby at_348) rfl rfl ?_
              refine XS.iconst X484.here hx rfl (hb hby at_349) ?_
              refine XS.bipush X484.here hx rfl (hb hby at_350) ?_
              exact kt
            obtain ⟨cl488, Ar488, q488, S488, M488, H488, G488⟩ := id V484
            have hin488 : ¬ ((2 : Int32) < 0 ∨ cl488.slots.size ≤ ((2 : Int32)).toNatClampNeg) := inb_of S488 ⟨by decide, by decide⟩
            obtain ⟨T488, h488, X488, e488, W488, st488⟩ := stC X484 hx hZ e484 Ar488 (j := (2 : Int32)) hin488 (g := (mkF m 352 #[.val (.int p0), .val (.int p1), .val (.int p2), .val (.int p3), .val (.int 0), .val (.int kd), .val (.int dc), .val (.int ec), .unset, .unset, .unset] [(.int 113), (.int 2), (.ref b477), (.ref b477), (.ref b474), (.ref b474)])) rfl rfl (hb hby at_352)
            obtain ⟨clv490, Arv490, -⟩ := id V484
            have CH489 := CH485.trans (CHr.wr W488 (Safe.arr hZ.alike Arv490 (by decide)) CH485.1)
            have Z491 : n0 ≤ h488.size := Nat.le_trans Z487 (Nat.le_of_eq W488.size.symm)
            have Z491h : h0.size ≤ h488.size := Nat.le_trans Z487h (Nat.le_of_eq W488.size.symm)
            have V488 : Arv Z h488 b477 k477 .char (8 : Int32) [(.int 45), (.int 45), (.int 113), (.int 0), (.int 0), (.int 0), (.int 0), (.int 0)] (.int 0) := Arv.set Ar488 q488 S488 M488 H488 G488 (fits_nar_char _) W488 2 rfl (Nat.le_of_ble_eq_true rfl)
            obtain ⟨lc488, X488, N488⟩ := own_pack1 X488 N484 g_b477
            refine own_thrH (a := T488.setTop (mkF m 353 #[.val (.int p0), .val (.int p1), .val (.int p2), .val (.int p3), .val (.int 0), .val (.int kd), .val (.int dc), .val (.int ec), .unset, .unset, .unset] [(.ref b477), (.ref b474), (.ref b474)])) (fun t kt => st488 t kt) ?_
            refine own_thrH (a := T488.setTop (mkF m 357 #[.val (.int p0), .val (.int p1), .val (.int p2), .val (.int p3), .val (.int 0), .val (.int kd), .val (.int dc), .val (.int ec), .unset, .unset, .unset] [(.int 117), (.int 3), (.ref b477), (.ref b477), (.ref b474), (.ref b474)])) (fun t kt => ?_) ?_
            · refine XS.dup X488.here hx rfl (hb hby at_353) rfl rfl ?_
              refine XS.iconst X488.here hx rfl (hb hby at_354) ?_
              refine XS.bipush X488.here hx rfl (hb hby at_355) ?_
              exact kt
            obtain ⟨cl492, Ar492, q492, S492, M492, H492, G492⟩ := id V488
            have hin492 : ¬ ((3 : Int32) < 0 ∨ cl492.slots.size ≤ ((3 : Int32)).toNatClampNeg) := inb_of S492 ⟨by decide, by decide⟩
            obtain ⟨T492, h492, X492, e492, W492, st492⟩ := stC X488 hx hZ e488 Ar492 (j := (3 : Int32)) hin492 (g := (mkF m 357 #[.val (.int p0), .val (.int p1), .val (.int p2), .val (.int p3), .val (.int 0), .val (.int kd), .val (.int dc), .val (.int ec), .unset, .unset, .unset] [(.int 117), (.int 3), (.ref b477), (.ref b477), (.ref b474), (.ref b474)])) rfl rfl (hb hby at_357)
            obtain ⟨clv494, Arv494, -⟩ := id V488
            have CH493 := CH489.trans (CHr.wr W492 (Safe.arr hZ.alike Arv494 (by decide)) CH489.1)
            have Z495 : n0 ≤ h492.size := Nat.le_trans Z491 (Nat.le_of_eq W492.size.symm)
            have Z495h : h0.size ≤ h492.size := Nat.le_trans Z491h (Nat.le_of_eq W492.size.symm)
            have V492 : Arv Z h492 b477 k477 .char (8 : Int32) [(.int 45), (.int 45), (.int 113), (.int 117), (.int 0), (.int 0), (.int 0), (.int 0)] (.int 0) := Arv.set Ar492 q492 S492 M492 H492 G492 (fits_nar_char _) W492 3 rfl (Nat.le_of_ble_eq_true rfl)
            obtain ⟨lc492, X492, N492⟩ := own_pack1 X492 N488 g_b477
            refine own_thrH (a := T492.setTop (mkF m 358 #[.val (.int p0), .val (.int p1), .val (.int p2), .val (.int p3), .val (.int 0), .val (.int kd), .val (.int dc), .val (.int ec), .unset, .unset, .unset] [(.ref b477), (.ref b474), (.ref b474)])) (fun t kt => st492 t kt) ?_
            refine own_thrH (a := T492.setTop (mkF m 362 #[.val (.int p0), .val (.int p1), .val (.int p2), .val (.int p3), .val (.int 0), .val (.int kd), .val (.int dc), .val (.int ec), .unset, .unset, .unset] [(.int 101), (.int 4), (.ref b477), (.ref b477), (.ref b474), (.ref b474)])) (fun t kt => ?_) ?_
            · refine XS.dup X492.here hx rfl (hb hby at_358) rfl rfl ?_
              refine XS.iconst X492.here hx rfl (hb hby at_359) ?_
              refine XS.bipush X492.here hx rfl (hb hby at_360) ?_
              exact kt
            obtain ⟨cl496, Ar496, q496, S496, M496, H496, G496⟩ := id V492
            have hin496 : ¬ ((4 : Int32) < 0 ∨ cl496.slots.size ≤ ((4 : Int32)).toNatClampNeg) := inb_of S496 ⟨by decide, by decide⟩
            obtain ⟨T496, h496, X496, e496, W496, st496⟩ := stC X492 hx hZ e492 Ar496 (j := (4 : Int32)) hin496 (g := (mkF m 362 #[.val (.int p0), .val (.int p1), .val (.int p2), .val (.int p3), .val (.int 0), .val (.int kd), .val (.int dc), .val (.int ec), .unset, .unset, .unset] [(.int 101), (.int 4), (.ref b477), (.ref b477), (.ref b474), (.ref b474)])) rfl rfl (hb hby at_362)
            obtain ⟨clv498, Arv498, -⟩ := id V492
            have CH497 := CH493.trans (CHr.wr W496 (Safe.arr hZ.alike Arv498 (by decide)) CH493.1)
            have Z499 : n0 ≤ h496.size := Nat.le_trans Z495 (Nat.le_of_eq W496.size.symm)
            have Z499h : h0.size ≤ h496.size := Nat.le_trans Z495h (Nat.le_of_eq W496.size.symm)
            have V496 : Arv Z h496 b477 k477 .char (8 : Int32) [(.int 45), (.int 45), (.int 113), (.int 117), (.int 101), (.int 0), (.int 0), (.int 0)] (.int 0) := Arv.set Ar496 q496 S496 M496 H496 G496 (fits_nar_char _) W496 4 rfl (Nat.le_of_ble_eq_true rfl)
            obtain ⟨lc496, X496, N496⟩ := own_pack1 X496 N492 g_b477
            refine own_thrH (a := T496.setTop (mkF m 363 #[.val (.int p0), .val (.int p1), .val (.int p2), .val (.int p3), .val (.int 0), .val (.int kd), .val (.int dc), .val (.int ec), .unset, .unset, .unset] [(.ref b477), (.ref b474), (.ref b474)])) (fun t kt => st496 t kt) ?_
            refine own_thrH (a := T496.setTop (mkF m 367 #[.val (.int p0), .val (.int p1), .val (.int p2), .val (.int p3), .val (.int 0), .val (.int kd), .val (.int dc), .val (.int ec), .unset, .unset, .unset] [(.int 117), (.int 5), (.ref b477), (.ref b477), (.ref b474), (.ref b474)])) (fun t kt => ?_) ?_
            · refine XS.dup X496.here hx rfl (hb hby at_363) rfl rfl ?_
              refine XS.iconst X496.here hx rfl (hb hby at_364) ?_
              refine XS.bipush X496.here hx rfl (hb hby at_365) ?_
              exact kt
            obtain ⟨cl500, Ar500, q500, S500, M500, H500, G500⟩ := id V496
            have hin500 : ¬ ((5 : Int32) < 0 ∨ cl500.slots.size ≤ ((5 : Int32)).toNatClampNeg) := inb_of S500 ⟨by decide, by decide⟩
            obtain ⟨T500, h500, X500, e500, W500, st500⟩ := stC X496 hx hZ e496 Ar500 (j := (5 : Int32)) hin500 (g := (mkF m 367 #[.val (.int p0), .val (.int p1), .val (.int p2), .val (.int p3), .val (.int 0), .val (.int kd), .val (.int dc), .val (.int ec), .unset, .unset, .unset] [(.int 117), (.int 5), (.ref b477), (.ref b477), (.ref b474), (.ref b474)])) rfl rfl (hb hby at_367)
            obtain ⟨clv502, Arv502, -⟩ := id V496
            have CH501 := CH497.trans (CHr.wr W500 (Safe.arr hZ.alike Arv502 (by decide)) CH497.1)
            have Z503 : n0 ≤ h500.size := Nat.le_trans Z499 (Nat.le_of_eq W500.size.symm)
            have Z503h : h0.size ≤ h500.size := Nat.le_trans Z499h (Nat.le_of_eq W500.size.symm)
            have V500 : Arv Z h500 b477 k477 .char (8 : Int32) [(.int 45), (.int 45), (.int 113), (.int 117), (.int 101), (.int 117), (.int 0), (.int 0)] (.int 0) := Arv.set Ar500 q500 S500 M500 H500 G500 (fits_nar_char _) W500 5 rfl (Nat.le_of_ble_eq_true rfl)
            obtain ⟨lc500, X500, N500⟩ := own_pack1 X500 N496 g_b477
            refine own_thrH (a := T500.setTop (mkF m 368 #[.val (.int p0), .val (.int p1), .val (.int p2), .val (.int p3), .val (.int 0), .val (.int kd), .val (.int dc), .val (.int ec), .unset, .unset, .unset] [(.ref b477), (.ref b474), (.ref b474)])) (fun t kt => st500 t kt) ?_
            refine own_thrH (a := T500.setTop (mkF m 373 #[.val (.int p0), .val (.int p1), .val (.int p2), .val (.int p3), .val (.int 0), .val (.int kd), .val (.int dc), .val (.int ec), .unset, .unset, .unset] [(.int 101), (.int 6), (.ref b477), (.ref b477), (.ref b474), (.ref b474)])) (fun t kt => ?_) ?_
            · refine XS.dup X500.here hx rfl (hb hby at_368) rfl rfl ?_
              refine XS.bipush X500.here hx rfl (hb hby at_369) ?_
              refine XS.bipush X500.here hx rfl (hb hby at_371) ?_
              exact kt
            obtain ⟨cl504, Ar504, q504, S504, M504, H504, G504⟩ := id V500
            have hin504 : ¬ ((6 : Int32) < 0 ∨ cl504.slots.size ≤ ((6 : Int32)).toNatClampNeg) := inb_of S504 ⟨by decide, by decide⟩
            obtain ⟨T504, h504, X504, e504, W504, st504⟩ := stC X500 hx hZ e500 Ar504 (j := (6 : Int32)) hin504 (g := (mkF m 373 #[.val (.int p0), .val (.int p1), .val (.int p2), .val (.int p3), .val (.int 0), .val (.int kd), .val (.int dc), .val (.int ec), .unset, .unset, .unset] [(.int 101), (.int 6), (.ref b477), (.ref b477), (.ref b474), (.ref b474)])) rfl rfl (hb hby at_373)
            obtain ⟨clv506, Arv506, -⟩ := id V500
            have CH505 := CH501.trans (CHr.wr W504 (Safe.arr hZ.alike Arv506 (by decide)) CH501.1)
            have Z507 : n0 ≤ h504.size := Nat.le_trans Z503 (Nat.le_of_eq W504.size.symm)
            have Z507h : h0.size ≤ h504.size := Nat.le_trans Z503h (Nat.le_of_eq W504.size.symm)
            have V504 : Arv Z h504 b477 k477 .char (8 : Int32) [(.int 45), (.int 45), (.int 113), (.int 117), (.int 101), (.int 117), (.int 101), (.int 0)] (.int 0) := Arv.set Ar504 q504 S504 M504 H504 G504 (fits_nar_char _) W504 6 rfl (Nat.le_of_ble_eq_true rfl)
            obtain ⟨lc504, X504, N504⟩ := own_pack1 X504 N500 g_b477
            refine own_thrH (a := T504.setTop (mkF m 374 #[.val (.int p0), .val (.int p1), .val (.int p2), .val (.int p3), .val (.int 0), .val (.int kd), .val (.int dc), .val (.int ec), .unset, .unset, .unset] [(.ref b477), (.ref b474), (.ref b474)])) (fun t kt => st504 t kt) ?_
            refine own_thrH (a := T504.setTop (mkF m 379 #[.val (.int p0), .val (.int p1), .val (.int p2), .val (.int p3), .val (.int 0), .val (.int kd), .val (.int dc), .val (.int ec), .unset, .unset, .unset] [(.int dc), (.int 7), (.ref b477), (.ref b477), (.ref b474), (.ref b474)])) (fun t kt => ?_) ?_
            · refine XS.dup X504.here hx rfl (hb hby at_374) rfl rfl ?_
              refine XS.bipush X504.here hx rfl (hb hby at_375) ?_
              refine XS.iload X504.here hx rfl (hb hby at_377) rfl ?_
              exact kt
            obtain ⟨cl508, Ar508, q508, S508, M508, H508, G508⟩ := id V504
            have hin508 : ¬ ((7 : Int32) < 0 ∨ cl508.slots.size ≤ ((7 : Int32)).toNatClampNeg) := inb_of S508 ⟨by decide, by decide⟩
            obtain ⟨T508, h508, X508, e508, W508, st508⟩ := stC X504 hx hZ e504 Ar508 (j := (7 : Int32)) hin508 (g := (mkF m 379 #[.val (.int p0), .val (.int p1), .val (.int p2), .val (.int p3), .val (.int 0), .val (.int kd), .val (.int dc), .val (.int ec), .unset, .unset, .unset] [(.int dc), (.int 7), (.ref b477), (.ref b477), (.ref b474), (.ref b474)])) rfl rfl (hb hby at_379)
            obtain ⟨clv510, Arv510, -⟩ := id V504
            have CH509 := CH505.trans (CHr.wr W508 (Safe.arr hZ.alike Arv510 (by decide)) CH505.1)
            have Z511 : n0 ≤ h508.size := Nat.le_trans Z507 (Nat.le_of_eq W508.size.symm)
            have Z511h : h0.size ≤ h508.size := Nat.le_trans Z507h (Nat.le_of_eq W508.size.symm)
            have V508 : Arv Z h508 b477 k477 .char (8 : Int32) [(.int 45), (.int 45), (.int 113), (.int 117), (.int 101), (.int 117), (.int 101), (.int (dc.toUInt32.toUInt16.toUInt32.toInt32))] (.int 0) := Arv.set Ar508 q508 S508 M508 H508 G508 (fits_nar_char _) W508 7 rfl (Nat.le_of_ble_eq_true rfl)
            obtain ⟨lc508, X508, N508⟩ := own_pack1 X508 N504 g_b477
            refine own_thrH (a := T508.setTop (mkF m 380 #[.val (.int p0), .val (.int p1), .val (.int p2), .val (.int p3), .val (.int 0), .val (.int kd), .val (.int dc), .val (.int ec), .unset, .unset, .unset] [(.ref b477), (.ref b474), (.ref b474)])) (fun t kt => st508 t kt) ?_
            have c513 := (((((((((A474.ext E477).wr W480).wr W484).wr W488).wr W492).wr W496).wr W500).wr W504).wr W508)
            have c514 := (((((((((F_value_b474.ext E477).other W480 (Or.inl ne_b474_b477)).other W484 (Or.inl ne_b474_b477)).other W488 (Or.inl ne_b474_b477)).other W492 (Or.inl ne_b474_b477)).other W496 (Or.inl ne_b474_b477)).other W500 (Or.inl ne_b474_b477)).other W504 (Or.inl ne_b474_b477)).other W508 (Or.inl ne_b474_b477))
            have c515 := (((((((((F_coder_b474.ext E477).other W480 (Or.inl ne_b474_b477)).other W484 (Or.inl ne_b474_b477)).other W488 (Or.inl ne_b474_b477)).other W492 (Or.inl ne_b474_b477)).other W496 (Or.inl ne_b474_b477)).other W500 (Or.inl ne_b474_b477)).other W504 (Or.inl ne_b474_b477)).other W508 (Or.inl ne_b474_b477))
            have c516 := ((((((((((hO.ext E474).ext E477).wr W480 g_b477).wr W484 g_b477).wr W488 g_b477).wr W492 g_b477).wr W496 g_b477).wr W500 g_b477).wr W504 g_b477).wr W508 g_b477)
            obtain ⟨_, _, ⟨T512, L512, k512, n512⟩, -, X512, ⟨Lc512, hQ512, l512, y512, z512⟩, st512⟩ := X508.specialBack hx (y := (⟨"java/lang/String", "<init>", "([C)V"⟩ : MethodName)) rfl hown (mvT hZ (hw _ (own_i 4 rfl))) (mvT hZ (hw _ (own_i 5 rfl))) (mvT hZ (hw _ (own_i 6 rfl))) (by decide) (StrChars.Road.backV hZ (fun d hd => hw d (own_sw d hd)) (hw _ (own_i 1 rfl)) (x := b474) (b := b477) (cs := [(45 : Int32), (45 : Int32), (113 : Int32), (117 : Int32), (101 : Int32), (117 : Int32), (101 : Int32), (dc.toUInt32.toUInt16.toUInt32.toInt32)]) (bs := [((45 : Int32).toInt8.toInt32), ((45 : Int32).toInt8.toInt32), ((113 : Int32).toInt8.toInt32), ((117 : Int32).toInt8.toInt32), ((101 : Int32).toInt8.toInt32), ((117 : Int32).toInt8.toInt32), ((101 : Int32).toInt8.toInt32), ((dc.toUInt32.toUInt16.toUInt32.toInt32).toInt8.toInt32)]) (n := 8) (W := 1) g_b474 Z511 c513 c514 c515 V508 (S_cs.ext c516.2) hcs rfl rfl (by decide) (by decide) (own_fa ⟨by decide, by decide⟩ (own_fa ⟨by decide, by decide⟩ (own_fa ⟨by decide, by decide⟩ (own_fa ⟨by decide, by decide⟩ (own_fa ⟨by decide, by decide⟩ (own_fa ⟨by decide, by decide⟩ (own_fa ⟨by decide, by decide⟩ (own_fa mdc own_f0)))))))) rfl (by decide) (by decide)) (g := (mkF m 380 #[.val (.int p0), .val (.int p1), .val (.int p2), .val (.int p3), .val (.int 0), .val (.int kd), .val (.int dc), .val (.int ec), .unset, .unset, .unset] [(.ref b477), (.ref b474), (.ref b474)])) rfl (by rw [hml]; rfl) (Steps.refl _) (a := b474) (argsL := [(.ref b477)]) (rest := [(.ref b474)]) (lenOf pd__28_5bC_29V rfl) rfl (by show 2 * 0 + _ ≤ _; exact Nat.le_of_eq rfl) (hb hby at_380) (fun _ _ => ⟨rfl, e508, (by decide : 2 + 1 ≤ _), (by decide : 12 + 8 ≤ _)⟩)
            dsimp only [Pt.U, Pt.locs, Pt.cells, Pt.slots] at X512 l512 y512 z512 st512 hQ512
            obtain ⟨rfl, N512q, K512, o512_e, o512_c, sv512, ks512, -, -, -, o512_v, o512_A⟩ := hQ512
            have sf518 := own_safe (EL := own_EL) hZ.alike c513 c514
            have sf519 := Safe.keep K512 (allS sf518 all0) CH509.1 sf518
            have CH517 := CH509.trans (CHr.keep K512 (allS sf518 all0) CH509.1)
            have Z520 : n0 ≤ T512.heap.size := Nat.le_trans Z511 K512.1
            have Z520h : h0.size ≤ T512.heap.size := Nat.le_trans Z511h K512.1
            have o512_a : Arv Z T512.heap sv512 ks512 .byte (8 : Int32) [(.int ((45 : Int32).toInt8.toInt32)), (.int ((45 : Int32).toInt8.toInt32)), (.int ((113 : Int32).toInt8.toInt32)), (.int ((117 : Int32).toInt8.toInt32)), (.int ((101 : Int32).toInt8.toInt32)), (.int ((117 : Int32).toInt8.toInt32)), (.int ((101 : Int32).toInt8.toInt32)), (.int ((dc.toUInt32.toUInt16.toUInt32.toInt32).toInt8.toInt32))] (.int 0) := o512_A
            obtain ⟨lc512, X512, N512⟩ := own_pack X512 l512 y512 z512 N508 N512q (C := 3) (S' := 20) rfl rfl
            refine own_thrH (a := T512.setTop (mkF m 383 #[.val (.int p0), .val (.int p1), .val (.int p2), .val (.int p3), .val (.int 0), .val (.int kd), .val (.int dc), .val (.int ec), .unset, .unset, .unset] [(.ref b474)])) (fun t kt => st512.trans kt) ?_
            refine own_thrH (a := T512.setTop (mkF m 510 #[.val (.int p0), .val (.int p1), .val (.int p2), .val (.int p3), .val (.int 0), .val (.int kd), .val (.int dc), .val (.int ec), .val (.ref b474), .unset, .unset] [])) (fun t kt => ?_) ?_
            · refine XS.astore X512.here hx rfl (hb hby at_383) rfl rfl (l' := #[.val (.int p0), .val (.int p1), .val (.int p2), .val (.int p3), .val (.int 0), .val (.int kd), .val (.int dc), .val (.int ec), .val (.ref b474), .unset, .unset]) rfl ?_
              refine XS.goto X512.here hx rfl (pc0 := 385) (pc' := 510) rfl (hb hby at_385) (by decide) (by decide) ?_
              exact kt
            have c521 := (((((((((((F_flu.ext E474).ext E477).other W480 (Or.inl ne_ou_b477)).other W484 (Or.inl ne_ou_b477)).other W488 (Or.inl ne_ou_b477)).other W492 (Or.inl ne_ou_b477)).other W496 (Or.inl ne_ou_b477)).other W500 (Or.inl ne_ou_b477)).other W504 (Or.inl ne_ou_b477)).other W508 (Or.inl ne_ou_b477)).keep K512 (ninS ne_ou_b474 nin0))
            have c522 := (((((((((((E_flu.ext E474).ext E477).wr W480).wr W484).wr W488).wr W492).wr W496).wr W500).wr W504).wr W508).keep K512)
            have c523 := (((((((((((F_fvu.ext E474).ext E477).other W480 (Or.inl ne_flu_b477)).other W484 (Or.inl ne_flu_b477)).other W488 (Or.inl ne_flu_b477)).other W492 (Or.inl ne_flu_b477)).other W496 (Or.inl ne_flu_b477)).other W500 (Or.inl ne_flu_b477)).other W504 (Or.inl ne_flu_b477)).other W508 (Or.inl ne_flu_b477)).keep K512 (ninS ne_flu_b474 nin0))
            have c524 := (((((((((((F_fluc.ext E474).ext E477).other W480 (Or.inl ne_flu_b477)).other W484 (Or.inl ne_flu_b477)).other W488 (Or.inl ne_flu_b477)).other W492 (Or.inl ne_flu_b477)).other W496 (Or.inl ne_flu_b477)).other W500 (Or.inl ne_flu_b477)).other W504 (Or.inl ne_flu_b477)).other W508 (Or.inl ne_flu_b477)).keep K512 (ninS ne_flu_b474 nin0))
            have c525 := (((((((((((V_fvu.ext E474).ext E477).other W480 ne_fvu_b477).other W484 ne_fvu_b477).other W488 ne_fvu_b477).other W492 ne_fvu_b477).other W496 ne_fvu_b477).other W500 ne_fvu_b477).other W504 ne_fvu_b477).other W508 ne_fvu_b477).keep K512 (ninS ne_fvu_b474 nin0))
            have c526 := (((((((((((F_flq.ext E474).ext E477).other W480 (Or.inl ne_oq_b477)).other W484 (Or.inl ne_oq_b477)).other W488 (Or.inl ne_oq_b477)).other W492 (Or.inl ne_oq_b477)).other W496 (Or.inl ne_oq_b477)).other W500 (Or.inl ne_oq_b477)).other W504 (Or.inl ne_oq_b477)).other W508 (Or.inl ne_oq_b477)).keep K512 (ninS ne_oq_b474 nin0))
            have c527 := (((((((((((E_flq.ext E474).ext E477).wr W480).wr W484).wr W488).wr W492).wr W496).wr W500).wr W504).wr W508).keep K512)
            have c528 := (((((((((((F_fvq.ext E474).ext E477).other W480 (Or.inl ne_flq_b477)).other W484 (Or.inl ne_flq_b477)).other W488 (Or.inl ne_flq_b477)).other W492 (Or.inl ne_flq_b477)).other W496 (Or.inl ne_flq_b477)).other W500 (Or.inl ne_flq_b477)).other W504 (Or.inl ne_flq_b477)).other W508 (Or.inl ne_flq_b477)).keep K512 (ninS ne_flq_b474 nin0))
            have c529 := (((((((((((F_flqc.ext E474).ext E477).other W480 (Or.inl ne_flq_b477)).other W484 (Or.inl ne_flq_b477)).other W488 (Or.inl ne_flq_b477)).other W492 (Or.inl ne_flq_b477)).other W496 (Or.inl ne_flq_b477)).other W500 (Or.inl ne_flq_b477)).other W504 (Or.inl ne_flq_b477)).other W508 (Or.inl ne_flq_b477)).keep K512 (ninS ne_flq_b474 nin0))
            have c530 := (((((((((((V_fvq.ext E474).ext E477).other W480 ne_fvq_b477).other W484 ne_fvq_b477).other W488 ne_fvq_b477).other W492 ne_fvq_b477).other W496 ne_fvq_b477).other W500 ne_fvq_b477).other W504 ne_fvq_b477).other W508 ne_fvq_b477).keep K512 (ninS ne_fvq_b474 nin0))
            have c531 := (((((((((((E_em.ext E474).ext E477).wr W480).wr W484).wr W488).wr W492).wr W496).wr W500).wr W504).wr W508).keep K512)
            have c532 := (((((((((((F_em.ext E474).ext E477).other W480 (Or.inl ne_em_b477)).other W484 (Or.inl ne_em_b477)).other W488 (Or.inl ne_em_b477)).other W492 (Or.inl ne_em_b477)).other W496 (Or.inl ne_em_b477)).other W500 (Or.inl ne_em_b477)).other W504 (Or.inl ne_em_b477)).other W508 (Or.inl ne_em_b477)).keep K512 (ninS ne_em_b474 nin0))
            exact own_tailD p0 p1 p2 p3 va kv ou oq em flu fvu kfu flq fvq kfq cs hw hx hby hml hlk Bd.returns hh hEL hZ hown hS0 (Nat.zero_le _) CH517 Z520 Z520h _ _ _ _ b474 sv512 ks512 (8 : Int32) [(.int ((45 : Int32).toInt8.toInt32)), (.int ((45 : Int32).toInt8.toInt32)), (.int ((113 : Int32).toInt8.toInt32)), (.int ((117 : Int32).toInt8.toInt32)), (.int ((101 : Int32).toInt8.toInt32)), (.int ((117 : Int32).toInt8.toInt32)), (.int ((101 : Int32).toInt8.toInt32)), (.int ((dc.toUInt32.toUInt16.toUInt32.toInt32).toInt8.toInt32))] _ _ (Or.inl rfl) (Or.inl rfl) S_V V_va E_va hfit S_em S_cs hcs (c516.keep K512 (allS g_b474 all0)) c521 c522 c523 c524 c525 c526 c527 c528 c529 c530 S_ou S_oq c531 c532 o512_e o512_v o512_c o512_a (by decide) (by decide) (by decide) (by decide) (by decide) (by decide) X512 N512 rfl
          · refine own_thrH (a := s₁.setTop (mkF m 391 #[.val (.int p0), .val (.int p1), .val (.int p2), .val (.int p3), .val (.int 0), .val (.int kd), .val (.int dc), .val (.int ec), .unset, .unset, .unset] [(.int 3), (.int kd)])) (fun t kt => ?_) ?_
            · refine XS.icmpYes X0.here hx rfl (pc0 := 278) (pc' := 388) rfl (hb hby at_278) rfl (feq hc473).2 (by decide) (by decide) ?_
              refine XS.iload X0.here hx rfl (hb hby at_388) rfl ?_
              refine XS.iconst X0.here hx rfl (hb hby at_390) ?_
              exact kt
            by_cases hc533 : kd = (3 : Int32)
            · refine own_thrH (a := s₁.setTop (mkF m 432 #[.val (.int p0), .val (.int p1), .val (.int p2), .val (.int p3), .val (.int 0), .val (.int kd), .val (.int dc), .val (.int ec), .unset, .unset, .unset] [])) (fun t kt => ?_) ?_
              · refine XS.icmpNo X0.here hx rfl (hb hby at_391) rfl (teq hc533).2 ?_
                refine XS.iload X0.here hx rfl (hb hby at_394) rfl ?_
                refine XS.ifYes X0.here hx rfl (pc0 := 396) (pc' := 432) rfl (hb hby at_396) rfl ((if0 _ _).trans (teq rfl).1) (by decide) (by decide) ?_
                exact kt
              obtain ⟨T534, h534, X534, e534, E534, A534, D534, U534, st534⟩ := newO X0 hx hZ hown (hw _ (own_i 0 rfl)) (hw _ (own_i 1 rfl)) (hw _ (own_i 2 rfl)) e0 (g := (mkF m 432 #[.val (.int p0), .val (.int p1), .val (.int p2), .val (.int p3), .val (.int 0), .val (.int kd), .val (.int dc), .val (.int ec), .unset, .unset, .unset] [])) rfl (hb hby at_432) (by decide : 0 + 1 ≤ _) (by decide : 0 + 4 ≤ _)
              obtain ⟨b534, g534⟩ : ∃ z, z = h0.size := ⟨_, rfl⟩
              rw [← g534] at A534 D534 st534 U534
              have g_b534 : n0 ≤ b534 := Nat.le_trans Z0 (Nat.le_of_eq g534.symm)
              have sz_b534 : h0.size ≤ b534 := Nat.le_trans (Nat.le_refl h0.size) (Nat.le_of_eq g534.symm)
              have lt_ou_b534 : ou < b534 := Nat.lt_of_lt_of_le F_flu.lt (Nat.le_of_eq g534.symm)
              have ne_ou_b534 : ou ≠ b534 := Nat.ne_of_lt lt_ou_b534
              have lt_flu_b534 : flu < b534 := Nat.lt_of_lt_of_le E_flu.lt (Nat.le_of_eq g534.symm)
              have ne_flu_b534 : flu ≠ b534 := Nat.ne_of_lt lt_flu_b534
              have lt_fvu_b534 : fvu < b534 := Nat.lt_of_lt_of_le V_fvu.lt (Nat.le_of_eq g534.symm)
              have ne_fvu_b534 : fvu ≠ b534 := Nat.ne_of_lt lt_fvu_b534
              have lt_oq_b534 : oq < b534 := Nat.lt_of_lt_of_le F_flq.lt (Nat.le_of_eq g534.symm)
              have ne_oq_b534 : oq ≠ b534 := Nat.ne_of_lt lt_oq_b534
              have lt_flq_b534 : flq < b534 := Nat.lt_of_lt_of_le E_flq.lt (Nat.le_of_eq g534.symm)
              have ne_flq_b534 : flq ≠ b534 := Nat.ne_of_lt lt_flq_b534
              have lt_fvq_b534 : fvq < b534 := Nat.lt_of_lt_of_le V_fvq.lt (Nat.le_of_eq g534.symm)
              have ne_fvq_b534 : fvq ≠ b534 := Nat.ne_of_lt lt_fvq_b534
              have lt_em_b534 : em < b534 := Nat.lt_of_lt_of_le E_em.lt (Nat.le_of_eq g534.symm)
              have ne_em_b534 : em ≠ b534 := Nat.ne_of_lt lt_em_b534
              have CH535 := CH0.trans (CHr.ext E534 CH0.1)
              have Z536 : n0 ≤ h534.size := Nat.le_trans Z0 E534.1
              have Z536h : h0.size ≤ h534.size := Nat.le_trans (Nat.le_refl h0.size) E534.1
              have F_coder_b534 : Fld Z h534 b534 "java/lang/String" "coder" "B" (.int 0) := D534 (Or.inr (hw _ (own_i 27 rfl))) (ty := .byte) (by decide)
              have F_value_b534 : Fld Z h534 b534 "java/lang/String" "value" "[B" .null := D534 (Or.inr (hw _ (own_i 29 rfl))) (ty := (.array .byte)) (by decide)
              refine own_thrH (a := T534.setTop (mkF m 435 #[.val (.int p0), .val (.int p1), .val (.int p2), .val (.int p3), .val (.int 0), .val (.int kd), .val (.int dc), .val (.int ec), .unset, .unset, .unset] [(.ref b534)])) (fun t kt => st534 t kt) ?_
              refine own_thrH (a := T534.setTop (mkF m 438 #[.val (.int p0), .val (.int p1), .val (.int p2), .val (.int p3), .val (.int 0), .val (.int kd), .val (.int dc), .val (.int ec), .unset, .unset, .unset] [(.int 6), (.ref b534), (.ref b534)])) (fun t kt => ?_) ?_
              · refine XS.dup X534.here hx rfl (hb hby at_435) rfl rfl ?_
                refine XS.bipush X534.here hx rfl (hb hby at_436) ?_
                exact kt
              obtain ⟨T537, h537, k537, X537, e537, E537, A537, st537⟩ := newP X534 hx hZ (hw _ (own_i 3 rfl)) e534 (g := (mkF m 438 #[.val (.int p0), .val (.int p1), .val (.int p2), .val (.int p3), .val (.int 0), .val (.int kd), .val (.int dc), .val (.int ec), .unset, .unset, .unset] [(.int 6), (.ref b534), (.ref b534)])) rfl (hb hby at_438) rfl (by decide) (cap := 6) (by decide) (by decide) (by decide : 1 + 1 ≤ _) (by decide : 4 + 6 ≤ _)
              obtain ⟨b537, g537⟩ : ∃ z, z = h534.size := ⟨_, rfl⟩
              rw [← g537] at A537 st537
              have g_b537 : n0 ≤ b537 := Nat.le_trans Z536 (Nat.le_of_eq g537.symm)
              have sz_b537 : h0.size ≤ b537 := Nat.le_trans Z536h (Nat.le_of_eq g537.symm)
              have lt_ou_b537 : ou < b537 := Nat.lt_of_lt_of_le (F_flu.ext E534).lt (Nat.le_of_eq g537.symm)
              have ne_ou_b537 : ou ≠ b537 := Nat.ne_of_lt lt_ou_b537
              have lt_flu_b537 : flu < b537 := Nat.lt_of_lt_of_le (E_flu.ext E534).lt (Nat.le_of_eq g537.symm)
              have ne_flu_b537 : flu ≠ b537 := Nat.ne_of_lt lt_flu_b537
              have lt_fvu_b537 : fvu < b537 := Nat.lt_of_lt_of_le (V_fvu.ext E534).lt (Nat.le_of_eq g537.symm)
              have ne_fvu_b537 : fvu ≠ b537 := Nat.ne_of_lt lt_fvu_b537
              have lt_oq_b537 : oq < b537 := Nat.lt_of_lt_of_le (F_flq.ext E534).lt (Nat.le_of_eq g537.symm)
              have ne_oq_b537 : oq ≠ b537 := Nat.ne_of_lt lt_oq_b537
              have lt_flq_b537 : flq < b537 := Nat.lt_of_lt_of_le (E_flq.ext E534).lt (Nat.le_of_eq g537.symm)
              have ne_flq_b537 : flq ≠ b537 := Nat.ne_of_lt lt_flq_b537
              have lt_fvq_b537 : fvq < b537 := Nat.lt_of_lt_of_le (V_fvq.ext E534).lt (Nat.le_of_eq g537.symm)
              have ne_fvq_b537 : fvq ≠ b537 := Nat.ne_of_lt lt_fvq_b537
              have lt_em_b537 : em < b537 := Nat.lt_of_lt_of_le (E_em.ext E534).lt (Nat.le_of_eq g537.symm)
              have ne_em_b537 : em ≠ b537 := Nat.ne_of_lt lt_em_b537
              have lt_b534_b537 : b534 < b537 := Nat.lt_of_lt_of_le A534.lt (Nat.le_of_eq g537.symm)
              have ne_b534_b537 : b534 ≠ b537 := Nat.ne_of_lt lt_b534_b537
              have V_b537 : Arv Z h537 b537 k537 .char (6 : Int32) [(.int 0), (.int 0), (.int 0), (.int 0), (.int 0), (.int 0)] (.int 0) := (Arv.new A537 (by decide)).pad (pad_rep [] (.int 0) 6)
              have CH538 := CH535.trans (CHr.ext E537 CH535.1)
              have Z539 : n0 ≤ h537.size := Nat.le_trans Z536 E537.1
              have Z539h : h0.size ≤ h537.size := Nat.le_trans Z536h E537.1
              refine own_thrH (a := T537.setTop (mkF m 440 #[.val (.int p0), .val (.int p1), .val (.int p2), .val (.int p3), .val (.int 0), .val (.int kd), .val (.int dc), .val (.int ec), .unset, .unset, .unset] [(.ref b537), (.ref b534), (.ref b534)])) (fun t kt => st537 t kt) ?_
              refine own_thrH (a := T537.setTop (mkF m 444 #[.val (.int p0), .val (.int p1), .val (.int p2), .val (.int p3), .val (.int 0), .val (.int kd), .val (.int dc), .val (.int ec), .unset, .unset, .unset] [(.int 45), (.int 0), (.ref b537), (.ref b537), (.ref b534), (.ref b534)])) (fun t kt => ?_) ?_
              · refine XS.dup X537.here hx rfl (hb hby at_440) rfl rfl ?_
                refine XS.iconst X537.here hx rfl (hb hby at_441) ?_
                refine XS.bipush X537.here hx rfl (hb hby at_442) ?_
                exact kt
              obtain ⟨cl540, Ar540, q540, S540, M540, H540, G540⟩ := id V_b537
              have hin540 : ¬ ((0 : Int32) < 0 ∨ cl540.slots.size ≤ ((0 : Int32)).toNatClampNeg) := inb_of S540 ⟨by decide, by decide⟩
              obtain ⟨T540, h540, X540, e540, W540, st540⟩ := stC X537 hx hZ e537 Ar540 (j := (0 : Int32)) hin540 (g := (mkF m 444 #[.val (.int p0), .val (.int p1), .val (.int p2), .val (.int p3), .val (.int 0), .val (.int kd), .val (.int dc), .val (.int ec), .unset, .unset, .unset] [(.int 45), (.int 0), (.ref b537), (.ref b537), (.ref b534), (.ref b534)])) rfl rfl (hb hby at_444)
              obtain ⟨clv542, Arv542, -⟩ := id V_b537
              have CH541 := CH538.trans (CHr.wr W540 (Safe.arr hZ.alike Arv542 (by decide)) CH538.1)
              have Z543 : n0 ≤ h540.size := Nat.le_trans Z539 (Nat.le_of_eq W540.size.symm)
              have Z543h : h0.size ≤ h540.size := Nat.le_trans Z539h (Nat.le_of_eq W540.size.symm)
              have V540 : Arv Z h540 b537 k537 .char (6 : Int32) [(.int 45), (.int 0), (.int 0), (.int 0), (.int 0), (.int 0)] (.int 0) := Arv.set Ar540 q540 S540 M540 H540 G540 (fits_nar_char _) W540 0 rfl (Nat.le_of_ble_eq_true rfl)
              obtain ⟨lc540, X540, N540⟩ := own_pack1 X540 N0 g_b537
              refine own_thrH (a := T540.setTop (mkF m 445 #[.val (.int p0), .val (.int p1), .val (.int p2), .val (.int p3), .val (.int 0), .val (.int kd), .val (.int dc), .val (.int ec), .unset, .unset, .unset] [(.ref b537), (.ref b534), (.ref b534)])) (fun t kt => st540 t kt) ?_
              refine own_thrH (a := T540.setTop (mkF m 449 #[.val (.int p0), .val (.int p1), .val (.int p2), .val (.int p3), .val (.int 0), .val (.int kd), .val (.int dc), .val (.int ec), .unset, .unset, .unset] [(.int 45), (.int 1), (.ref b537), (.ref b537), (.ref b534), (.ref b534)])) (fun t kt => ?_) ?_
              · refine XS.dup X540.here hx rfl (hb hby at_445) rfl rfl ?_
                refine XS.iconst X540.here hx rfl (hb hby at_446) ?_
                refine XS.bipush X540.here hx rfl (hb hby at_447) ?_
                exact kt
              obtain ⟨cl544, Ar544, q544, S544, M544, H544, G544⟩ := id V540
              have hin544 : ¬ ((1 : Int32) < 0 ∨ cl544.slots.size ≤ ((1 : Int32)).toNatClampNeg) := inb_of S544 ⟨by decide, by decide⟩
              obtain ⟨T544, h544, X544, e544, W544, st544⟩ := stC X540 hx hZ e540 Ar544 (j := (1 : Int32)) hin544 (g := (mkF m 449 #[.val (.int p0), .val (.int p1), .val (.int p2), .val (.int p3), .val (.int 0), .val (.int kd), .val (.int dc), .val (.int ec), .unset, .unset, .unset] [(.int 45), (.int 1), (.ref b537), (.ref b537), (.ref b534), (.ref b534)])) rfl rfl (hb hby at_449)
              obtain ⟨clv546, Arv546, -⟩ := id V540
              have CH545 := CH541.trans (CHr.wr W544 (Safe.arr hZ.alike Arv546 (by decide)) CH541.1)
              have Z547 : n0 ≤ h544.size := Nat.le_trans Z543 (Nat.le_of_eq W544.size.symm)
              have Z547h : h0.size ≤ h544.size := Nat.le_trans Z543h (Nat.le_of_eq W544.size.symm)
              have V544 : Arv Z h544 b537 k537 .char (6 : Int32) [(.int 45), (.int 45), (.int 0), (.int 0), (.int 0), (.int 0)] (.int 0) := Arv.set Ar544 q544 S544 M544 H544 G544 (fits_nar_char _) W544 1 rfl (Nat.le_of_ble_eq_true rfl)
              obtain ⟨lc544, X544, N544⟩ := own_pack1 X544 N540 g_b537
              refine own_thrH (a := T544.setTop (mkF m 450 #[.val (.int p0), .val (.int p1), .val (.int p2), .val (.int p3), .val (.int 0), .val (.int kd), .val (.int dc), .val (.int ec), .unset, .unset, .unset] [(.ref b537), (.ref b534), (.ref b534)])) (fun t kt => st544 t kt) ?_
              refine own_thrH (a := T544.setTop (mkF m 454 #[.val (.int p0), .val (.int p1), .val (.int p2), .val (.int p3), .val (.int 0), .val (.int kd), .val (.int dc), .val (.int ec), .unset, .unset, .unset] [(.int 113), (.int 2), (.ref b537), (.ref b537), (.ref b534), (.ref b534)])) (fun t kt => ?_) ?_
              · refine XS.dup X544.here hx rfl (hb hby at_450) rfl rfl ?_
                refine XS.iconst X544.here hx rfl (hb hby at_451) ?_
                refine XS.bipush X544.here hx rfl (hb hby at_452) ?_
                exact kt
              obtain ⟨cl548, Ar548, q548, S548, M548, H548, G548⟩ := id V544
              have hin548 : ¬ ((2 : Int32) < 0 ∨ cl548.slots.size ≤ ((2 : Int32)).toNatClampNeg) := inb_of S548 ⟨by decide, by decide⟩
              obtain ⟨T548, h548, X548, e548, W548, st548⟩ := stC X544 hx hZ e544 Ar548 (j := (2 : Int32)) hin548 (g := (mkF m 454 #[.val (.int p0), .val (.int p1), .val (.int p2), .val (.int p3), .val (.int 0), .val (.int kd), .val (.int dc), .val (.int ec), .unset, .unset, .unset] [(.int 113), (.int 2), (.ref b537), (.ref b537), (.ref b534), (.ref b534)])) rfl rfl (hb hby at_454)
              obtain ⟨clv550, Arv550, -⟩ := id V544
              have CH549 := CH545.trans (CHr.wr W548 (Safe.arr hZ.alike Arv550 (by decide)) CH545.1)
              have Z551 : n0 ≤ h548.size := Nat.le_trans Z547 (Nat.le_of_eq W548.size.symm)
              have Z551h : h0.size ≤ h548.size := Nat.le_trans Z547h (Nat.le_of_eq W548.size.symm)
              have V548 : Arv Z h548 b537 k537 .char (6 : Int32) [(.int 45), (.int 45), (.int 113), (.int 0), (.int 0), (.int 0)] (.int 0) := Arv.set Ar548 q548 S548 M548 H548 G548 (fits_nar_char _) W548 2 rfl (Nat.le_of_ble_eq_true rfl)
              obtain ⟨lc548, X548, N548⟩ := own_pack1 X548 N544 g_b537
              refine own_thrH (a := T548.setTop (mkF m 455 #[.val (.int p0), .val (.int p1), .val (.int p2), .val (.int p3), .val (.int 0), .val (.int kd), .val (.int dc), .val (.int ec), .unset, .unset, .unset] [(.ref b537), (.ref b534), (.ref b534)])) (fun t kt => st548 t kt) ?_
              refine own_thrH (a := T548.setTop (mkF m 459 #[.val (.int p0), .val (.int p1), .val (.int p2), .val (.int p3), .val (.int 0), .val (.int kd), .val (.int dc), .val (.int ec), .unset, .unset, .unset] [(.int 117), (.int 3), (.ref b537), (.ref b537), (.ref b534), (.ref b534)])) (fun t kt => ?_) ?_
              · refine XS.dup X548.here hx rfl (hb hby at_455) rfl rfl ?_
                refine XS.iconst X548.here hx rfl (hb hby at_456) ?_
                refine XS.bipush X548.here hx rfl (hb hby at_457) ?_
                exact kt
              obtain ⟨cl552, Ar552, q552, S552, M552, H552, G552⟩ := id V548
              have hin552 : ¬ ((3 : Int32) < 0 ∨ cl552.slots.size ≤ ((3 : Int32)).toNatClampNeg) := inb_of S552 ⟨by decide, by decide⟩
              obtain ⟨T552, h552, X552, e552, W552, st552⟩ := stC X548 hx hZ e548 Ar552 (j := (3 : Int32)) hin552 (g := (mkF m 459 #[.val (.int p0), .val (.int p1), .val (.int p2), .val (.int p3), .val (.int 0), .val (.int kd), .val (.int dc), .val (.int ec), .unset, .unset, .unset] [(.int 117), (.int 3), (.ref b537), (.ref b537), (.ref b534), (.ref b534)])) rfl rfl (hb hby at_459)
              obtain ⟨clv554, Arv554, -⟩ := id V548
              have CH553 := CH549.trans (CHr.wr W552 (Safe.arr hZ.alike Arv554 (by decide)) CH549.1)
              have Z555 : n0 ≤ h552.size := Nat.le_trans Z551 (Nat.le_of_eq W552.size.symm)
              have Z555h : h0.size ≤ h552.size := Nat.le_trans Z551h (Nat.le_of_eq W552.size.symm)
              have V552 : Arv Z h552 b537 k537 .char (6 : Int32) [(.int 45), (.int 45), (.int 113), (.int 117), (.int 0), (.int 0)] (.int 0) := Arv.set Ar552 q552 S552 M552 H552 G552 (fits_nar_char _) W552 3 rfl (Nat.le_of_ble_eq_true rfl)
              obtain ⟨lc552, X552, N552⟩ := own_pack1 X552 N548 g_b537
              refine own_thrH (a := T552.setTop (mkF m 460 #[.val (.int p0), .val (.int p1), .val (.int p2), .val (.int p3), .val (.int 0), .val (.int kd), .val (.int dc), .val (.int ec), .unset, .unset, .unset] [(.ref b537), (.ref b534), (.ref b534)])) (fun t kt => st552 t kt) ?_
              refine own_thrH (a := T552.setTop (mkF m 464 #[.val (.int p0), .val (.int p1), .val (.int p2), .val (.int p3), .val (.int 0), .val (.int kd), .val (.int dc), .val (.int ec), .unset, .unset, .unset] [(.int 101), (.int 4), (.ref b537), (.ref b537), (.ref b534), (.ref b534)])) (fun t kt => ?_) ?_
              · refine XS.dup X552.here hx rfl (hb hby at_460) rfl rfl ?_
                refine XS.iconst X552.here hx rfl (hb hby at_461) ?_
                refine XS.bipush X552.here hx rfl (hb hby at_462) ?_
                exact kt
              obtain ⟨cl556, Ar556, q556, S556, M556, H556, G556⟩ := id V552
              have hin556 : ¬ ((4 : Int32) < 0 ∨ cl556.slots.size ≤ ((4 : Int32)).toNatClampNeg) := inb_of S556 ⟨by decide, by decide⟩
              obtain ⟨T556, h556, X556, e556, W556, st556⟩ := stC X552 hx hZ e552 Ar556 (j := (4 : Int32)) hin556 (g := (mkF m 464 #[.val (.int p0), .val (.int p1), .val (.int p2), .val (.int p3), .val (.int 0), .val (.int kd), .val (.int dc), .val (.int ec), .unset, .unset, .unset] [(.int 101), (.int 4), (.ref b537), (.ref b537), (.ref b534), (.ref b534)])) rfl rfl (hb hby at_464)
              obtain ⟨clv558, Arv558, -⟩ := id V552
              have CH557 := CH553.trans (CHr.wr W556 (Safe.arr hZ.alike Arv558 (by decide)) CH553.1)
              have Z559 : n0 ≤ h556.size := Nat.le_trans Z555 (Nat.le_of_eq W556.size.symm)
              have Z559h : h0.size ≤ h556.size := Nat.le_trans Z555h (Nat.le_of_eq W556.size.symm)
              have V556 : Arv Z h556 b537 k537 .char (6 : Int32) [(.int 45), (.int 45), (.int 113), (.int 117), (.int 101), (.int 0)] (.int 0) := Arv.set Ar556 q556 S556 M556 H556 G556 (fits_nar_char _) W556 4 rfl (Nat.le_of_ble_eq_true rfl)
              obtain ⟨lc556, X556, N556⟩ := own_pack1 X556 N552 g_b537
              refine own_thrH (a := T556.setTop (mkF m 465 #[.val (.int p0), .val (.int p1), .val (.int p2), .val (.int p3), .val (.int 0), .val (.int kd), .val (.int dc), .val (.int ec), .unset, .unset, .unset] [(.ref b537), (.ref b534), (.ref b534)])) (fun t kt => st556 t kt) ?_
              refine own_thrH (a := T556.setTop (mkF m 469 #[.val (.int p0), .val (.int p1), .val (.int p2), .val (.int p3), .val (.int 0), .val (.int kd), .val (.int dc), .val (.int ec), .unset, .unset, .unset] [(.int 117), (.int 5), (.ref b537), (.ref b537), (.ref b534), (.ref b534)])) (fun t kt => ?_) ?_
              · refine XS.dup X556.here hx rfl (hb hby at_465) rfl rfl ?_
                refine XS.iconst X556.here hx rfl (hb hby at_466) ?_
                refine XS.bipush X556.here hx rfl (hb hby at_467) ?_
                exact kt
              obtain ⟨cl560, Ar560, q560, S560, M560, H560, G560⟩ := id V556
              have hin560 : ¬ ((5 : Int32) < 0 ∨ cl560.slots.size ≤ ((5 : Int32)).toNatClampNeg) := inb_of S560 ⟨by decide, by decide⟩
              obtain ⟨T560, h560, X560, e560, W560, st560⟩ := stC X556 hx hZ e556 Ar560 (j := (5 : Int32)) hin560 (g := (mkF m 469 #[.val (.int p0), .val (.int p1), .val (.int p2), .val (.int p3), .val (.int 0), .val (.int kd), .val (.int dc), .val (.int ec), .unset, .unset, .unset] [(.int 117), (.int 5), (.ref b537), (.ref b537), (.ref b534), (.ref b534)])) rfl rfl (hb hby at_469)
              obtain ⟨clv562, Arv562, -⟩ := id V556
              have CH561 := CH557.trans (CHr.wr W560 (Safe.arr hZ.alike Arv562 (by decide)) CH557.1)
              have Z563 : n0 ≤ h560.size := Nat.le_trans Z559 (Nat.le_of_eq W560.size.symm)
              have Z563h : h0.size ≤ h560.size := Nat.le_trans Z559h (Nat.le_of_eq W560.size.symm)
              have V560 : Arv Z h560 b537 k537 .char (6 : Int32) [(.int 45), (.int 45), (.int 113), (.int 117), (.int 101), (.int 117)] (.int 0) := Arv.set Ar560 q560 S560 M560 H560 G560 (fits_nar_char _) W560 5 rfl (Nat.le_of_ble_eq_true rfl)
              obtain ⟨lc560, X560, N560⟩ := own_pack1 X560 N556 g_b537
              refine own_thrH (a := T560.setTop (mkF m 470 #[.val (.int p0), .val (.int p1), .val (.int p2), .val (.int p3), .val (.int 0), .val (.int kd), .val (.int dc), .val (.int ec), .unset, .unset, .unset] [(.ref b537), (.ref b534), (.ref b534)])) (fun t kt => st560 t kt) ?_
              have c565 := (((((((A534.ext E537).wr W540).wr W544).wr W548).wr W552).wr W556).wr W560)
              have c566 := (((((((F_value_b534.ext E537).other W540 (Or.inl ne_b534_b537)).other W544 (Or.inl ne_b534_b537)).other W548 (Or.inl ne_b534_b537)).other W552 (Or.inl ne_b534_b537)).other W556 (Or.inl ne_b534_b537)).other W560 (Or.inl ne_b534_b537))
              have c567 := (((((((F_coder_b534.ext E537).other W540 (Or.inl ne_b534_b537)).other W544 (Or.inl ne_b534_b537)).other W548 (Or.inl ne_b534_b537)).other W552 (Or.inl ne_b534_b537)).other W556 (Or.inl ne_b534_b537)).other W560 (Or.inl ne_b534_b537))
              have c568 := ((((((((hO.ext E534).ext E537).wr W540 g_b537).wr W544 g_b537).wr W548 g_b537).wr W552 g_b537).wr W556 g_b537).wr W560 g_b537)
              obtain ⟨_, _, ⟨T564, L564, k564, n564⟩, -, X564, ⟨Lc564, hQ564, l564, y564, z564⟩, st564⟩ := X560.specialBack hx (y := (⟨"java/lang/String", "<init>", "([C)V"⟩ : MethodName)) rfl hown (mvT hZ (hw _ (own_i 4 rfl))) (mvT hZ (hw _ (own_i 5 rfl))) (mvT hZ (hw _ (own_i 6 rfl))) (by decide) (StrChars.Road.backV hZ (fun d hd => hw d (own_sw d hd)) (hw _ (own_i 1 rfl)) (x := b534) (b := b537) (cs := [(45 : Int32), (45 : Int32), (113 : Int32), (117 : Int32), (101 : Int32), (117 : Int32)]) (bs := [((45 : Int32).toInt8.toInt32), ((45 : Int32).toInt8.toInt32), ((113 : Int32).toInt8.toInt32), ((117 : Int32).toInt8.toInt32), ((101 : Int32).toInt8.toInt32), ((117 : Int32).toInt8.toInt32)]) (n := 6) (W := 1) g_b534 Z563 c565 c566 c567 V560 (S_cs.ext c568.2) hcs rfl rfl (by decide) (by decide) (own_fa ⟨by decide, by decide⟩ (own_fa ⟨by decide, by decide⟩ (own_fa ⟨by decide, by decide⟩ (own_fa ⟨by decide, by decide⟩ (own_fa ⟨by decide, by decide⟩ (own_fa ⟨by decide, by decide⟩ own_f0)))))) rfl (by decide) (by decide)) (g := (mkF m 470 #[.val (.int p0), .val (.int p1), .val (.int p2), .val (.int p3), .val (.int 0), .val (.int kd), .val (.int dc), .val (.int ec), .unset, .unset, .unset] [(.ref b537), (.ref b534), (.ref b534)])) rfl (by rw [hml]; rfl) (Steps.refl _) (a := b534) (argsL := [(.ref b537)]) (rest := [(.ref b534)]) (lenOf pd__28_5bC_29V rfl) rfl (by show 2 * 0 + _ ≤ _; exact Nat.le_of_eq rfl) (hb hby at_470) (fun _ _ => ⟨rfl, e560, (by decide : 2 + 1 ≤ _), (by decide : 10 + 6 ≤ _)⟩)
              dsimp only [Pt.U, Pt.locs, Pt.cells, Pt.slots] at X564 l564 y564 z564 st564 hQ564
              obtain ⟨rfl, N564q, K564, o564_e, o564_c, sv564, ks564, -, -, -, o564_v, o564_A⟩ := hQ564
              have sf570 := own_safe (EL := own_EL) hZ.alike c565 c566
              have sf571 := Safe.keep K564 (allS sf570 all0) CH561.1 sf570
              have CH569 := CH561.trans (CHr.keep K564 (allS sf570 all0) CH561.1)
              have Z572 : n0 ≤ T564.heap.size := Nat.le_trans Z563 K564.1
              have Z572h : h0.size ≤ T564.heap.size := Nat.le_trans Z563h K564.1
              have o564_a : Arv Z T564.heap sv564 ks564 .byte (6 : Int32) [(.int ((45 : Int32).toInt8.toInt32)), (.int ((45 : Int32).toInt8.toInt32)), (.int ((113 : Int32).toInt8.toInt32)), (.int ((117 : Int32).toInt8.toInt32)), (.int ((101 : Int32).toInt8.toInt32)), (.int ((117 : Int32).toInt8.toInt32))] (.int 0) := o564_A
              obtain ⟨lc564, X564, N564⟩ := own_pack X564 l564 y564 z564 N560 N564q (C := 3) (S' := 16) rfl rfl
              refine own_thrH (a := T564.setTop (mkF m 473 #[.val (.int p0), .val (.int p1), .val (.int p2), .val (.int p3), .val (.int 0), .val (.int kd), .val (.int dc), .val (.int ec), .unset, .unset, .unset] [(.ref b534)])) (fun t kt => st564.trans kt) ?_
              refine own_thrH (a := T564.setTop (mkF m 510 #[.val (.int p0), .val (.int p1), .val (.int p2), .val (.int p3), .val (.int 0), .val (.int kd), .val (.int dc), .val (.int ec), .val (.ref b534), .unset, .unset] [])) (fun t kt => ?_) ?_
              · refine XS.astore X564.here hx rfl (hb hby at_473) rfl rfl (l' := #[.val (.int p0), .val (.int p1), .val (.int p2), .val (.int p3), .val (.int 0), .val (.int kd), .val (.int dc), .val (.int ec), .val (.ref b534), .unset, .unset]) rfl ?_
                refine XS.goto X564.here hx rfl (pc0 := 475) (pc' := 510) rfl (hb hby at_475) (by decide) (by decide) ?_
                exact kt
              have c573 := (((((((((F_flu.ext E534).ext E537).other W540 (Or.inl ne_ou_b537)).other W544 (Or.inl ne_ou_b537)).other W548 (Or.inl ne_ou_b537)).other W552 (Or.inl ne_ou_b537)).other W556 (Or.inl ne_ou_b537)).other W560 (Or.inl ne_ou_b537)).keep K564 (ninS ne_ou_b534 nin0))
              have c574 := (((((((((E_flu.ext E534).ext E537).wr W540).wr W544).wr W548).wr W552).wr W556).wr W560).keep K564)
              have c575 := (((((((((F_fvu.ext E534).ext E537).other W540 (Or.inl ne_flu_b537)).other W544 (Or.inl ne_flu_b537)).other W548 (Or.inl ne_flu_b537)).other W552 (Or.inl ne_flu_b537)).other W556 (Or.inl ne_flu_b537)).other W560 (Or.inl ne_flu_b537)).keep K564 (ninS ne_flu_b534 nin0))
              have c576 := (((((((((F_fluc.ext E534).ext E537).other W540 (Or.inl ne_flu_b537)).other W544 (Or.inl ne_flu_b537)).other W548 (Or.inl ne_flu_b537)).other W552 (Or.inl ne_flu_b537)).other W556 (Or.inl ne_flu_b537)).other W560 (Or.inl ne_flu_b537)).keep K564 (ninS ne_flu_b534 nin0))
              have c577 := (((((((((V_fvu.ext E534).ext E537).other W540 ne_fvu_b537).other W544 ne_fvu_b537).other W548 ne_fvu_b537).other W552 ne_fvu_b537).other W556 ne_fvu_b537).other W560 ne_fvu_b537).keep K564 (ninS ne_fvu_b534 nin0))
              have c578 := (((((((((F_flq.ext E534).ext E537).other W540 (Or.inl ne_oq_b537)).other W544 (Or.inl ne_oq_b537)).other W548 (Or.inl ne_oq_b537)).other W552 (Or.inl ne_oq_b537)).other W556 (Or.inl ne_oq_b537)).other W560 (Or.inl ne_oq_b537)).keep K564 (ninS ne_oq_b534 nin0))
              have c579 := (((((((((E_flq.ext E534).ext E537).wr W540).wr W544).wr W548).wr W552).wr W556).wr W560).keep K564)
              have c580 := (((((((((F_fvq.ext E534).ext E537).other W540 (Or.inl ne_flq_b537)).other W544 (Or.inl ne_flq_b537)).other W548 (Or.inl ne_flq_b537)).other W552 (Or.inl ne_flq_b537)).other W556 (Or.inl ne_flq_b537)).other W560 (Or.inl ne_flq_b537)).keep K564 (ninS ne_flq_b534 nin0))
              have c581 := (((((((((F_flqc.ext E534).ext E537).other W540 (Or.inl ne_flq_b537)).other W544 (Or.inl ne_flq_b537)).other W548 (Or.inl ne_flq_b537)).other W552 (Or.inl ne_flq_b537)).other W556 (Or.inl ne_flq_b537)).other W560 (Or.inl ne_flq_b537)).keep K564 (ninS ne_flq_b534 nin0))
              have c582 := (((((((((V_fvq.ext E534).ext E537).other W540 ne_fvq_b537).other W544 ne_fvq_b537).other W548 ne_fvq_b537).other W552 ne_fvq_b537).other W556 ne_fvq_b537).other W560 ne_fvq_b537).keep K564 (ninS ne_fvq_b534 nin0))
              have c583 := (((((((((E_em.ext E534).ext E537).wr W540).wr W544).wr W548).wr W552).wr W556).wr W560).keep K564)
              have c584 := (((((((((F_em.ext E534).ext E537).other W540 (Or.inl ne_em_b537)).other W544 (Or.inl ne_em_b537)).other W548 (Or.inl ne_em_b537)).other W552 (Or.inl ne_em_b537)).other W556 (Or.inl ne_em_b537)).other W560 (Or.inl ne_em_b537)).keep K564 (ninS ne_em_b534 nin0))
              exact own_tailD p0 p1 p2 p3 va kv ou oq em flu fvu kfu flq fvq kfq cs hw hx hby hml hlk Bd.returns hh hEL hZ hown hS0 (Nat.zero_le _) CH569 Z572 Z572h _ _ _ _ b534 sv564 ks564 (6 : Int32) [(.int ((45 : Int32).toInt8.toInt32)), (.int ((45 : Int32).toInt8.toInt32)), (.int ((113 : Int32).toInt8.toInt32)), (.int ((117 : Int32).toInt8.toInt32)), (.int ((101 : Int32).toInt8.toInt32)), (.int ((117 : Int32).toInt8.toInt32))] _ _ (Or.inl rfl) (Or.inl rfl) S_V V_va E_va hfit S_em S_cs hcs (c568.keep K564 (allS g_b534 all0)) c573 c574 c575 c576 c577 c578 c579 c580 c581 c582 S_ou S_oq c583 c584 o564_e o564_v o564_c o564_a (by decide) (by decide) (by decide) (by decide) (by decide) (by decide) X564 N564 rfl
            · refine own_thrH (a := s₁.setTop (mkF m 481 #[.val (.int p0), .val (.int p1), .val (.int p2), .val (.int p3), .val (.int 0), .val (.int kd), .val (.int dc), .val (.int ec), .unset, .unset, .unset] [(.int 4), (.int kd)])) (fun t kt => ?_) ?_
              · refine XS.icmpYes X0.here hx rfl (pc0 := 391) (pc' := 478) rfl (hb hby at_391) rfl (feq hc533).2 (by decide) (by decide) ?_
                refine XS.iload X0.here hx rfl (hb hby at_478) rfl ?_
                refine XS.iconst X0.here hx rfl (hb hby at_480) ?_
                exact kt
              by_cases hc585 : kd = (4 : Int32)
              · refine own_thrH (a := s₁.setTop (mkF m 510 #[.val (.int p0), .val (.int p1), .val (.int p2), .val (.int p3), .val (.int 0), .val (.int kd), .val (.int dc), .val (.int ec), .val .null, .unset, .unset] [])) (fun t kt => ?_) ?_
                · refine XS.icmpNo X0.here hx rfl (hb hby at_481) rfl (teq hc585).2 ?_
                  refine XS.aconstNull X0.here hx rfl (hb hby at_484) ?_
                  refine XS.astore X0.here hx rfl (hb hby at_485) rfl rfl (l' := #[.val (.int p0), .val (.int p1), .val (.int p2), .val (.int p3), .val (.int 0), .val (.int kd), .val (.int dc), .val (.int ec), .val .null, .unset, .unset]) rfl ?_
                  refine XS.goto X0.here hx rfl (pc0 := 487) (pc' := 510) rfl (hb hby at_487) (by decide) (by decide) ?_
                  exact kt
                exact own_tailN p0 p1 p2 p3 va kv ou oq em flu fvu kfu flq fvq kfq cs hw hx hby hml hlk Bd.returns hh hEL hZ hown hS0 (Nat.zero_le _) CH0 Z0 (Nat.le_refl h0.size) _ _ _ _ _ _ (Or.inl rfl) (Or.inl rfl) S_V V_va E_va hfit S_em S_cs hcs hO F_flu E_flu F_fvu F_fluc V_fvu F_flq E_flq F_fvq F_flqc V_fvq S_ou S_oq E_em F_em (by decide) (by decide) X0 N0 e0
              · refine own_thrH (a := s₁.setTop (mkF m 493 #[.val (.int p0), .val (.int p1), .val (.int p2), .val (.int p3), .val (.int 0), .val (.int kd), .val (.int dc), .val (.int ec), .unset, .unset, .unset] [(.int 5), (.int kd)])) (fun t kt => ?_) ?_
                · refine XS.icmpYes X0.here hx rfl (pc0 := 481) (pc' := 490) rfl (hb hby at_481) rfl (feq hc585).2 (by decide) (by decide) ?_
                  refine XS.iload X0.here hx rfl (hb hby at_490) rfl ?_
                  refine XS.iconst X0.here hx rfl (hb hby at_492) ?_
                  exact kt
                by_cases hc586 : kd = (5 : Int32)
                · refine own_thrH (a := s₁.setTop (mkF m 496 #[.val (.int p0), .val (.int p1), .val (.int p2), .val (.int p3), .val (.int 0), .val (.int kd), .val (.int dc), .val (.int ec), .unset, .unset, .unset] [])) (fun t kt => ?_) ?_
                  · refine XS.icmpNo X0.here hx rfl (hb hby at_493) rfl (teq hc586).2 ?_
                    exact kt
                  obtain ⟨b587, T587, h587, kk587, d587, kc587, X587, e587, E587, hS587, hk587, hZ587, hown587, oE587, oC587, oV587, oA587, -, -, ch587, -, sfq587, st587⟩ := ldcCH X0 hx hZ hown (hw _ (own_i 113 rfl)) (fun a ha => hw a (own_sa a ha)) e0 hS0 (Nat.zero_le _) hEL (by decide) CH0.1 (vs := []) (z := (0 : Int32)) ⟨by decide, rfl⟩ (by decide) rfl (g := (mkF m 496 #[.val (.int p0), .val (.int p1), .val (.int p2), .val (.int p3), .val (.int 0), .val (.int kd), .val (.int dc), .val (.int ec), .unset, .unset, .unset] [])) rfl (hb hby at_496) (n := 0) (by decide) (by decide) (by decide : 0 + 2 ≤ _) (by decide : 0 + 4 ≤ _)
                  have Z588 : n0 ≤ h587.size := Nat.le_trans Z0 E587.1
                  have Z588h : h0.size ≤ h587.size := Nat.le_trans (Nat.le_refl h0.size) E587.1
                  have CHl587 := CH0.trans ch587
                  refine own_thrH (a := T587.setTop (mkF m 498 #[.val (.int p0), .val (.int p1), .val (.int p2), .val (.int p3), .val (.int 0), .val (.int kd), .val (.int dc), .val (.int ec), .unset, .unset, .unset] [(.ref b587)])) (fun t kt => st587 t kt) ?_
                  refine own_thrH (a := T587.setTop (mkF m 510 #[.val (.int p0), .val (.int p1), .val (.int p2), .val (.int p3), .val (.int 0), .val (.int kd), .val (.int dc), .val (.int ec), .val (.ref b587), .unset, .unset] [])) (fun t kt => ?_) ?_
                  · refine XS.astore X587.here hx rfl (hb hby at_498) rfl rfl (l' := #[.val (.int p0), .val (.int p1), .val (.int p2), .val (.int p3), .val (.int 0), .val (.int kd), .val (.int dc), .val (.int ec), .val (.ref b587), .unset, .unset]) rfl ?_
                    refine XS.goto X587.here hx rfl (pc0 := 500) (pc' := 510) rfl (hb hby at_500) (by decide) (by decide) ?_
                    exact kt
                  exact own_tailD p0 p1 p2 p3 va kv ou oq em flu fvu kfu flq fvq kfq cs hw hx hby hml hlk Bd.returns hh hEL hZ587 hown587 hS587 hk587 CHl587 Z588 Z588h _ _ _ _ b587 d587 kc587 (0 : Int32) [] _ _ (Or.inl rfl) (Or.inl rfl) S_V V_va E_va hfit S_em S_cs hcs (hO.ext E587) (F_flu.ext E587) (E_flu.ext E587) (F_fvu.ext E587) (F_fluc.ext E587) (V_fvu.ext E587) (F_flq.ext E587) (E_flq.ext E587) (F_fvq.ext E587) (F_flqc.ext E587) (V_fvq.ext E587) S_ou S_oq (E_em.ext E587) (F_em.ext E587) oE587 oV587 oC587 oA587 (by decide) (by decide) (by decide) (by decide) (by decide) (by decide) X587 N0 e587
                · refine own_thrH (a := s₁.setTop (mkF m 505 #[.val (.int p0), .val (.int p1), .val (.int p2), .val (.int p3), .val (.int 0), .val (.int kd), .val (.int dc), .val (.int ec), .unset, .unset, .unset] [(.int dc)])) (fun t kt => ?_) ?_
                  · refine XS.icmpYes X0.here hx rfl (pc0 := 493) (pc' := 503) rfl (hb hby at_493) rfl (feq hc586).2 (by decide) (by decide) ?_
                    refine XS.iload X0.here hx rfl (hb hby at_503) rfl ?_
                    exact kt
                  obtain ⟨_, _, ⟨T589, L589, k589, n589⟩, -, X589, ⟨Lc589, hQ589, l589, y589, z589⟩, st589⟩ := Jvm.LawKit.callS X0 hx (y := (⟨"java/lang/String", "valueOf", "(C)Ljava/lang/String;"⟩ : MethodName)) hown (mvT hZ (hw _ (own_i 95 rfl))) (mvT hZ (hw _ (own_i 96 rfl))) (mvT hZ (hw _ (own_i 2 rfl))) (mvT hZ (hw _ (own_i 97 rfl))) (by decide) (backOf (W := 0) (rmVO l Z a0 hw [] dc cs h0 n0 Z0 (S_cs.ext hO.2) hcs ldc) hZ (hw _ (own_i 97 rfl)) (hw _ (own_i 2 rfl)) (by decide) (by decide)) (g := (mkF m 505 #[.val (.int p0), .val (.int p1), .val (.int p2), .val (.int p3), .val (.int 0), .val (.int kd), .val (.int dc), .val (.int ec), .unset, .unset, .unset] [(.int dc)])) rfl (by rw [hml]; rfl) (argsL := [(.int dc)]) (rest := []) (lenOf pd__28C_29Ljava_2flang_2fString_3b rfl) rfl (by show 2 * 0 + _ ≤ _; exact Nat.le_of_eq rfl) (hb hby at_505) (fun _ _ => ⟨rfl, e0, (by decide : 0 + 2 ≤ _), (by decide : 0 + 5 ≤ _)⟩)
                  dsimp only [Pt.U, Pt.locs, Pt.cells, Pt.slots] at X589 l589 y589 z589 st589 hQ589
                  obtain ⟨r589, rfl, N589q, K589, o589_0, o589_1, o589_2⟩ := hQ589
                  have CH590 := CH0.trans (CHr.keep K589 all0 CH0.1)
                  have Z591 : n0 ≤ T589.heap.size := Nat.le_trans Z0 K589.1
                  have Z591h : h0.size ≤ T589.heap.size := Nat.le_trans (Nat.le_refl h0.size) K589.1
                  obtain ⟨lc589, X589, N589⟩ := own_pack X589 l589 y589 z589 N0 N589q (C := 2) (S' := 5) rfl rfl
                  refine own_thrH (a := T589.setTop (mkF m 508 #[.val (.int p0), .val (.int p1), .val (.int p2), .val (.int p3), .val (.int 0), .val (.int kd), .val (.int dc), .val (.int ec), .unset, .unset, .unset] [(.ref r589)])) (fun t kt => st589 t kt) ?_
                  obtain ⟨sv589, ks589, o589_v, o589_a⟩ := o589_2
                  refine own_thrH (a := T589.setTop (mkF m 510 #[.val (.int p0), .val (.int p1), .val (.int p2), .val (.int p3), .val (.int 0), .val (.int kd), .val (.int dc), .val (.int ec), .val (.ref r589), .unset, .unset] [])) (fun t kt => ?_) ?_
                  · refine XS.astore X589.here hx rfl (hb hby at_508) rfl rfl (l' := #[.val (.int p0), .val (.int p1), .val (.int p2), .val (.int p3), .val (.int 0), .val (.int kd), .val (.int dc), .val (.int ec), .val (.ref r589), .unset, .unset]) rfl ?_
                    exact kt
                  exact own_tailD p0 p1 p2 p3 va kv ou oq em flu fvu kfu flq fvq kfq cs hw hx hby hml hlk Bd.returns hh hEL hZ hown hS0 (Nat.zero_le _) CH590 Z591 Z591h _ _ _ _ r589 sv589 ks589 (1 : Int32) [(.int (((dc).toInt8.toInt32).toInt8.toInt32))] _ _ (Or.inl rfl) (Or.inl rfl) S_V V_va E_va hfit S_em S_cs hcs (hO.keep K589 all0) (F_flu.keep K589 nin0) (E_flu.keep K589) (F_fvu.keep K589 nin0) (F_fluc.keep K589 nin0) (V_fvu.keep K589 nin0) (F_flq.keep K589 nin0) (E_flq.keep K589) (F_fvq.keep K589 nin0) (F_flqc.keep K589 nin0) (V_fvq.keep K589 nin0) S_ou S_oq (E_em.keep K589) (F_em.keep K589 nin0) o589_0 o589_v o589_1 o589_a (by decide) (by decide) (by decide) (by decide) (by decide) (by decide) X589 N589 rfl
theorem own_len {s : State} {args : Array Value} {ca : Addr} {cl : Cell} {t : Term} {ty : FieldType} {n : Int32} (ev : t.eval args s none [] s = some (.ref ca)) (A : Arr s s.heap ca cl ty) (h : (Jvm.Cond.eq (Term.length t) (Term.int n)).value args s none s [] = some true) : cl.slots.size.toInt32 = n ∧ cl.slots.size < 2 ^ 31 := by
  have hA : s.arrayAt? ca = some cl := Arr.fin (Vm.Alike.refl _) A
  simp only [Cond.value, Term.eval, ev, Option.bind_eq_bind, Option.bind_some, hA] at h
  by_cases hl : cl.slots.size < 2147483648
  · simp [hl] at h; exact ⟨h, hl⟩
  · simp [hl] at h
theorem own_lenN {s : State} {args : Array Value} {ca : Addr} {cl : Cell} {t : Term} {ty : FieldType} {n : Int32} (ev : t.eval args s none [] s = some (.ref ca)) (A : Arr s s.heap ca cl ty) (h : (Jvm.Cond.eq (Term.length t) (Term.int n)).value args s none s [] = some true) (N : Nat) (hN : n.toInt = N) : cl.slots.size = N := by
  obtain ⟨h1, h2⟩ := own_len ev A h
  have h3 := len_toInt h2
  rw [h1] at h3
  omega
theorem own_eqI {args : Array Value} {s : State} {idx : List Nat} {a b : Term} {k : Int32} (h : (Jvm.Cond.eq a b).value args s none s idx = some true) (hb : b.eval args s none idx s = some (.int k)) : a.eval args s none idx s = some (.int k) := by
  obtain ⟨x, y, h1, h2, k1, k2⟩ := cmp_v (Or.inl h)
  cases hb.symm.trans h2
  obtain ⟨z, rfl⟩ := k2
  simp [Cond.value, h1, h2] at h
  subst h; exact h1
theorem own_eqJ {args : Array Value} {s : State} {idx : List Nat} {a b : Term} {k : Int64} (h : (Jvm.Cond.eq a b).value args s none s idx = some true) (hb : b.eval args s none idx s = some (.long k)) : a.eval args s none idx s = some (.long k) := by
  obtain ⟨x, y, h1, h2, k1, k2⟩ := cmp_v (Or.inl h)
  cases hb.symm.trans h2
  obtain ⟨z, rfl⟩ := k2
  simp [Cond.value, h1, h2] at h
  subst h; exact h1
theorem own_eqR {args : Array Value} {s : State} {idx : List Nat} {a b : Term} {k : Addr} (h : (Jvm.Cond.eq a b).value args s none s idx = some true) (hb : b.eval args s none idx s = some (.ref k)) : a.eval args s none idx s = some (.ref k) := by
  obtain ⟨x, y, h1, h2, k1, k2⟩ := cmp_v (Or.inl h)
  cases hb.symm.trans h2
  have hx : x.isRef = true := k2.2
  have q := gotT (eq_R h1 h2 hx rfl) h
  subst q; exact h1
theorem own_elR {args : Array Value} {s : State} {t u : Term} {a r : Addr} {cl : Cell} {ty : FieldType} {j : Int32} (h : (Jvm.Cond.eq (.elem t (.int j)) u).value args s none s [] = some true) (ht : t.eval args s none [] s = some (.ref a)) (A : Arr s s.heap a cl ty) (hu : u.eval args s none [] s = some (.ref r)) : cl.slots[j.toNatClampNeg]? = some (.ref r) :=
  (elem_in (own_eqR h hu) ht rfl A.1).2
theorem own_elJ {args : Array Value} {s : State} {t : Term} {a : Addr} {cl : Cell} {ty : FieldType} {j : Int32} {k : Int64} (h : (Jvm.Cond.eq (.elem t (.int j)) (.long k)).value args s none s [] = some true) (ht : t.eval args s none [] s = some (.ref a)) (A : Arr s s.heap a cl ty) : cl.slots[j.toNatClampNeg]? = some (.long k) :=
  (elem_in (own_eqJ h rfl) ht rfl A.1).2
theorem own_fldI {args : Array Value} {s : State} {t : Term} {C n d : String} {x : Addr} {k : Int32} (h : (Jvm.Cond.eq (.field t C n d) (.int k)).value args s none s [] = some true) (ht : t.eval args s none [] s = some (.ref x)) : Fld s s.heap x C n d (.int k) :=
  Fld.start ((fld_at ht).symm.trans (own_eqI h rfl))
theorem own_elI {args : Array Value} {s : State} {t : Term} {a : Addr} {cl : Cell} {ty : FieldType} {j : Int32} {k : Int32} (h : (Jvm.Cond.eq (.elem t (.int j)) (.int k)).value args s none s [] = some true) (ht : t.eval args s none [] s = some (.ref a)) (A : Arr s s.heap a cl ty) : cl.slots[j.toNatClampNeg]? = some (.int k) :=
  (elem_in (own_eqI h rfl) ht rfl A.1).2
theorem own_eqNul {args : Array Value} {s : State} {idx : List Nat} {a b : Term} (h : (Jvm.Cond.eq a b).value args s none s idx = some true) (hb : b.eval args s none idx s = some .null) : a.eval args s none idx s = some .null := by
  obtain ⟨x, y, h1, h2, k1, k2⟩ := cmp_v (Or.inl h)
  cases hb.symm.trans h2
  have hx : x.isRef = true := k2.2
  have q := gotT (eq_R h1 h2 hx rfl) h
  subst q; exact h1
theorem own_not0 {s : State} {args : Array Value} {C n d : String} {cs : Int32} (ev : (Term.static C n d).eval args s none [] s = some (.int cs)) (h : (Jvm.Cond.not (.eq (.static C n d) (.int 0))).value args s none s [] = some true) : ¬ cs = (0 : Int32) := by
  have h1 := not_v h
  intro e
  have h2 : (Jvm.Cond.eq (.static C n d) (.int 0)).value args s none s [] = some true := eq_i ev (Term.int_eval 0) (by rw [e])
  rw [h2] at h1
  cases h1
theorem own_held {tb : Tables} {e : Env} {args : Array Value} {s : State} (h : Calls_1 tb e args s) : ∀ p ∈ own_EL, Jvm.Lit.constHeld s p.1 p.2 := by
  intro p hp
  exact h.1 p (by revert p; decide)
set_option maxRecDepth 65536 in
set_option maxHeartbeats 40000000 in
theorem comes_1 {Post : Tables → Env → Array Value → State → Outcome → State → Prop} (hpost : ∀ tb e args s v u, (limb_1_1.after args s (.returned v) u = true ∧ limb_1_2.after args s (.returned v) u = true ∧ True) → ReturnedEndW s (.returned v) u (Jvm.fieldLocs frame_1_writes args s ++ Jvm.arrayLocs frame_1_arrays args s ++ Jvm.staticLocs frame_1_statics s) 24 3200 → Post tb e args s (.returned v) u) :
    ArmFor flags0 classFile x code maxLocals ret World_1 tables_1 room_1 Calls_1 rest_1 Pre_1 Post := by
  intro l hfl _ _ p e ha hc hk s m args below hf hA hF happ hP
  obtain ⟨hcalls, hrest, hpre⟩ := hP
  obtain ⟨-, -, -, hnamed, -, -, -, hat⟩ := (Spec.applies_iff hf).mp happ
  obtain ⟨hg, hn⟩ := and_e (Cond.before_iff.mp (show (Jvm.Cond.and given_1 narrow_1).before args s = true from hpre))
  obtain ⟨g1, g2⟩ := and_e hg
  obtain ⟨g3, g4⟩ := and_e g2
  obtain ⟨g5, g6⟩ := and_e g4
  obtain ⟨g7, g8⟩ := and_e g6
  obtain ⟨w0, w1, w2, w3, rfl⟩ : ∃ w0 w1 w2 w3 : Value, args = #[w0, w1, w2, w3] := by
    have hs : args.size = 4 := by simpa [Cond.value, given_1] using g1
    obtain ⟨L⟩ := args
    match L, hs with
    | [w0, w1, w2, w3], _ => exact ⟨w0, w1, w2, w3, rfl⟩
  have hw := fun d (hd : d ∈ tables_1) => atoms_spec (ws := Jvm.Cond.code x code maxLocals ret :: tables_1) hat d (List.mem_cons_of_mem _ hd)
  have hfit : Fit s := fun {y c} hc i hi => by
    obtain ⟨ha, rfl⟩ := Array.getElem?_eq_some_iff.mp hc
    have q := List.all_eq_true.mp ((Array.all_eq_true_iff_forall_mem.mp hF) _ (Array.getElem_mem ha)) i (List.mem_range.mpr hi)
    simpa [Array.getElem?_eq_getElem hi] using q
  obtain ⟨hsets, hown0⟩ := atoms_of _ (rest_1_c_eq ▸ (show rest_1_c.before _ s = true from hrest))
  have hr0 := Cond.before_iff.mp hown0
  obtain ⟨i0, ei0⟩ := is_v g3
  obtain rfl : w0 = (.int i0) := Option.some.inj ei0
  obtain ⟨i1, ei1⟩ := is_v g5
  obtain rfl : w1 = (.int i1) := Option.some.inj ei1
  obtain ⟨i2, ei2⟩ := is_v g7
  obtain rfl : w2 = (.int i2) := Option.some.inj ei2
  obtain ⟨i3, ei3⟩ := is_v g8
  obtain rfl : w3 = (.int i3) := Option.some.inj ei3
  unfold narrow_1 at hn
  obtain ⟨Wm1, hn⟩ := and_e hn
  obtain ⟨Wm2, hn⟩ := and_e hn
  obtain ⟨Wm3, hn⟩ := and_e hn
  obtain ⟨Wxu, hn⟩ := and_e hn
  obtain ⟨Wy1, hn⟩ := and_e hn
  obtain ⟨Wxq, hn⟩ := and_e hn
  obtain ⟨Wy2, hn⟩ := and_e hn
  obtain ⟨Wxfu, hn⟩ := and_e hn
  obtain ⟨Wcfu, hn⟩ := and_e hn
  obtain ⟨Wafu, hn⟩ := and_e hn
  obtain ⟨Wlfu, hn⟩ := and_e hn
  obtain ⟨Wxfq, hn⟩ := and_e hn
  obtain ⟨Wcfq, hn⟩ := and_e hn
  obtain ⟨Wafq, hn⟩ := and_e hn
  obtain ⟨Wlfq, hn⟩ := and_e hn
  obtain ⟨Weu0, hn⟩ := and_e hn
  obtain ⟨Weu1, hn⟩ := and_e hn
  obtain ⟨Weu2, hn⟩ := and_e hn
  obtain ⟨Weu3, hn⟩ := and_e hn
  obtain ⟨Weu4, hn⟩ := and_e hn
  obtain ⟨Weq0, hn⟩ := and_e hn
  obtain ⟨Weq1, hn⟩ := and_e hn
  obtain ⟨Weq2, hn⟩ := and_e hn
  obtain ⟨Weq3, hn⟩ := and_e hn
  obtain ⟨Weq4, hn⟩ := and_e hn
  obtain ⟨Weq5, hn⟩ := and_e hn
  have Weq6 := hn
  obtain ⟨va, eva⟩ := arr_v Wm1
  obtain ⟨clv, Av⟩ := Arr.start eva Wm1
  have E_va := Exa.start eva Wm2
  have S_V : Sta s s.heap "com/example/durable_dispatch/durabledispatch/cli/Option" "$VALUES" "[Lcom/example/durable_dispatch/durabledispatch/cli/Option;" (.ref va) := Sta.start eva (Or.inl (hw _ (own_i 48 rfl)))
  obtain ⟨ou, eou⟩ := exa_v Wxu
  have S_ou := Sta.start eou (Or.inr ⟨(hw _ (own_i 32 rfl)), (hw _ (own_i 46 rfl))⟩)
  obtain ⟨oq, eoq⟩ := exa_v Wxq
  have S_oq := Sta.start eoq (Or.inr ⟨(hw _ (own_i 32 rfl)), (hw _ (own_i 47 rfl))⟩)
  obtain ⟨hl1, hl2⟩ := own_len eva Av Wm3
  have V_va : Arv s s.heap va clv.cls (.object "com/example/durable_dispatch/durabledispatch/cli/Option") (2 : Int32) [(.ref ou), (.ref oq)] .null := Arv.start hfit Av hl2 hl1 (by decide) rfl ⟨own_elR Wy1 eva Av eou, own_elR Wy2 eva Av eoq, trivial⟩
  obtain ⟨flu, eflu⟩ := exa_v Wxfu
  have E_flu := Exa.start eflu Wxfu
  have F_flu : Fld s s.heap ou "com/example/durable_dispatch/durabledispatch/cli/Option" "flag" "Ljava/lang/String;" (.ref flu) := Fld.start ((fld_at eou).symm.trans eflu)
  obtain ⟨fvu, efvu⟩ := arr_v Wafu
  obtain ⟨clfu, Afu⟩ := Arr.start efvu Wafu
  have F_fvu : Fld s s.heap flu "java/lang/String" "value" "[B" (.ref fvu) := Fld.start ((fld_at eflu).symm.trans efvu)
  have F_fluc := own_fldI Wcfu eflu
  obtain ⟨hlfu, hmfu⟩ := own_len efvu Afu Wlfu
  have V_fvu : Arv s s.heap fvu clfu.cls .byte (5 : Int32) [(.int 45), (.int 45), (.int 117), (.int 114), (.int 108)] (.int 0) := Arv.start hfit Afu hmfu hlfu (by decide) rfl ⟨own_elI Weu0 efvu Afu, own_elI Weu1 efvu Afu, own_elI Weu2 efvu Afu, own_elI Weu3 efvu Afu, own_elI Weu4 efvu Afu, trivial⟩
  obtain ⟨flq, eflq⟩ := exa_v Wxfq
  have E_flq := Exa.start eflq Wxfq
  have F_flq : Fld s s.heap oq "com/example/durable_dispatch/durabledispatch/cli/Option" "flag" "Ljava/lang/String;" (.ref flq) := Fld.start ((fld_at eoq).symm.trans eflq)
  obtain ⟨fvq, efvq⟩ := arr_v Wafq
  obtain ⟨clfq, Afq⟩ := Arr.start efvq Wafq
  have F_fvq : Fld s s.heap flq "java/lang/String" "value" "[B" (.ref fvq) := Fld.start ((fld_at eflq).symm.trans efvq)
  have F_flqc := own_fldI Wcfq eflq
  obtain ⟨hlfq, hmfq⟩ := own_len efvq Afq Wlfq
  have V_fvq : Arv s s.heap fvq clfq.cls .byte (7 : Int32) [(.int 45), (.int 45), (.int 113), (.int 117), (.int 101), (.int 117), (.int 101)] (.int 0) := Arv.start hfit Afq hmfq hlfq (by decide) rfl ⟨own_elI Weq0 efvq Afq, own_elI Weq1 efvq Afq, own_elI Weq2 efvq Afq, own_elI Weq3 efvq Afq, own_elI Weq4 efvq Afq, own_elI Weq5 efvq Afq, own_elI Weq6 efvq Afq, trivial⟩
  obtain ⟨cs, ecs⟩ := is_v (Cond.before_iff.mp (hsets _ (own_i 1 rfl)))
  have S_cs : Sta s s.heap "java/lang/String" "COMPACT_STRINGS" "Z" (.int cs) := Sta.start ecs (Or.inl (hsets _ (own_i 0 rfl)))
  have hcs : ¬ cs = (0 : Int32) := own_not0 ecs (Cond.before_iff.mp (hsets _ (own_i 2 rfl)))
  obtain ⟨em, eem⟩ := exa_v (Cond.before_iff.mp (hsets _ (own_i 11 rfl)))
  have E_em := Exa.start eem (Cond.before_iff.mp (hsets _ (own_i 11 rfl)))
  have S_em : Sta s s.heap "java/util/Optional" "EMPTY" "Ljava/util/Optional;" (.ref em) := Sta.start eem (Or.inl (hsets _ (own_i 10 rfl)))
  have F_em : Fld s s.heap em "java/util/Optional" "value" "Ljava/lang/Object;" .null := Fld.start ((fld_at eem).symm.trans (own_eqNul (Cond.before_iff.mp (hsets _ (own_i 12 rfl))) rfl))
  have hCHs : CHv s own_EL s.vm s.heap := CHv.start (own_EW hw) (fun p hp => own_held hcalls p hp) (hsets _ (own_i 2 rfl)) (hw _ (own_i 19 rfl)) (hw _ (own_i 1 rfl))
  obtain ⟨n, o, h1, h2, h3, _, L, rfl, ⟨rfl, N⟩, -, hq⟩ := rm0 l s _ hw tables_1 i0 i1 i2 i3 va _ ou oq em flu fvu _ flq fvq _ cs s.heap s.heap.size (Nat.le_refl _) S_V V_va E_va hfit S_em S_cs hcs (Old.start s) F_flu E_flu F_fvu F_fluc V_fvu F_flq E_flq F_fvq F_flqc V_fvq S_ou S_oq E_em F_em p e ha hc hk s m _ below hf ((Spec.applies_iff_loose hf).mp happ).1 ⟨rfl, State.Warmed39.refl s, rfl, hCHs⟩ trivial
  refine ⟨n, _, h1, h2, h3, hpost _ _ _ _ _ _ ⟨Cond.after_iff.mpr rfl, Cond.after_iff.mpr (eq_i res_at (Term.int_eval (1)) rfl), trivial⟩ ⟨hq.1, hq.2.1, hq.2.2.1, (hq.2.2.2.sift fun y hy => Or.inr (N y hy)).mono (by decide) (by decide)⟩⟩
theorem main_1_1 : Claimed_1_1 := comes_1 fun _ _ _ _ _ _ h hF => ⟨h.1, hF⟩
theorem main_1_2 : Claimed_1_2 := comes_1 fun _ _ _ _ _ _ h hF => ⟨h.2.1, hF⟩
end Jvm.Pilot.@@N@@
namespace Jvm.Pilot.@@N@@
open Jvm Jvm.ClassFile Sem Op Lib Jvm.Free Jvm.Stand Jvm.Pilot.@@N@@.Jvm.D
/-! MADE BY PROGRAM (witnessworld.py) out of the Statement's table words and the real class files: 24 classes; the members and pool entries that the words name. The judged class is class 1, her method 1. -/
namespace start1
open Jvm.ClassFile
def u (s : String) : CpInfo := .utf8 (stringToUtf16 s)
/-- a pool by its gaps: so many unusable entries, then the entry; so many at the end -/
def gap : Nat → List CpInfo → List CpInfo
  | 0, r => r
  | n + 1, r => .unusable :: gap n r
def poolList (es : List (Nat × CpInfo)) (last : Nat) : List CpInfo := es.foldr (fun e r => gap e.1 (e.2 :: r)) (gap last [])
def pool (es : List (Nat × CpInfo)) (last : Nat) : Array CpInfo := ⟨poolList es last⟩
def fileOf (pool : Array CpInfo) (this : Nat) (attrs : Array Attribute := #[]) (ms : Array MethodInfo := #[]) (fl : Nat := 33) (sup : Nat := 0) (ifs : Array Nat := #[]) (fds : Array FieldInfo := #[]) : ClassFile where
  minorVersion := 0
  majorVersion := 65
  constantPool := pool
  accessFlags := fl
  thisClass := this
  superClass := sup
  interfaces := ifs
  fields := fds
  methods := ms
  attributes := attrs
def plain (name : String) (sup : Option ClassId) : Class where
  name := name
  kind := .ordinary
  loader := none
  accessFlags := 33
  super := sup
  interfaces := #[]
  cf := none
  fields := #[]
  methods := #[]
  instanceTypes := #[]
  staticTypes := #[]
  resolved := #[]
  callSites := []
  init := .initialized
  statics := none
  mirror := none

def pool0 : Array CpInfo := pool [(5, u "<init>"), (0, u "()V"), (1, .class_ 10), (1, u "java/lang/Object"), (85, u "clone"), (0, u "()Ljava/lang/Object;")] 26

def k0c0 : Code := { maxStack := 0, maxLocals := 1, code := object_method_1_code, exceptionTable := #[], attributes := #[] }
def k0m0 : Method := { name := "<init>", desc := "()V", sig := { parameters := [], returnType := none }, accessFlags := 1, code := some k0c0 }
def k0m1 : Method := { name := "clone", desc := "()Ljava/lang/Object;", sig := { parameters := [], returnType := some (.object "java/lang/Object") }, accessFlags := 260, code := none }
/-- java/lang/Object -/
def k0 : Class := { plain "java/lang/Object" none with
  accessFlags := 33
  interfaces := #[]
  cf := some (fileOf pool0 8 #[] #[{ accessFlags := 1, nameIndex := 5, descriptorIndex := 6, attributes := #[] }, { accessFlags := 260, nameIndex := 96, descriptorIndex := 97, attributes := #[] }] 33 0 #[] #[])
  fields := #[]
  methods := #[k0m0, k0m1]
  instanceTypes := #[]
  staticTypes := #[]
  resolved := Array.replicate 124 none
  statics := none }

def pool1 : Array CpInfo := pool [(2, .class_ 4), (1, u "java/lang/Object"), (0, u "<init>"), (0, u "()V"), (0, .class_ 8), (0, u "java/lang/String"), (0, .methodref 7 10), (0, .nameAndType 5 11), (0, u "([C)V"), (0, .integer 2147483647), (0, .string 14), (0, u ""), (0, .methodref 7 16), (0, .nameAndType 17 18), (0, u "valueOf"), (0, u "(C)Ljava/lang/String;"), (0, .methodref 20 21), (0, .class_ 22), (0, .nameAndType 23 24), (0, u "com/example/durable_dispatch/durabledispatch/cli/Option"), (0, u "byFlag"), (0, u "(Ljava/lang/String;)Ljava/util/Optional;"), (0, .string 26), (0, u "--url"), (0, .methodref 7 28), (0, .nameAndType 29 30), (0, u "equals"), (0, u "(Ljava/lang/Object;)Z"), (0, .fieldref 20 32), (0, .nameAndType 33 34), (0, u "URL"), (0, u "Lcom/example/durable_dispatch/durabledispatch/cli/Option;"), (0, .string 36), (0, u "--queue"), (0, .fieldref 20 38), (0, .nameAndType 39 34), (0, u "QUEUE"), (0, .methodref 41 42), (0, .class_ 43), (0, .nameAndType 44 45), (0, u "java/util/Optional"), (0, u "isPresent"), (0, u "()Z"), (0, .methodref 41 47), (0, .nameAndType 48 49), (0, u "get"), (0, u "()Ljava/lang/Object;"), (0, .class_ 51), (0, u "com/example/durable_dispatch/durabledispatch/cli/OptionByFlagPinLaw"), (2, u "law"), (0, u "(IIII)Z")] 5

def k1m0 : Method := { name := "<init>", desc := "()V", sig := { parameters := [], returnType := none }, accessFlags := 1, code := none }
def k1c1 : Code := { maxStack := 6, maxLocals := 11, code := code, exceptionTable := #[], attributes := #[] }
def k1m1 : Method := { name := "law", desc := "(IIII)Z", sig := { parameters := [.int, .int, .int, .int], returnType := some .boolean }, accessFlags := 9, code := some k1c1 }
/-- com/example/durable_dispatch/durabledispatch/cli/OptionByFlagPinLaw -/
def k1 : Class := { plain "com/example/durable_dispatch/durabledispatch/cli/OptionByFlagPinLaw" (some 0) with
  accessFlags := 49
  interfaces := #[]
  cf := some (fileOf pool1 50 #[] #[{ accessFlags := 1, nameIndex := 5, descriptorIndex := 6, attributes := #[] }, { accessFlags := 9, nameIndex := 54, descriptorIndex := 55, attributes := #[] }] 49 2 #[] #[])
  fields := #[]
  methods := #[k1m0, k1m1]
  instanceTypes := #[]
  staticTypes := #[]
  resolved := Array.replicate 61 none
  statics := none }

def pool2 : Array CpInfo := pool [(1, .class_ 2), (0, u "java/io/Serializable"), (0, .class_ 4), (0, u "java/lang/Object")] 2

/-- java/io/Serializable -/
def k2 : Class := { plain "java/io/Serializable" (some 0) with
  accessFlags := 1537
  interfaces := #[]
  cf := some (fileOf pool2 1 #[] #[] 1537 3 #[] #[])
  fields := #[]
  methods := #[]
  instanceTypes := #[]
  staticTypes := #[]
  resolved := Array.replicate 7 none
  statics := none }

def pool3 : Array CpInfo := pool [(1, .class_ 2), (0, u "java/lang/Comparable"), (0, .class_ 4), (0, u "java/lang/Object")] 7

/-- java/lang/Comparable -/
def k3 : Class := { plain "java/lang/Comparable" (some 0) with
  accessFlags := 1537
  interfaces := #[]
  cf := some (fileOf pool3 1 #[] #[] 1537 3 #[] #[])
  fields := #[]
  methods := #[]
  instanceTypes := #[]
  staticTypes := #[]
  resolved := Array.replicate 12 none
  statics := none }

def pool4 : Array CpInfo := pool [(2, .class_ 4), (1, u "java/lang/CharSequence"), (42, .class_ 48), (0, u "java/lang/CharSequence$1CodePointIterator"), (10, .class_ 60), (0, u "java/lang/CharSequence$1CharIterator"), (5, .class_ 67), (0, u "java/lang/Object")] 63

/-- java/lang/CharSequence -/
def k4 : Class := { plain "java/lang/CharSequence" (some 0) with
  accessFlags := 1537
  interfaces := #[]
  cf := some (fileOf pool4 2 #[.nestMembers #[47, 59]] #[] 1537 66 #[] #[])
  fields := #[]
  methods := #[]
  instanceTypes := #[]
  staticTypes := #[]
  resolved := Array.replicate 131 none
  statics := none }

def pool5 : Array CpInfo := pool [(1, .class_ 2), (0, u "java/lang/constant/Constable"), (0, .class_ 4), (0, u "java/lang/Object")] 6

/-- java/lang/constant/Constable -/
def k5 : Class := { plain "java/lang/constant/Constable" (some 0) with
  accessFlags := 1537
  interfaces := #[]
  cf := some (fileOf pool5 1 #[] #[] 1537 3 #[] #[])
  fields := #[]
  methods := #[]
  instanceTypes := #[]
  staticTypes := #[]
  resolved := Array.replicate 11 none
  statics := none }

def pool6 : Array CpInfo := pool [(1, .class_ 2), (0, u "java/lang/constant/ConstantDesc"), (0, .class_ 4), (0, u "java/lang/Object")] 32

/-- java/lang/constant/ConstantDesc -/
def k6 : Class := { plain "java/lang/constant/ConstantDesc" (some 0) with
  accessFlags := 1537
  interfaces := #[]
  cf := some (fileOf pool6 1 #[] #[] 1537 3 #[] #[])
  fields := #[]
  methods := #[]
  instanceTypes := #[]
  staticTypes := #[]
  resolved := Array.replicate 37 none
  statics := none }

def pool7 : Array CpInfo := pool [(1, .methodref 2 3), (0, .class_ 4), (0, .nameAndType 5 6), (0, u "java/lang/Object"), (0, u "<init>"), (0, u "()V"), (2, .fieldref 10 11), (0, .class_ 12), (0, .nameAndType 13 14), (0, u "java/lang/String"), (0, u "value"), (0, u "[B"), (0, .fieldref 10 16), (0, .nameAndType 17 18), (0, u "coder"), (0, u "B"), (2, u "hash"), (0, u "I"), (2, u "hashIsZero"), (0, u "Z"), (0, .methodref 10 28), (0, .nameAndType 5 29), (0, u "([CIILjava/lang/Void;)V"), (8, .fieldref 10 39), (0, .nameAndType 40 26), (0, u "COMPACT_STRINGS"), (1, .class_ 44), (1, u "java/lang/StringUTF16"), (0, u "compress"), (1, .methodref 42 48), (0, .nameAndType 49 50), (0, u "coderFromArrayLen"), (0, u "([BI)B"), (2, u "toBytes"), (53, .class_ 109), (1, u "java/lang/StringLatin1"), (67, .methodref 42 178), (0, .nameAndType 45 179), (0, u "([CII)[B"), (29, .methodref 10 210), (0, .nameAndType 5 211), (0, u "([BB)V"), (157, u "(C)Z"), (171, .methodref 107 542), (0, .nameAndType 543 544), (0, u "equals"), (0, u "([B[B)Z"), (28, u "(Ljava/lang/Object;)Z"), (1, .class_ 576), (0, u "java/lang/CharSequence"), (22, u "CASE_INSENSITIVE_ORDER"), (0, u "Ljava/util/Comparator;"), (181, u "valueOf"), (0, u "(C)Ljava/lang/String;"), (226, u "([C)V"), (4, .methodref 107 1016), (0, .nameAndType 1017 369), (0, u "canEncode"), (0, .methodref 107 1019), (0, .nameAndType 53 1020), (0, u "(C)[B"), (80, u "serialPersistentFields"), (0, u "[Ljava/io/ObjectStreamField;"), (0, .class_ 1104), (0, u "java/lang/String$CaseInsensitiveComparator"), (1, .class_ 1107), (0, u "java/io/Serializable"), (0, .class_ 1109), (0, u "java/lang/Comparable"), (0, .class_ 1111), (0, u "java/lang/constant/Constable"), (0, .class_ 1113), (0, u "java/lang/constant/ConstantDesc"), (2, u "serialVersionUID"), (0, u "J"), (3, u "REPL"), (0, u "C"), (2, u "LATIN1"), (1, u "UTF16")] 323

def k7m0 : Method := { name := "<init>", desc := "()V", sig := { parameters := [], returnType := none }, accessFlags := 1, code := none }
def k7c1 : Code := { maxStack := 5, maxLocals := 2, code := jdk_42_method_3_code, exceptionTable := #[], attributes := #[] }
def k7m1 : Method := { name := "<init>", desc := "([C)V", sig := { parameters := [(.array .char)], returnType := none }, accessFlags := 1, code := some k7c1 }
def k7c2 : Code := { maxStack := 2, maxLocals := 3, code := jdk_42_method_66_code, exceptionTable := #[], attributes := #[] }
def k7m2 : Method := { name := "equals", desc := "(Ljava/lang/Object;)Z", sig := { parameters := [(.object "java/lang/Object")], returnType := some .boolean }, accessFlags := 1, code := some k7c2 }
def k7c3 : Code := { maxStack := 4, maxLocals := 1, code := jdk_42_method_139_code, exceptionTable := #[], attributes := #[] }
def k7m3 : Method := { name := "valueOf", desc := "(C)Ljava/lang/String;", sig := { parameters := [.char], returnType := some (.object "java/lang/String") }, accessFlags := 9, code := some k7c3 }
def k7c4 : Code := { maxStack := 4, maxLocals := 6, code := jdk_42_method_149_code, exceptionTable := #[], attributes := #[] }
def k7m4 : Method := { name := "<init>", desc := "([CIILjava/lang/Void;)V", sig := { parameters := [(.array .char), .int, .int, (.object "java/lang/Void")], returnType := none }, accessFlags := 2, code := some k7c4 }
def k7c5 : Code := { maxStack := 2, maxLocals := 3, code := jdk_42_method_151_code, exceptionTable := #[], attributes := #[] }
def k7m5 : Method := { name := "<init>", desc := "([BB)V", sig := { parameters := [(.array .byte), .byte], returnType := none }, accessFlags := 0, code := some k7c5 }
/-- java/lang/String -/
def k7 : Class := { plain "java/lang/String" (some 0) with
  accessFlags := 49
  interfaces := #[2, 3, 4, 5, 6]
  cf := some (fileOf pool7 10 #[.nestMembers #[1103]] #[{ accessFlags := 1, nameIndex := 5, descriptorIndex := 6, attributes := #[] }, { accessFlags := 1, nameIndex := 5, descriptorIndex := 1010, attributes := #[] }, { accessFlags := 1, nameIndex := 543, descriptorIndex := 573, attributes := #[] }, { accessFlags := 9, nameIndex := 782, descriptorIndex := 783, attributes := #[] }, { accessFlags := 2, nameIndex := 5, descriptorIndex := 29, attributes := #[] }, { accessFlags := 0, nameIndex := 5, descriptorIndex := 211, attributes := #[] }] 49 2 #[1106, 1108, 575, 1110, 1112] #[{ accessFlags := 18, nameIndex := 13, descriptorIndex := 14, attributes := #[] }, { accessFlags := 18, nameIndex := 17, descriptorIndex := 18, attributes := #[] }, { accessFlags := 2, nameIndex := 21, descriptorIndex := 22, attributes := #[] }, { accessFlags := 2, nameIndex := 25, descriptorIndex := 26, attributes := #[] }, { accessFlags := 26, nameIndex := 1116, descriptorIndex := 1117, attributes := #[] }, { accessFlags := 24, nameIndex := 40, descriptorIndex := 26, attributes := #[] }, { accessFlags := 26, nameIndex := 1101, descriptorIndex := 1102, attributes := #[] }, { accessFlags := 26, nameIndex := 1121, descriptorIndex := 1122, attributes := #[] }, { accessFlags := 25, nameIndex := 599, descriptorIndex := 600, attributes := #[] }, { accessFlags := 24, nameIndex := 1125, descriptorIndex := 18, attributes := #[] }, { accessFlags := 24, nameIndex := 1127, descriptorIndex := 18, attributes := #[] }])
  fields := #[{ name := "value", type := (.array .byte), accessFlags := 18, slot := 0, constantValue := 0 }, { name := "coder", type := .byte, accessFlags := 18, slot := 1, constantValue := 0 }, { name := "hash", type := .int, accessFlags := 2, slot := 2, constantValue := 0 }, { name := "hashIsZero", type := .boolean, accessFlags := 2, slot := 3, constantValue := 0 }, { name := "serialVersionUID", type := .long, accessFlags := 26, slot := 0, constantValue := 0 }, { name := "COMPACT_STRINGS", type := .boolean, accessFlags := 24, slot := 1, constantValue := 0 }, { name := "serialPersistentFields", type := (.array (.object "java/io/ObjectStreamField")), accessFlags := 26, slot := 2, constantValue := 0 }, { name := "REPL", type := .char, accessFlags := 26, slot := 3, constantValue := 0 }, { name := "CASE_INSENSITIVE_ORDER", type := (.object "java/util/Comparator"), accessFlags := 25, slot := 4, constantValue := 0 }, { name := "LATIN1", type := .byte, accessFlags := 24, slot := 5, constantValue := 0 }, { name := "UTF16", type := .byte, accessFlags := 24, slot := 6, constantValue := 0 }]
  methods := #[k7m0, k7m1, k7m2, k7m3, k7m4, k7m5]
  instanceTypes := #[(.array .byte), .byte, .int, .boolean]
  staticTypes := #[.long, .boolean, (.array (.object "java/io/ObjectStreamField")), .char, (.object "java/util/Comparator"), .byte, .byte]
  resolved := Array.replicate 1451 none
  statics := some 0 }

def pool8 : Array CpInfo := pool [(6, .class_ 8), (1, u "java/lang/Object"), (0, u "<init>"), (0, u "()V"), (1, .class_ 14), (1, u "java/lang/StringUTF16"), (31, u "$assertionsDisabled"), (0, u "Z"), (13, u "HI_BYTE_SHIFT"), (0, u "I"), (2, u "LO_BYTE_SHIFT"), (49, .methodref 12 116), (0, .nameAndType 117 118), (0, u "compress"), (0, u "([CI[BII)I"), (3, u "([CII)[B"), (138, u "coderFromArrayLen"), (0, u "([BI)B"), (106, .class_ 371), (1, u "java/lang/StringUTF16$LinesSpliterator"), (58, u "MAX_LENGTH"), (196, .class_ 628), (0, u "java/lang/StringUTF16$CodePointsSpliterator"), (0, .class_ 630), (0, u "java/lang/StringUTF16$CharsSpliterator")] 4

def k8m0 : Method := { name := "<init>", desc := "()V", sig := { parameters := [], returnType := none }, accessFlags := 0, code := none }
def k8c1 : Code := { maxStack := 2, maxLocals := 2, code := jdk_52_method_15_code, exceptionTable := #[], attributes := #[] }
def k8m1 : Method := { name := "coderFromArrayLen", desc := "([BI)B", sig := { parameters := [(.array .byte), .int], returnType := some .byte }, accessFlags := 8, code := some k8c1 }
def k8c2 : Code := { maxStack := 5, maxLocals := 6, code := jdk_52_method_16_code, exceptionTable := #[], attributes := #[] }
def k8m2 : Method := { name := "compress", desc := "([CII)[B", sig := { parameters := [(.array .char), .int, .int], returnType := some (.array .byte) }, accessFlags := 9, code := some k8c2 }
def k8c3 : Code := { maxStack := 3, maxLocals := 7, code := jdk_52_method_21_code, exceptionTable := #[], attributes := #[] }
def k8m3 : Method := { name := "compress", desc := "([CI[BII)I", sig := { parameters := [(.array .char), .int, (.array .byte), .int, .int], returnType := some .int }, accessFlags := 9, code := some k8c3 }
/-- java/lang/StringUTF16 -/
def k8 : Class := { plain "java/lang/StringUTF16" (some 0) with
  accessFlags := 48
  interfaces := #[]
  cf := some (fileOf pool8 12 #[.nestMembers #[627, 629, 369]] #[{ accessFlags := 0, nameIndex := 9, descriptorIndex := 10, attributes := #[] }, { accessFlags := 8, nameIndex := 261, descriptorIndex := 262, attributes := #[] }, { accessFlags := 9, nameIndex := 117, descriptorIndex := 122, attributes := #[] }, { accessFlags := 9, nameIndex := 117, descriptorIndex := 118, attributes := #[] }] 48 6 #[] #[{ accessFlags := 26, nameIndex := 61, descriptorIndex := 62, attributes := #[] }, { accessFlags := 26, nameIndex := 65, descriptorIndex := 62, attributes := #[] }, { accessFlags := 24, nameIndex := 430, descriptorIndex := 62, attributes := #[] }, { accessFlags := 4120, nameIndex := 46, descriptorIndex := 47, attributes := #[] }])
  fields := #[{ name := "HI_BYTE_SHIFT", type := .int, accessFlags := 26, slot := 0, constantValue := 0 }, { name := "LO_BYTE_SHIFT", type := .int, accessFlags := 26, slot := 1, constantValue := 0 }, { name := "MAX_LENGTH", type := .int, accessFlags := 24, slot := 2, constantValue := 0 }, { name := "$assertionsDisabled", type := .boolean, accessFlags := 4120, slot := 3, constantValue := 0 }]
  methods := #[k8m0, k8m1, k8m2, k8m3]
  instanceTypes := #[]
  staticTypes := #[.int, .int, .int, .boolean]
  resolved := Array.replicate 635 none
  statics := none }

def pool9 : Array CpInfo := pool [(2, .class_ 4), (1, u "java/lang/Enum"), (0, u "name"), (0, u "Ljava/lang/String;"), (2, u "ordinal"), (0, u "I"), (1, .class_ 14), (1, u "java/lang/Object"), (4, u "hash"), (86, .class_ 108), (1, u "java/lang/Enum$EnumDesc"), (2, .class_ 112), (0, u "java/lang/constant/Constable"), (0, .class_ 114), (0, u "java/lang/Comparable"), (0, .class_ 116), (0, u "java/io/Serializable")] 87

/-- java/lang/Enum -/
def k9 : Class := { plain "java/lang/Enum" (some 0) with
  accessFlags := 1057
  interfaces := #[5, 3, 2]
  cf := some (fileOf pool9 2 #[.nestMembers #[106]] #[] 1057 12 #[111, 113, 115] #[{ accessFlags := 18, nameIndex := 5, descriptorIndex := 6, attributes := #[] }, { accessFlags := 18, nameIndex := 9, descriptorIndex := 10, attributes := #[] }, { accessFlags := 2, nameIndex := 19, descriptorIndex := 10, attributes := #[] }])
  fields := #[{ name := "name", type := (.object "java/lang/String"), accessFlags := 18, slot := 0, constantValue := 0 }, { name := "ordinal", type := .int, accessFlags := 18, slot := 1, constantValue := 0 }, { name := "hash", type := .int, accessFlags := 2, slot := 2, constantValue := 0 }]
  methods := #[]
  instanceTypes := #[(.object "java/lang/String"), .int, .int]
  staticTypes := #[]
  resolved := Array.replicate 204 none
  statics := none }

def pool10 : Array CpInfo := pool [(1, .class_ 2), (0, u "com/example/durable_dispatch/durabledispatch/cli/Option"), (2, u "URL"), (0, u "Lcom/example/durable_dispatch/durabledispatch/cli/Option;"), (2, u "QUEUE"), (0, .fieldref 1 11), (0, .nameAndType 12 13), (0, u "$VALUES"), (0, u "[Lcom/example/durable_dispatch/durabledispatch/cli/Option;"), (0, .methodref 15 16), (0, .class_ 13), (0, .nameAndType 17 18), (0, u "clone"), (0, u "()Ljava/lang/Object;"), (1, .class_ 22), (1, u "java/lang/Enum"), (6, .fieldref 1 30), (0, .nameAndType 31 32), (0, u "flag"), (0, u "Ljava/lang/String;"), (2, u "placeholder"), (0, .methodref 1 37), (0, .nameAndType 38 39), (0, u "values"), (0, u "()[Lcom/example/durable_dispatch/durabledispatch/cli/Option;"), (0, .methodref 41 42), (0, .class_ 43), (0, .nameAndType 44 45), (0, u "java/lang/String"), (0, u "equals"), (0, u "(Ljava/lang/Object;)Z"), (0, .methodref 47 48), (0, .class_ 49), (0, .nameAndType 50 51), (0, u "java/util/Optional"), (0, u "of"), (0, u "(Ljava/lang/Object;)Ljava/util/Optional;"), (0, .methodref 47 53), (0, .nameAndType 54 55), (0, u "empty"), (0, u "()Ljava/util/Optional;"), (26, u "byFlag"), (0, u "(Ljava/lang/String;)Ljava/util/Optional;")] 24

def k10c0 : Code := { maxStack := 1, maxLocals := 0, code := prog_1_method_1_code, exceptionTable := #[], attributes := #[] }
def k10m0 : Method := { name := "values", desc := "()[Lcom/example/durable_dispatch/durabledispatch/cli/Option;", sig := { parameters := [], returnType := some (.array (.object "com/example/durable_dispatch/durabledispatch/cli/Option")) }, accessFlags := 9, code := some k10c0 }
def k10c1 : Code := { maxStack := 2, maxLocals := 5, code := prog_1_method_4_code, exceptionTable := #[], attributes := #[] }
def k10m1 : Method := { name := "byFlag", desc := "(Ljava/lang/String;)Ljava/util/Optional;", sig := { parameters := [(.object "java/lang/String")], returnType := some (.object "java/util/Optional") }, accessFlags := 8, code := some k10c1 }
/-- com/example/durable_dispatch/durabledispatch/cli/Option -/
def k10 : Class := { plain "com/example/durable_dispatch/durabledispatch/cli/Option" (some 9) with
  accessFlags := 16432
  interfaces := #[]
  cf := some (fileOf pool10 1 #[] #[{ accessFlags := 9, nameIndex := 38, descriptorIndex := 39, attributes := #[] }, { accessFlags := 8, nameIndex := 82, descriptorIndex := 83, attributes := #[] }] 16432 20 #[] #[{ accessFlags := 16409, nameIndex := 5, descriptorIndex := 6, attributes := #[] }, { accessFlags := 16409, nameIndex := 9, descriptorIndex := 6, attributes := #[] }, { accessFlags := 18, nameIndex := 31, descriptorIndex := 32, attributes := #[] }, { accessFlags := 18, nameIndex := 35, descriptorIndex := 32, attributes := #[] }, { accessFlags := 4122, nameIndex := 12, descriptorIndex := 13, attributes := #[] }])
  fields := #[{ name := "URL", type := (.object "com/example/durable_dispatch/durabledispatch/cli/Option"), accessFlags := 16409, slot := 0, constantValue := 0 }, { name := "QUEUE", type := (.object "com/example/durable_dispatch/durabledispatch/cli/Option"), accessFlags := 16409, slot := 1, constantValue := 0 }, { name := "flag", type := (.object "java/lang/String"), accessFlags := 18, slot := 3, constantValue := 0 }, { name := "placeholder", type := (.object "java/lang/String"), accessFlags := 18, slot := 4, constantValue := 0 }, { name := "$VALUES", type := (.array (.object "com/example/durable_dispatch/durabledispatch/cli/Option")), accessFlags := 4122, slot := 2, constantValue := 0 }]
  methods := #[k10m0, k10m1]
  instanceTypes := #[(.object "java/lang/String"), .int, .int, (.object "java/lang/String"), (.object "java/lang/String")]
  staticTypes := #[(.object "com/example/durable_dispatch/durabledispatch/cli/Option"), (.object "com/example/durable_dispatch/durabledispatch/cli/Option"), (.array (.object "com/example/durable_dispatch/durabledispatch/cli/Option"))]
  resolved := Array.replicate 108 none
  statics := some 1 }

def pool11 : Array CpInfo := pool [(1, .class_ 2), (0, u "java/lang/Cloneable"), (0, .class_ 4), (0, u "java/lang/Object")] 2

/-- java/lang/Cloneable -/
def k11 : Class := { plain "java/lang/Cloneable" (some 0) with
  accessFlags := 1537
  interfaces := #[]
  cf := some (fileOf pool11 1 #[] #[] 1537 3 #[] #[])
  fields := #[]
  methods := #[]
  instanceTypes := #[]
  staticTypes := #[]
  resolved := Array.replicate 7 none
  statics := none }

def pool12 : Array CpInfo := pool [(4, .class_ 6), (1, u "java/lang/Object"), (0, u "<init>"), (0, u "()V"), (5, .class_ 16), (1, u "java/lang/StringLatin1"), (73, u "canEncode"), (14, u "(C)Z"), (15, u "$assertionsDisabled"), (0, u "Z"), (98, .class_ 223), (1, u "java/lang/StringLatin1$LinesSpliterator"), (57, u "equals"), (0, u "([B[B)Z"), (97, u "toBytes"), (1, u "(C)[B"), (7, .class_ 391), (0, u "java/lang/StringLatin1$CharsSpliterator")] 3

def k12m0 : Method := { name := "<init>", desc := "()V", sig := { parameters := [], returnType := none }, accessFlags := 0, code := none }
def k12c1 : Code := { maxStack := 2, maxLocals := 1, code := jdk_43_method_3_code, exceptionTable := #[], attributes := #[] }
def k12m1 : Method := { name := "canEncode", desc := "(C)Z", sig := { parameters := [.char], returnType := some .boolean }, accessFlags := 9, code := some k12c1 }
def k12c2 : Code := { maxStack := 3, maxLocals := 3, code := jdk_43_method_13_code, exceptionTable := #[], attributes := #[] }
def k12m2 : Method := { name := "equals", desc := "([B[B)Z", sig := { parameters := [(.array .byte), (.array .byte)], returnType := some .boolean }, accessFlags := 9, code := some k12c2 }
def k12c3 : Code := { maxStack := 4, maxLocals := 1, code := jdk_43_method_46_code, exceptionTable := #[], attributes := #[] }
def k12m3 : Method := { name := "toBytes", desc := "(C)[B", sig := { parameters := [.char], returnType := some (.array .byte) }, accessFlags := 9, code := some k12c3 }
/-- java/lang/StringLatin1 -/
def k12 : Class := { plain "java/lang/StringLatin1" (some 0) with
  accessFlags := 48
  interfaces := #[]
  cf := some (fileOf pool12 14 #[.nestMembers #[390, 221]] #[{ accessFlags := 0, nameIndex := 7, descriptorIndex := 8, attributes := #[] }, { accessFlags := 9, nameIndex := 90, descriptorIndex := 105, attributes := #[] }, { accessFlags := 9, nameIndex := 281, descriptorIndex := 282, attributes := #[] }, { accessFlags := 9, nameIndex := 380, descriptorIndex := 382, attributes := #[] }] 48 4 #[] #[{ accessFlags := 4120, nameIndex := 121, descriptorIndex := 122, attributes := #[] }])
  fields := #[{ name := "$assertionsDisabled", type := .boolean, accessFlags := 4120, slot := 0, constantValue := 0 }]
  methods := #[k12m0, k12m1, k12m2, k12m3]
  instanceTypes := #[]
  staticTypes := #[.boolean]
  resolved := Array.replicate 395 none
  statics := none }

def pool13 : Array CpInfo := pool [(1, .fieldref 2 3), (0, .class_ 4), (0, .nameAndType 5 6), (0, u "java/util/Optional"), (0, u "EMPTY"), (0, u "Ljava/util/Optional;"), (0, .methodref 8 9), (0, .class_ 10), (0, .nameAndType 11 12), (0, u "java/lang/Object"), (0, u "<init>"), (0, u "()V"), (0, .fieldref 2 14), (0, .nameAndType 15 16), (0, u "value"), (0, u "Ljava/lang/Object;"), (0, .methodref 18 19), (0, .class_ 20), (0, .nameAndType 21 22), (0, u "java/util/Objects"), (0, u "requireNonNull"), (0, u "(Ljava/lang/Object;)Ljava/lang/Object;"), (0, .methodref 2 24), (0, .nameAndType 11 25), (0, u "(Ljava/lang/Object;)V"), (20, u "()Z"), (8, u "empty"), (0, u "()Ljava/util/Optional;"), (8, u "(Ljava/lang/Object;)Ljava/util/Optional;"), (2, u "isPresent"), (4, u "get"), (0, u "()Ljava/lang/Object;"), (7, u "of")] 104

def k13c0 : Code := { maxStack := 1, maxLocals := 1, code := jdk_32_method_1_code, exceptionTable := #[], attributes := #[] }
def k13m0 : Method := { name := "empty", desc := "()Ljava/util/Optional;", sig := { parameters := [], returnType := some (.object "java/util/Optional") }, accessFlags := 9, code := some k13c0 }
def k13c1 : Code := { maxStack := 2, maxLocals := 2, code := jdk_32_method_2_code, exceptionTable := #[], attributes := #[] }
def k13m1 : Method := { name := "<init>", desc := "(Ljava/lang/Object;)V", sig := { parameters := [(.object "java/lang/Object")], returnType := none }, accessFlags := 2, code := some k13c1 }
def k13c2 : Code := { maxStack := 3, maxLocals := 1, code := jdk_32_method_3_code, exceptionTable := #[], attributes := #[] }
def k13m2 : Method := { name := "of", desc := "(Ljava/lang/Object;)Ljava/util/Optional;", sig := { parameters := [(.object "java/lang/Object")], returnType := some (.object "java/util/Optional") }, accessFlags := 9, code := some k13c2 }
def k13c3 : Code := { maxStack := 3, maxLocals := 1, code := jdk_32_method_5_code, exceptionTable := #[], attributes := #[] }
def k13m3 : Method := { name := "get", desc := "()Ljava/lang/Object;", sig := { parameters := [], returnType := some (.object "java/lang/Object") }, accessFlags := 1, code := some k13c3 }
def k13c4 : Code := { maxStack := 1, maxLocals := 1, code := jdk_32_method_6_code, exceptionTable := #[], attributes := #[] }
def k13m4 : Method := { name := "isPresent", desc := "()Z", sig := { parameters := [], returnType := some .boolean }, accessFlags := 1, code := some k13c4 }
/-- java/util/Optional -/
def k13 : Class := { plain "java/util/Optional" (some 0) with
  accessFlags := 49
  interfaces := #[]
  cf := some (fileOf pool13 2 #[] #[{ accessFlags := 9, nameIndex := 55, descriptorIndex := 56, attributes := #[] }, { accessFlags := 2, nameIndex := 11, descriptorIndex := 25, attributes := #[] }, { accessFlags := 9, nameIndex := 82, descriptorIndex := 65, attributes := #[] }, { accessFlags := 1, nameIndex := 73, descriptorIndex := 74, attributes := #[] }, { accessFlags := 1, nameIndex := 68, descriptorIndex := 46, attributes := #[] }] 49 8 #[] #[{ accessFlags := 26, nameIndex := 5, descriptorIndex := 6, attributes := #[] }, { accessFlags := 18, nameIndex := 15, descriptorIndex := 16, attributes := #[] }])
  fields := #[{ name := "EMPTY", type := (.object "java/util/Optional"), accessFlags := 26, slot := 0, constantValue := 0 }, { name := "value", type := (.object "java/lang/Object"), accessFlags := 18, slot := 0, constantValue := 0 }]
  methods := #[k13m0, k13m1, k13m2, k13m3, k13m4]
  instanceTypes := #[(.object "java/lang/Object")]
  staticTypes := #[(.object "java/util/Optional")]
  resolved := Array.replicate 187 none
  statics := some 2 }

def pool14 : Array CpInfo := pool [(2, .class_ 4), (1, u "java/lang/Object"), (0, u "<init>"), (0, u "()V"), (35, .class_ 44), (1, u "java/util/Objects"), (0, u "requireNonNull"), (0, u "(Ljava/lang/Object;)Ljava/lang/Object;")] 137

def k14m0 : Method := { name := "<init>", desc := "()V", sig := { parameters := [], returnType := none }, accessFlags := 2, code := none }
def k14c1 : Code := { maxStack := 2, maxLocals := 1, code := jdk_31_method_10_code, exceptionTable := #[], attributes := #[] }
def k14m1 : Method := { name := "requireNonNull", desc := "(Ljava/lang/Object;)Ljava/lang/Object;", sig := { parameters := [(.object "java/lang/Object")], returnType := some (.object "java/lang/Object") }, accessFlags := 9, code := some k14c1 }
/-- java/util/Objects -/
def k14 : Class := { plain "java/util/Objects" (some 0) with
  accessFlags := 49
  interfaces := #[]
  cf := some (fileOf pool14 42 #[] #[{ accessFlags := 2, nameIndex := 5, descriptorIndex := 6, attributes := #[] }, { accessFlags := 9, nameIndex := 45, descriptorIndex := 46, attributes := #[] }] 49 2 #[] #[])
  fields := #[]
  methods := #[k14m0, k14m1]
  instanceTypes := #[]
  staticTypes := #[]
  resolved := Array.replicate 184 none
  statics := none }

def pool15 : Array CpInfo := pool [(2, .class_ 4), (1, u "java/lang/Object"), (0, u "<init>"), (0, u "()V"), (17, .class_ 26), (1, u "jdk/internal/util/Preconditions"), (28, .class_ 56), (0, u "jdk/internal/util/Preconditions$4"), (57, .class_ 115), (0, u "jdk/internal/util/Preconditions$1"), (7, u "SIOOBE_FORMATTER"), (0, u "Ljava/util/function/BiFunction;"), (0, .class_ 126), (0, u "jdk/internal/util/Preconditions$2"), (3, u "AIOOBE_FORMATTER"), (0, .class_ 132), (0, u "jdk/internal/util/Preconditions$3"), (3, u "IOOBE_FORMATTER")] 57

def k15m0 : Method := { name := "<init>", desc := "()V", sig := { parameters := [], returnType := none }, accessFlags := 1, code := none }
/-- jdk/internal/util/Preconditions -/
def k15 : Class := { plain "jdk/internal/util/Preconditions" (some 0) with
  accessFlags := 33
  interfaces := #[]
  cf := some (fileOf pool15 24 #[.nestMembers #[55, 131, 125, 114]] #[{ accessFlags := 1, nameIndex := 5, descriptorIndex := 6, attributes := #[] }] 33 2 #[] #[{ accessFlags := 25, nameIndex := 123, descriptorIndex := 124, attributes := #[] }, { accessFlags := 25, nameIndex := 130, descriptorIndex := 124, attributes := #[] }, { accessFlags := 25, nameIndex := 136, descriptorIndex := 124, attributes := #[] }])
  fields := #[{ name := "SIOOBE_FORMATTER", type := (.object "java/util/function/BiFunction"), accessFlags := 25, slot := 0, constantValue := 0 }, { name := "AIOOBE_FORMATTER", type := (.object "java/util/function/BiFunction"), accessFlags := 25, slot := 1, constantValue := 0 }, { name := "IOOBE_FORMATTER", type := (.object "java/util/function/BiFunction"), accessFlags := 25, slot := 2, constantValue := 0 }]
  methods := #[k15m0]
  instanceTypes := #[]
  staticTypes := #[(.object "java/util/function/BiFunction"), (.object "java/util/function/BiFunction"), (.object "java/util/function/BiFunction")]
  resolved := Array.replicate 194 none
  statics := some 3 }

def pool16 : Array CpInfo := pool [(9, u "<init>"), (6, .class_ 18), (1, u "java/lang/Object"), (0, u "()V"), (1, .class_ 23), (1, u "jdk/internal/util/ArraysSupport"), (0, u "LOG2_ARRAY_LONG_INDEX_SCALE"), (0, u "I"), (2, u "U"), (0, u "Ljdk/internal/misc/Unsafe;"), (8, u "BIG_ENDIAN"), (0, u "Z"), (8, u "LOG2_BYTE_BIT_SIZE"), (4, u "LOG2_ARRAY_INT_INDEX_SCALE"), (54, u "JLA"), (0, u "Ljdk/internal/access/JavaLangAccess;"), (11, u "LOG2_ARRAY_BOOLEAN_INDEX_SCALE"), (9, u "LOG2_ARRAY_BYTE_INDEX_SCALE"), (5, u "LOG2_ARRAY_CHAR_INDEX_SCALE"), (5, u "LOG2_ARRAY_SHORT_INDEX_SCALE"), (18, u "LOG2_ARRAY_FLOAT_INDEX_SCALE"), (24, u "LOG2_ARRAY_DOUBLE_INDEX_SCALE"), (89, u "T_BOOLEAN"), (2, u "T_CHAR"), (1, u "T_FLOAT"), (1, u "T_DOUBLE"), (1, u "T_BYTE"), (1, u "T_SHORT"), (1, u "T_INT"), (1, u "T_LONG"), (1, u "SOFT_MAX_ARRAY_LENGTH")] 83

def k16m0 : Method := { name := "<init>", desc := "()V", sig := { parameters := [], returnType := none }, accessFlags := 2, code := none }
/-- jdk/internal/util/ArraysSupport -/
def k16 : Class := { plain "jdk/internal/util/ArraysSupport" (some 0) with
  accessFlags := 33
  interfaces := #[]
  cf := some (fileOf pool16 21 #[] #[{ accessFlags := 2, nameIndex := 9, descriptorIndex := 19, attributes := #[] }] 33 16 #[] #[{ accessFlags := 24, nameIndex := 28, descriptorIndex := 29, attributes := #[] }, { accessFlags := 26, nameIndex := 38, descriptorIndex := 39, attributes := #[] }, { accessFlags := 25, nameIndex := 121, descriptorIndex := 25, attributes := #[] }, { accessFlags := 25, nameIndex := 131, descriptorIndex := 25, attributes := #[] }, { accessFlags := 25, nameIndex := 137, descriptorIndex := 25, attributes := #[] }, { accessFlags := 25, nameIndex := 143, descriptorIndex := 25, attributes := #[] }, { accessFlags := 25, nameIndex := 53, descriptorIndex := 25, attributes := #[] }, { accessFlags := 25, nameIndex := 24, descriptorIndex := 25, attributes := #[] }, { accessFlags := 25, nameIndex := 162, descriptorIndex := 25, attributes := #[] }, { accessFlags := 25, nameIndex := 187, descriptorIndex := 25, attributes := #[] }, { accessFlags := 26, nameIndex := 48, descriptorIndex := 25, attributes := #[] }, { accessFlags := 25, nameIndex := 277, descriptorIndex := 25, attributes := #[] }, { accessFlags := 25, nameIndex := 280, descriptorIndex := 25, attributes := #[] }, { accessFlags := 25, nameIndex := 282, descriptorIndex := 25, attributes := #[] }, { accessFlags := 25, nameIndex := 284, descriptorIndex := 25, attributes := #[] }, { accessFlags := 25, nameIndex := 286, descriptorIndex := 25, attributes := #[] }, { accessFlags := 25, nameIndex := 288, descriptorIndex := 25, attributes := #[] }, { accessFlags := 25, nameIndex := 290, descriptorIndex := 25, attributes := #[] }, { accessFlags := 25, nameIndex := 292, descriptorIndex := 25, attributes := #[] }, { accessFlags := 26, nameIndex := 108, descriptorIndex := 109, attributes := #[] }, { accessFlags := 25, nameIndex := 294, descriptorIndex := 25, attributes := #[] }])
  fields := #[{ name := "U", type := (.object "jdk/internal/misc/Unsafe"), accessFlags := 24, slot := 0, constantValue := 0 }, { name := "BIG_ENDIAN", type := .boolean, accessFlags := 26, slot := 1, constantValue := 0 }, { name := "LOG2_ARRAY_BOOLEAN_INDEX_SCALE", type := .int, accessFlags := 25, slot := 2, constantValue := 0 }, { name := "LOG2_ARRAY_BYTE_INDEX_SCALE", type := .int, accessFlags := 25, slot := 3, constantValue := 0 }, { name := "LOG2_ARRAY_CHAR_INDEX_SCALE", type := .int, accessFlags := 25, slot := 4, constantValue := 0 }, { name := "LOG2_ARRAY_SHORT_INDEX_SCALE", type := .int, accessFlags := 25, slot := 5, constantValue := 0 }, { name := "LOG2_ARRAY_INT_INDEX_SCALE", type := .int, accessFlags := 25, slot := 6, constantValue := 0 }, { name := "LOG2_ARRAY_LONG_INDEX_SCALE", type := .int, accessFlags := 25, slot := 7, constantValue := 0 }, { name := "LOG2_ARRAY_FLOAT_INDEX_SCALE", type := .int, accessFlags := 25, slot := 8, constantValue := 0 }, { name := "LOG2_ARRAY_DOUBLE_INDEX_SCALE", type := .int, accessFlags := 25, slot := 9, constantValue := 0 }, { name := "LOG2_BYTE_BIT_SIZE", type := .int, accessFlags := 26, slot := 10, constantValue := 0 }, { name := "T_BOOLEAN", type := .int, accessFlags := 25, slot := 11, constantValue := 0 }, { name := "T_CHAR", type := .int, accessFlags := 25, slot := 12, constantValue := 0 }, { name := "T_FLOAT", type := .int, accessFlags := 25, slot := 13, constantValue := 0 }, { name := "T_DOUBLE", type := .int, accessFlags := 25, slot := 14, constantValue := 0 }, { name := "T_BYTE", type := .int, accessFlags := 25, slot := 15, constantValue := 0 }, { name := "T_SHORT", type := .int, accessFlags := 25, slot := 16, constantValue := 0 }, { name := "T_INT", type := .int, accessFlags := 25, slot := 17, constantValue := 0 }, { name := "T_LONG", type := .int, accessFlags := 25, slot := 18, constantValue := 0 }, { name := "JLA", type := (.object "jdk/internal/access/JavaLangAccess"), accessFlags := 26, slot := 19, constantValue := 0 }, { name := "SOFT_MAX_ARRAY_LENGTH", type := .int, accessFlags := 25, slot := 20, constantValue := 0 }]
  methods := #[k16m0]
  instanceTypes := #[]
  staticTypes := #[(.object "jdk/internal/misc/Unsafe"), .boolean, .int, .int, .int, .int, .int, .int, .int, .int, .int, .int, .int, .int, .int, .int, .int, .int, .int, (.object "jdk/internal/access/JavaLangAccess"), .int]
  resolved := Array.replicate 378 none
  statics := none }

/-- the primitive byte -/
def k17 : Class := { plain "byte" none with kind := .primitive 'B', accessFlags := 0x411 }
/-- [B -/
def k18 : Class := { plain "[B" (some 0) with kind := .array 17 .byte, interfaces := #[11, 2], accessFlags := 1041 }

/-- the primitive char -/
def k19 : Class := { plain "char" none with kind := .primitive 'C', accessFlags := 0x411 }
/-- [C -/
def k20 : Class := { plain "[C" (some 0) with kind := .array 19 .char, interfaces := #[11, 2], accessFlags := 1041 }

/-- the primitive int -/
def k21 : Class := { plain "int" none with kind := .primitive 'I', accessFlags := 0x411 }
/-- [I -/
def k22 : Class := { plain "[I" (some 0) with kind := .array 21 .int, interfaces := #[11, 2], accessFlags := 1041 }

/-- [Lcom/example/durable_dispatch/durabledispatch/cli/Option; -/
def k23 : Class := { plain "[Lcom/example/durable_dispatch/durabledispatch/cli/Option;" (some 0) with kind := .array 10 (.object "com/example/durable_dispatch/durabledispatch/cli/Option"), interfaces := #[11, 2], accessFlags := 1041 }

def heap : Heap := #[{ cls := 7, slots := #[.long 0, .int 1, .null, .int 0, .null, .int 0, .int 0], vm := .statics 7 },
  { cls := 10, slots := #[.ref 5, .ref 6, .ref 4], vm := .statics 10 },
  { cls := 13, slots := #[.ref 11], vm := .statics 13 },
  { cls := 15, slots := #[.null, .null, .null], vm := .statics 15 },
  { cls := 23, slots := #[.ref 5, .ref 6], vm := .none },
  { cls := 10, slots := #[.null, .int 0, .int 0, .ref 7, .null], vm := .none },
  { cls := 10, slots := #[.null, .int 1, .int 0, .ref 9, .null], vm := .none },
  { cls := 7, slots := #[.ref 8, .int 0, .int 0, .int 0], vm := .none },
  { cls := 18, slots := #[.int 45, .int 45, .int 117, .int 114, .int 108], vm := .none },
  { cls := 7, slots := #[.ref 10, .int 0, .int 0, .int 0], vm := .none },
  { cls := 18, slots := #[.int 45, .int 45, .int 113, .int 117, .int 101, .int 117, .int 101], vm := .none },
  { cls := 13, slots := #[.null], vm := .none }]
def classes : Array Class := #[k0, k1, k2, k3, k4, k5, k6, k7, k8, k9, k10, k11, k12, k13, k14, k15, k16, k17, k18, k19, k20, k21, k22, k23]
def interned : List (Array UInt16 × Addr) := []
def slotsUsed : Nat := 47
def theMethod : MethodId := ⟨1, 1⟩
def args0 : Array Value := #[.int 5, .int 6, .int 7, .int 8]
def aboutOver (below : List Frame) : State where
  vm := { classes := classes, interned := interned.toArray }
  heap := heap
  slotsUsed := slotsUsed
  threads := #[{ frames := .invoking theMethod args0 :: below }]
def below0 : List Frame := [.native { method := ⟨0, 0⟩, args := #[] }]
def about1 : State := aboutOver below0
def p0 : Program := .bare "" "" ""
def e0 : Env := launch0.env 0 0 0
theorem w_frames : about1.frames = Frame.invoking theMethod args0 :: below0 := rfl
set_option maxRecDepth 65536 in
theorem w_args : argsFit about1.vm theMethod args0 = true := by decide +kernel
set_option maxRecDepth 65536 in
theorem w_heap : heapFits about1 = true := by decide +kernel
set_option maxRecDepth 65536 in
theorem w_runnable : about1.curStatus? = some .runnable := by decide +kernel
set_option maxRecDepth 65536 in
theorem w_alone : about1.alone = true := by decide +kernel
set_option maxRecDepth 65536 in
theorem w_named : about1.methodNamed? x = some theMethod := by decide +kernel
set_option maxRecDepth 65536 in
theorem w_hears : about1.hears theMethod below0 = true := by decide +kernel
set_option maxRecDepth 65536 in
theorem w_ripe : about1.ripe theMethod args0 below0 = true := by decide +kernel
theorem w_running : about1.status = .running := rfl
set_option maxRecDepth 65536 in
theorem w_room : about1.hasRoom e0.platform room_1 = true :=
  launch0.hasRoom_least _ room_1 (by decide +kernel) (by decide +kernel) (by decide +kernel) (by decide +kernel) (by decide +kernel) (by decide +kernel)
theorem allAtoms_all (ts : List Jvm.Cond) (a : Array Jvm.Value) (st : Jvm.State) : (allAtoms ts).before a st = ts.all (fun c => c.before a st) := by
  induction ts with
  | nil => rfl
  | cons c t ih =>
    show (Jvm.Cond.and c (allAtoms t)).before a st = _
    rw [Jvm.Cond.before_and, ih, List.all_cons]
def words1 : List Jvm.Cond := Jvm.Cond.code x code maxLocals ret :: tables_1
/-- a 'code' word, met by the world's own term for the bytes: nothing is compared byte by byte -/
theorem code_word {y : MethodName} {bytes : ByteArray} {mx : Nat} {rt : Option FieldType} {a : Array Value} {s : State} {m : MethodId} {meth : Method} {c : Code} (h1 : s.methodNamed? y = some m) (h2 : s.vm.method? m = some meth) (h3 : meth.code = some c) (h4 : c.code = bytes)
    (h5 : (c.maxLocals == mx && c.exceptionTable.isEmpty && decide (c.maxStack ≤ mostOperands) && decide (meth.sig.returnType = rt) && !meth.locks && decide (parseMethodDescriptor y.desc = some meth.sig)) = true) : (Jvm.Cond.code y bytes mx rt).before a s = true := by
  simp only [Bool.and_eq_true, beq_iff_eq, Bool.not_eq_true', decide_eq_true_eq] at h5
  obtain ⟨⟨⟨⟨⟨g1, g2⟩, g3⟩, g4⟩, g5⟩, g6⟩ := h5
  simp [Cond.before, Cond.holds, Cond.value, h1, h2, h3, h4, g1, g2, g3, g4, g5, g6]
def isCode : Jvm.Cond → Bool
  | .code _ _ _ _ => true
  | _ => false
theorem all_split {L : List Jvm.Cond} {P : Jvm.Cond → Bool} (h1 : L.all (fun c => isCode c || P c) = true) (h2 : ∀ c ∈ L.filter isCode, P c = true) : L.all P = true := by
  refine List.all_eq_true.mpr fun c hc => ?_
  have h := List.all_eq_true.mp h1 c hc
  rcases Bool.eq_false_or_eq_true (isCode c) with hi | hi
  · exact h2 c (List.mem_filter.mpr ⟨hc, hi⟩)
  · simpa [hi] using h
set_option maxRecDepth 65536 in
theorem w_c0 : (Jvm.Cond.code x code maxLocals ret).before args0 about1 = true := code_word (m := ⟨1, 1⟩) (meth := k1m1) (c := k1c1) (by decide +kernel) rfl rfl rfl (by decide +kernel)
set_option maxRecDepth 65536 in
theorem w_c1 : (Jvm.Cond.code ({ cls := "java/lang/String", name := "<init>", desc := "([C)V" } : Jvm.MethodName) jdk_42_method_3_code (2 : Nat) (Option.none : Option Jvm.ClassFile.FieldType)).before args0 about1 = true := code_word (m := ⟨7, 1⟩) (meth := k7m1) (c := k7c1) (by decide +kernel) rfl rfl rfl (by decide +kernel)
set_option maxRecDepth 65536 in
theorem w_c2 : (Jvm.Cond.code ({ cls := "java/lang/String", name := "<init>", desc := "([CIILjava/lang/Void;)V" } : Jvm.MethodName) jdk_42_method_149_code (6 : Nat) (Option.none : Option Jvm.ClassFile.FieldType)).before args0 about1 = true := code_word (m := ⟨7, 4⟩) (meth := k7m4) (c := k7c4) (by decide +kernel) rfl rfl rfl (by decide +kernel)
set_option maxRecDepth 65536 in
theorem w_c3 : (Jvm.Cond.code ({ cls := "java/lang/Object", name := "<init>", desc := "()V" } : Jvm.MethodName) object_method_1_code (1 : Nat) (Option.none : Option Jvm.ClassFile.FieldType)).before args0 about1 = true := code_word (m := ⟨0, 0⟩) (meth := k0m0) (c := k0c0) (by decide +kernel) rfl rfl rfl (by decide +kernel)
set_option maxRecDepth 65536 in
theorem w_c4 : (Jvm.Cond.code ({ cls := "java/lang/StringUTF16", name := "compress", desc := "([CII)[B" } : Jvm.MethodName) jdk_52_method_16_code (6 : Nat) (Option.some (Jvm.ClassFile.FieldType.array Jvm.ClassFile.FieldType.byte))).before args0 about1 = true := code_word (m := ⟨8, 2⟩) (meth := k8m2) (c := k8c2) (by decide +kernel) rfl rfl rfl (by decide +kernel)
set_option maxRecDepth 65536 in
theorem w_c5 : (Jvm.Cond.code ({ cls := "java/lang/StringUTF16", name := "compress", desc := "([CI[BII)I" } : Jvm.MethodName) jdk_52_method_21_code (7 : Nat) (Option.some Jvm.ClassFile.FieldType.int)).before args0 about1 = true := code_word (m := ⟨8, 3⟩) (meth := k8m3) (c := k8c3) (by decide +kernel) rfl rfl rfl (by decide +kernel)
set_option maxRecDepth 65536 in
theorem w_c6 : (Jvm.Cond.code ({ cls := "java/lang/StringUTF16", name := "coderFromArrayLen", desc := "([BI)B" } : Jvm.MethodName) jdk_52_method_15_code (2 : Nat) (Option.some Jvm.ClassFile.FieldType.byte)).before args0 about1 = true := code_word (m := ⟨8, 1⟩) (meth := k8m1) (c := k8c1) (by decide +kernel) rfl rfl rfl (by decide +kernel)
set_option maxRecDepth 65536 in
theorem w_c7 : (Jvm.Cond.code ({ cls := "com/example/durable_dispatch/durabledispatch/cli/Option", name := "byFlag", desc := "(Ljava/lang/String;)Ljava/util/Optional;" } : Jvm.MethodName) prog_1_method_4_code (5 : Nat) (Option.some (Jvm.ClassFile.FieldType.object "java/util/Optional"))).before args0 about1 = true := code_word (m := ⟨10, 1⟩) (meth := k10m1) (c := k10c1) (by decide +kernel) rfl rfl rfl (by decide +kernel)
set_option maxRecDepth 65536 in
theorem w_c8 : (Jvm.Cond.code ({ cls := "com/example/durable_dispatch/durabledispatch/cli/Option", name := "values", desc := "()[Lcom/example/durable_dispatch/durabledispatch/cli/Option;" } : Jvm.MethodName) prog_1_method_1_code (0 : Nat) (Option.some (Jvm.ClassFile.FieldType.array (Jvm.ClassFile.FieldType.object "com/example/durable_dispatch/durabledispatch/cli/Option")))).before args0 about1 = true := code_word (m := ⟨10, 0⟩) (meth := k10m0) (c := k10c0) (by decide +kernel) rfl rfl rfl (by decide +kernel)
set_option maxRecDepth 65536 in
theorem w_c9 : (Jvm.Cond.code ({ cls := "java/lang/String", name := "equals", desc := "(Ljava/lang/Object;)Z" } : Jvm.MethodName) jdk_42_method_66_code (3 : Nat) (Option.some Jvm.ClassFile.FieldType.boolean)).before args0 about1 = true := code_word (m := ⟨7, 2⟩) (meth := k7m2) (c := k7c2) (by decide +kernel) rfl rfl rfl (by decide +kernel)
set_option maxRecDepth 65536 in
theorem w_c10 : (Jvm.Cond.code ({ cls := "java/lang/StringLatin1", name := "equals", desc := "([B[B)Z" } : Jvm.MethodName) jdk_43_method_13_code (3 : Nat) (Option.some Jvm.ClassFile.FieldType.boolean)).before args0 about1 = true := code_word (m := ⟨12, 2⟩) (meth := k12m2) (c := k12c2) (by decide +kernel) rfl rfl rfl (by decide +kernel)
set_option maxRecDepth 65536 in
theorem w_c11 : (Jvm.Cond.code ({ cls := "java/util/Optional", name := "of", desc := "(Ljava/lang/Object;)Ljava/util/Optional;" } : Jvm.MethodName) jdk_32_method_3_code (1 : Nat) (Option.some (Jvm.ClassFile.FieldType.object "java/util/Optional"))).before args0 about1 = true := code_word (m := ⟨13, 2⟩) (meth := k13m2) (c := k13c2) (by decide +kernel) rfl rfl rfl (by decide +kernel)
set_option maxRecDepth 65536 in
theorem w_c12 : (Jvm.Cond.code ({ cls := "java/util/Objects", name := "requireNonNull", desc := "(Ljava/lang/Object;)Ljava/lang/Object;" } : Jvm.MethodName) jdk_31_method_10_code (1 : Nat) (Option.some (Jvm.ClassFile.FieldType.object "java/lang/Object"))).before args0 about1 = true := code_word (m := ⟨14, 1⟩) (meth := k14m1) (c := k14c1) (by decide +kernel) rfl rfl rfl (by decide +kernel)
set_option maxRecDepth 65536 in
theorem w_c13 : (Jvm.Cond.code ({ cls := "java/util/Optional", name := "<init>", desc := "(Ljava/lang/Object;)V" } : Jvm.MethodName) jdk_32_method_2_code (2 : Nat) (Option.none : Option Jvm.ClassFile.FieldType)).before args0 about1 = true := code_word (m := ⟨13, 1⟩) (meth := k13m1) (c := k13c1) (by decide +kernel) rfl rfl rfl (by decide +kernel)
set_option maxRecDepth 65536 in
theorem w_c14 : (Jvm.Cond.code ({ cls := "java/util/Optional", name := "isPresent", desc := "()Z" } : Jvm.MethodName) jdk_32_method_6_code (1 : Nat) (Option.some Jvm.ClassFile.FieldType.boolean)).before args0 about1 = true := code_word (m := ⟨13, 4⟩) (meth := k13m4) (c := k13c4) (by decide +kernel) rfl rfl rfl (by decide +kernel)
set_option maxRecDepth 65536 in
theorem w_c15 : (Jvm.Cond.code ({ cls := "java/util/Optional", name := "get", desc := "()Ljava/lang/Object;" } : Jvm.MethodName) jdk_32_method_5_code (1 : Nat) (Option.some (Jvm.ClassFile.FieldType.object "java/lang/Object"))).before args0 about1 = true := code_word (m := ⟨13, 3⟩) (meth := k13m3) (c := k13c3) (by decide +kernel) rfl rfl rfl (by decide +kernel)
set_option maxRecDepth 65536 in
theorem w_c16 : (Jvm.Cond.code ({ cls := "java/lang/String", name := "valueOf", desc := "(C)Ljava/lang/String;" } : Jvm.MethodName) jdk_42_method_139_code (1 : Nat) (Option.some (Jvm.ClassFile.FieldType.object "java/lang/String"))).before args0 about1 = true := code_word (m := ⟨7, 3⟩) (meth := k7m3) (c := k7c3) (by decide +kernel) rfl rfl rfl (by decide +kernel)
set_option maxRecDepth 65536 in
theorem w_c17 : (Jvm.Cond.code ({ cls := "java/lang/StringLatin1", name := "canEncode", desc := "(C)Z" } : Jvm.MethodName) jdk_43_method_3_code (1 : Nat) (Option.some Jvm.ClassFile.FieldType.boolean)).before args0 about1 = true := code_word (m := ⟨12, 1⟩) (meth := k12m1) (c := k12c1) (by decide +kernel) rfl rfl rfl (by decide +kernel)
set_option maxRecDepth 65536 in
theorem w_c18 : (Jvm.Cond.code ({ cls := "java/lang/StringLatin1", name := "toBytes", desc := "(C)[B" } : Jvm.MethodName) jdk_43_method_46_code (1 : Nat) (Option.some (Jvm.ClassFile.FieldType.array Jvm.ClassFile.FieldType.byte))).before args0 about1 = true := code_word (m := ⟨12, 3⟩) (meth := k12m3) (c := k12c3) (by decide +kernel) rfl rfl rfl (by decide +kernel)
set_option maxRecDepth 65536 in
theorem w_c19 : (Jvm.Cond.code ({ cls := "java/lang/String", name := "<init>", desc := "([BB)V" } : Jvm.MethodName) jdk_42_method_151_code (3 : Nat) (Option.none : Option Jvm.ClassFile.FieldType)).before args0 about1 = true := code_word (m := ⟨7, 5⟩) (meth := k7m5) (c := k7c5) (by decide +kernel) rfl rfl rfl (by decide +kernel)
set_option maxRecDepth 65536 in
theorem w_c20 : (Jvm.Cond.code ({ cls := "java/util/Optional", name := "empty", desc := "()Ljava/util/Optional;" } : Jvm.MethodName) jdk_32_method_1_code (1 : Nat) (Option.some (Jvm.ClassFile.FieldType.object "java/util/Optional"))).before args0 about1 = true := code_word (m := ⟨13, 0⟩) (meth := k13m0) (c := k13c0) (by decide +kernel) rfl rfl rfl (by decide +kernel)
def codes1 : List Jvm.Cond := [Jvm.Cond.code x code maxLocals ret, Jvm.Cond.code ({ cls := "java/lang/String", name := "<init>", desc := "([C)V" } : Jvm.MethodName) jdk_42_method_3_code (2 : Nat) (Option.none : Option Jvm.ClassFile.FieldType), Jvm.Cond.code ({ cls := "java/lang/String", name := "<init>", desc := "([CIILjava/lang/Void;)V" } : Jvm.MethodName) jdk_42_method_149_code (6 : Nat) (Option.none : Option Jvm.ClassFile.FieldType), Jvm.Cond.code ({ cls := "java/lang/Object", name := "<init>", desc := "()V" } : Jvm.MethodName) object_method_1_code (1 : Nat) (Option.none : Option Jvm.ClassFile.FieldType), Jvm.Cond.code ({ cls := "java/lang/StringUTF16", name := "compress", desc := "([CII)[B" } : Jvm.MethodName) jdk_52_method_16_code (6 : Nat) (Option.some (Jvm.ClassFile.FieldType.array Jvm.ClassFile.FieldType.byte)), Jvm.Cond.code ({ cls := "java/lang/StringUTF16", name := "compress", desc := "([CI[BII)I" } : Jvm.MethodName) jdk_52_method_21_code (7 : Nat) (Option.some Jvm.ClassFile.FieldType.int), Jvm.Cond.code ({ cls := "java/lang/StringUTF16", name := "coderFromArrayLen", desc := "([BI)B" } : Jvm.MethodName) jdk_52_method_15_code (2 : Nat) (Option.some Jvm.ClassFile.FieldType.byte), Jvm.Cond.code ({ cls := "com/example/durable_dispatch/durabledispatch/cli/Option", name := "byFlag", desc := "(Ljava/lang/String;)Ljava/util/Optional;" } : Jvm.MethodName) prog_1_method_4_code (5 : Nat) (Option.some (Jvm.ClassFile.FieldType.object "java/util/Optional")), Jvm.Cond.code ({ cls := "com/example/durable_dispatch/durabledispatch/cli/Option", name := "values", desc := "()[Lcom/example/durable_dispatch/durabledispatch/cli/Option;" } : Jvm.MethodName) prog_1_method_1_code (0 : Nat) (Option.some (Jvm.ClassFile.FieldType.array (Jvm.ClassFile.FieldType.object "com/example/durable_dispatch/durabledispatch/cli/Option"))), Jvm.Cond.code ({ cls := "java/lang/String", name := "equals", desc := "(Ljava/lang/Object;)Z" } : Jvm.MethodName) jdk_42_method_66_code (3 : Nat) (Option.some Jvm.ClassFile.FieldType.boolean), Jvm.Cond.code ({ cls := "java/lang/StringLatin1", name := "equals", desc := "([B[B)Z" } : Jvm.MethodName) jdk_43_method_13_code (3 : Nat) (Option.some Jvm.ClassFile.FieldType.boolean), Jvm.Cond.code ({ cls := "java/util/Optional", name := "of", desc := "(Ljava/lang/Object;)Ljava/util/Optional;" } : Jvm.MethodName) jdk_32_method_3_code (1 : Nat) (Option.some (Jvm.ClassFile.FieldType.object "java/util/Optional")), Jvm.Cond.code ({ cls := "java/util/Objects", name := "requireNonNull", desc := "(Ljava/lang/Object;)Ljava/lang/Object;" } : Jvm.MethodName) jdk_31_method_10_code (1 : Nat) (Option.some (Jvm.ClassFile.FieldType.object "java/lang/Object")), Jvm.Cond.code ({ cls := "java/util/Optional", name := "<init>", desc := "(Ljava/lang/Object;)V" } : Jvm.MethodName) jdk_32_method_2_code (2 : Nat) (Option.none : Option Jvm.ClassFile.FieldType), Jvm.Cond.code ({ cls := "java/util/Optional", name := "isPresent", desc := "()Z" } : Jvm.MethodName) jdk_32_method_6_code (1 : Nat) (Option.some Jvm.ClassFile.FieldType.boolean), Jvm.Cond.code ({ cls := "java/util/Optional", name := "get", desc := "()Ljava/lang/Object;" } : Jvm.MethodName) jdk_32_method_5_code (1 : Nat) (Option.some (Jvm.ClassFile.FieldType.object "java/lang/Object")), Jvm.Cond.code ({ cls := "java/lang/String", name := "valueOf", desc := "(C)Ljava/lang/String;" } : Jvm.MethodName) jdk_42_method_139_code (1 : Nat) (Option.some (Jvm.ClassFile.FieldType.object "java/lang/String")), Jvm.Cond.code ({ cls := "java/lang/StringLatin1", name := "canEncode", desc := "(C)Z" } : Jvm.MethodName) jdk_43_method_3_code (1 : Nat) (Option.some Jvm.ClassFile.FieldType.boolean), Jvm.Cond.code ({ cls := "java/lang/StringLatin1", name := "toBytes", desc := "(C)[B" } : Jvm.MethodName) jdk_43_method_46_code (1 : Nat) (Option.some (Jvm.ClassFile.FieldType.array Jvm.ClassFile.FieldType.byte)), Jvm.Cond.code ({ cls := "java/lang/String", name := "<init>", desc := "([BB)V" } : Jvm.MethodName) jdk_42_method_151_code (3 : Nat) (Option.none : Option Jvm.ClassFile.FieldType), Jvm.Cond.code ({ cls := "java/util/Optional", name := "empty", desc := "()Ljava/util/Optional;" } : Jvm.MethodName) jdk_32_method_1_code (1 : Nat) (Option.some (Jvm.ClassFile.FieldType.object "java/util/Optional"))]
set_option maxRecDepth 65536 in
theorem codes_eq : words1.filter isCode = codes1 := rfl
theorem w_codes : ∀ c ∈ words1.filter isCode, c.before args0 about1 = true := by
  rw [codes_eq]
  intro c hc
  simp only [codes1, List.mem_cons, List.not_mem_nil, or_false] at hc
  rcases hc with rfl | rfl | rfl | rfl | rfl | rfl | rfl | rfl | rfl | rfl | rfl | rfl | rfl | rfl | rfl | rfl | rfl | rfl | rfl | rfl | rfl
  · exact w_c0
  · exact w_c1
  · exact w_c2
  · exact w_c3
  · exact w_c4
  · exact w_c5
  · exact w_c6
  · exact w_c7
  · exact w_c8
  · exact w_c9
  · exact w_c10
  · exact w_c11
  · exact w_c12
  · exact w_c13
  · exact w_c14
  · exact w_c15
  · exact w_c16
  · exact w_c17
  · exact w_c18
  · exact w_c19
  · exact w_c20
set_option maxRecDepth 65536 in
theorem w_t1 : (words1.take 24).all (fun c => isCode c || c.before args0 about1) = true := by decide +kernel
set_option maxRecDepth 65536 in
theorem w_t2 : ((words1.drop 24).take 24).all (fun c => isCode c || c.before args0 about1) = true := by decide +kernel
set_option maxRecDepth 65536 in
theorem w_t3 : (((words1.drop 24).drop 24).take 24).all (fun c => isCode c || c.before args0 about1) = true := by decide +kernel
set_option maxRecDepth 65536 in
theorem w_t4 : ((((words1.drop 24).drop 24).drop 24).take 24).all (fun c => isCode c || c.before args0 about1) = true := by decide +kernel
set_option maxRecDepth 65536 in
theorem w_t5 : ((((words1.drop 24).drop 24).drop 24).drop 24).all (fun c => isCode c || c.before args0 about1) = true := by decide +kernel
theorem w_tables : (allAtoms (Jvm.Cond.code x code maxLocals ret :: tables_1)).before args0 about1 = true := by
  rw [allAtoms_all]
  show words1.all (fun c => c.before args0 about1) = true
  refine all_split ?_ w_codes
  rw [← List.take_append_drop 24 words1, List.all_append, w_t1, ← List.take_append_drop 24 (words1.drop 24), List.all_append, w_t2, ← List.take_append_drop 24 ((words1.drop 24).drop 24), List.all_append, w_t3, ← List.take_append_drop 24 (((words1.drop 24).drop 24).drop 24), List.all_append, w_t4, w_t5]
  rfl
set_option maxRecDepth 65536 in
theorem w_rest : rest_1_c.before args0 about1 = true := by decide +kernel
set_option maxRecDepth 65536 in
theorem w_case : (Jvm.Cond.and given_1 narrow_1).before args0 about1 = true := by decide +kernel
set_option maxRecDepth 65536 in
theorem w_consts : constsHeld consts_1 about1 := Jvm.Lit.constsHeldB_iff.mp (by decide +kernel)
theorem w_applies : (headSpec (Jvm.Cond.code x code maxLocals ret :: tables_1) room_1).applies x e0.platform about1 = true :=
  (Spec.applies_iff w_frames).mpr ⟨w_running, w_runnable, w_alone, w_named, w_hears, w_ripe, w_room, w_tables⟩
theorem atStart : AtStart classFile x code maxLocals ret World_1 tables_1 room_1 Calls_1 rest_1 Pre_1 launch0 p0 e0 about1 theMethod args0 below0 :=
  ⟨lists_1, trivial, launch0.admits_env _ _ _, launch0.least_env, fairChoices_fair.cas, fairChoices_fair.clock, w_frames, w_args, w_heap, w_applies, ⟨w_consts, trivial⟩, w_rest, w_case⟩
end start1
theorem witness_1 : WitnessClaimed_1 := ⟨start1.p0, start1.e0, start1.about1, start1.theMethod, start1.args0, start1.below0, start1.atStart⟩
end Jvm.Pilot.@@N@@
