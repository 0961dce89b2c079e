import JvmDerived
import JvmDerived.Pilot.@@N@@Statement
import JvmDerived.Pilot.@@N@@Code
set_option linter.unusedVariables false
set_option linter.unusedSimpArgs false
namespace Jvm.RoadKit
open Sem ClassFile Op Lib Jvm.Stand Jvm.Free Jvm.LawKit
section New
variable {p : Program} {l : Launch} {e : Env} {R : Room} {s : State} {m : MethodId} {args : Array Value} {below : List Frame} {meth : Method} {c : Code} {T : State} {locs : List Loc} {cells slots : Nat}
theorem retI (X : Stand p l e R s m args below meth c T locs cells slots) (hx : p.tables.exec = Jvm.exec) {pc : Nat} {Ls : Array Slot} {z : Int32} {rest : List Value} (hret : meth.sig.returnType = some .int) (hd : decode c.code pc = .ok (.ireturn, 1)) {fs : List Frame}
    (hl : ∀ (f : JFrame) (acts : List Action), f.method = m → f.locked = none → f.entered = [] → (doReturn e (T.setTop f) acts (some (.int z))).1 = T.setFrames fs) : Steps p.tables e below (T.setTop (mkF m pc Ls (.int z :: rest))) (T.setFrames fs) :=
  retOut X hx hret rfl (Or.inl ⟨rfl, Or.inl rfl, z, rfl⟩) hd hl
theorem retJ (X : Stand p l e R s m args below meth c T locs cells slots) (hx : p.tables.exec = Jvm.exec) {pc : Nat} {Ls : Array Slot} {z : Int64} {rest : List Value} (hret : meth.sig.returnType = some .long) (hd : decode c.code pc = .ok (.lreturn, 1)) {fs : List Frame}
    (hl : ∀ (f : JFrame) (acts : List Action), f.method = m → f.locked = none → f.entered = [] → (doReturn e (T.setTop f) acts (some (.long z))).1 = T.setFrames fs) : Steps p.tables e below (T.setTop (mkF m pc Ls (.long z :: rest))) (T.setFrames fs) :=
  retOut X hx hret rfl (Or.inr (Or.inl ⟨rfl, rfl, z, rfl⟩)) hd hl
theorem narA {t : FieldType} {w : Value} (ht : t.isReference = true) (hw : w.isRef = true) : narrow t w = w := by
  rcases ref_cases hw with rfl | ⟨z, rfl⟩ <;> cases t <;> first | rfl | (simp [FieldType.isReference] at ht)
theorem retA (X : Stand p l e R s m args below meth c T locs cells slots) (hx : p.tables.exec = Jvm.exec) {pc : Nat} {Ls : Array Slot} {t : FieldType} {w : Value} {rest : List Value} (hret : meth.sig.returnType = some t) (ht : t.isReference = true) (hw : w.isRef = true) (hd : decode c.code pc = .ok (.areturn, 1)) {fs : List Frame}
    (hl : ∀ (f : JFrame) (acts : List Action), f.method = m → f.locked = none → f.entered = [] → (doReturn e (T.setTop f) acts (some w)).1 = T.setFrames fs) : Steps p.tables e below (T.setTop (mkF m pc Ls (w :: rest))) (T.setFrames fs) :=
  retOut X hx hret (narA ht hw) (Or.inr (Or.inr (Or.inr (Or.inr ⟨rfl, ht, hw⟩)))) hd hl
theorem own_pack {n0 : Nat} {L Lc : List Loc} {k n rc rs C S' : Nat} (X : Stand p l e R s m args below meth c T L k n) (hl : L = locs ++ Lc) (hk : k = cells + rc) (hn : n = slots + rs) (N : Fr n0 locs) (Nq : Fr n0 Lc) (hC : cells + rc = C) (hS : slots + rs = S') : ∃ lc, Stand p l e R s m args below meth c T lc C S' ∧ Fr n0 lc := by
  subst hl hk hn hC hS; exact ⟨_, X, N.app Nq⟩
theorem own_pack1 {n0 : Nat} {a : Addr} {sl : Nat} (X : Stand p l e R s m args below meth c T (locs ++ [⟨a, sl⟩]) cells slots) (N : Fr n0 locs) (q : n0 ≤ a) : ∃ lc, Stand p l e R s m args below meth c T lc cells slots ∧ Fr n0 lc := ⟨_, X, Fr.snoc X N q⟩
/-- the run from a comes to an end that Q allows -/
def own_G (tb : Tables) (e : Env) (below : List Frame) (s : State) (Q : Option Value → Heap → List Loc → Prop) (C S : Nat) (a : State) : Prop :=
  ∃ (t : State) (o : Outcome), Steps tb e below a t ∧ t.status = .running ∧ Ended t below o ∧ ∃ v L, o = .returned v ∧ Q v t.heap L ∧ FrameEnd s o t L C S
theorem own_thr {tb : Tables} {Q : Option Value → Heap → List Loc → Prop} {C S : Nat} {a b : State} (h : ∀ t, Steps tb e below a t → Steps tb e below b t) (g : own_G tb e below s Q C S a) : own_G tb e below s Q C S b := by
  obtain ⟨t, o, h1, h2⟩ := g; exact ⟨t, o, h t h1, h2⟩
theorem own_end (X : Stand p l e R s m args below meth c T locs cells slots) (hlk : meth.locks = false) {v : Option Value} (hv : meth.sig.returnType = none → v = none) {g : JFrame} {Q : Option Value → Heap → List Loc → Prop} {C S : Nat}
    (hr : ∀ fs, (∀ (f : JFrame) (acts : List Action), f.method = m → f.locked = none → f.entered = [] → (doReturn e (T.setTop f) acts v).1 = T.setFrames fs) → Steps p.tables e below (T.setTop g) (T.setFrames fs))
    (hQ : Q v T.heap locs) (hC : cells ≤ C) (hS : slots ≤ S) : own_G p.tables e below s Q C S (T.setTop g) := by
  obtain ⟨fs, hr', hrun, hended, hW, hsame⟩ := X.leave (v := v) hv hlk
  exact ⟨_, _, hr fs hr', hrun, hended, _, _, rfl, hQ, ⟨_, rfl⟩, hW, hsame.mono hC hS⟩
def own_GW (tb : Tables) (e : Env) (below : List Frame) (s : State) (Q : Option Value → Heap → List Loc → Prop) (C S : Nat) (a : State) : Prop :=
  ∃ (t : State) (o : Outcome), Steps tb e below a t ∧ t.status = .running ∧ Ended t below o ∧ ∃ v L, o = .returned v ∧ Q v t.heap L ∧ ReturnedEndW s o t L C S
theorem own_thrW {tb : Tables} {Q : Option Value → Heap → List Loc → Prop} {C S : Nat} {a b : State} (h : ∀ t, Steps tb e below a t → Steps tb e below b t) (g : own_GW tb e below s Q C S a) : own_GW tb e below s Q C S b := by
  obtain ⟨t, o, h1, h2⟩ := g; exact ⟨t, o, h t h1, h2⟩
theorem own_endW {vm₁ : Vm} {k : Nat} (X : Stand p l e R (s.setVm vm₁) m args below meth c T locs cells slots) (hS : s.Since vm₁ k) (hk : k ≤ T.heap.size) (hlk : meth.locks = false) {v : Option Value} (hv : meth.sig.returnType = none → v = none) {g : JFrame} {Q : Option Value → Heap → List Loc → Prop} {C S : Nat}
    (hr : ∀ fs, (∀ (f : JFrame) (acts : List Action), f.method = m → f.locked = none → f.entered = [] → (doReturn e (T.setTop f) acts v).1 = T.setFrames fs) → Steps p.tables e below (T.setTop g) (T.setFrames fs))
    (hQ : Q v T.heap locs) (hC : cells ≤ C) (hSl : slots ≤ S) : own_GW p.tables e below s Q C S (T.setTop g) := by
  obtain ⟨fs, hr', hrun, hended, hret, hW, hint, hsame⟩ := X.leaveW hS hk (v := v) hv hlk
  exact ⟨_, _, hr fs hr', hrun, hended, _, _, rfl, hQ, ⟨_, rfl⟩, hW, hint, hsame.mono hC hSl⟩
def own_GH (tb : Tables) (e : Env) (below : List Frame) (s Z : State) (EL : List (String × Nat)) (Q : Option Value → Heap → List Loc → Prop) (C S : Nat) (a : State) : Prop :=
  ∃ (t : State) (o : Outcome), Steps tb e below a t ∧ t.status = .running ∧ Ended t below o ∧ ∃ v L, o = .returned v ∧ Q v t.heap L ∧ CHr Z EL s.vm s.heap t.vm t.heap ∧ ReturnedEndW s o t L C S
theorem own_thrH {tb : Tables} {Z : State} {EL : List (String × Nat)} {Q : Option Value → Heap → List Loc → Prop} {C S : Nat} {a b : State} (h : ∀ t, Steps tb e below a t → Steps tb e below b t) (g : own_GH tb e below s Z EL Q C S a) : own_GH tb e below s Z EL Q C S b := by
  obtain ⟨t, o, h1, h2⟩ := g; exact ⟨t, o, h t h1, h2⟩
theorem own_endH {vm₁ : Vm} {k : Nat} {Z : State} {a0 : Array Value} {EL : List (String × Nat)} {h0 H : Heap} (X : Stand p l e R (s.setVm vm₁) m args below meth c T locs cells slots) (hS : s.Since vm₁ k) (hk : k ≤ T.heap.size) (hZ : Z.Warmed39 vm₁) (hEL : EW Z a0 EL) (CH : CHr Z EL s.vm h0 vm₁ H) (hh : s.heap = h0) (eT : T.heap = H) (hlk : meth.locks = false) {v : Option Value} (hv : meth.sig.returnType = none → v = none) {g : JFrame} {Q : Option Value → Heap → List Loc → Prop} {C S : Nat}
    (hr : ∀ fs, (∀ (f : JFrame) (acts : List Action), f.method = m → f.locked = none → f.entered = [] → (doReturn e (T.setTop f) acts v).1 = T.setFrames fs) → Steps p.tables e below (T.setTop g) (T.setFrames fs))
    (hQ : Q v T.heap locs) (hC : cells ≤ C) (hSl : slots ≤ S) : own_GH p.tables e below s Z EL Q C S (T.setTop g) := by
  obtain ⟨fs, hr', hrun, hended, hret, hW, hint, hsame⟩ := X.leaveW hS hk (v := v) hv hlk
  have ch := CH.trans (CHv.at X hZ hEL CH.1)
  subst hh eT
  exact ⟨_, _, hr fs hr', hrun, hended, _, _, rfl, hQ, ch, ⟨_, rfl⟩, hW, hint, hsame.mono hC hSl⟩
theorem own_i {α : Type} {l : List α} {a : α} (i : Nat) (h : l[i]? = some a) : a ∈ l := List.mem_of_getElem? h
theorem own_safe {Z : State} {EL : List (String × Nat)} {vm : Vm} {h : Heap} {x : Addr} (hal : Z.vm.Alike vm) (E : Exa Z h x "java/lang/String") (F : Fld Z h x "java/lang/String" "value" "[B" .null) : Safe Z EL vm h x := fun B => by
  obtain ⟨p, hp, u, a, hb, q, ha, S, hy | hy⟩ := B
  · obtain ⟨cS, ⟨⟨g1, -, -, ⟨c1, k1, i1, f1, -⟩, -, -, -, v1, -⟩, -⟩, -⟩ := S
    obtain ⟨cell, cf, k, i, f, h1, h2, h3, h4, h5, h6, h7⟩ := F
    subst hy
    have g1' : h[q.sa]? = some q.sC := g1
    cases h1.symm.trans g1'
    obtain ⟨k3, e3, -⟩ := State.fieldFound?_setVm (s := Z) hal h2
    have e4 := (show (Wst Z vm h).fieldFound? _ _ _ = _ from e3).symm.trans f1
    simp only [Option.some.injEq, Prod.mk.injEq] at e4
    rw [← e4.2.2.2, h7] at v1
    cases v1
  · have hd := S.hd
    obtain ⟨cS, -, -, hB, -⟩ := S
    obtain ⟨cell, k, h1, h2, h3, -⟩ := E
    subst hy
    have hd' : h[q.sd]? = some q.SA := hd
    cases h1.symm.trans hd'
    have hB' : Z.vm.findClass "[B" = some q.SA.cls := by rw [← hal.findClass]; exact hB
    exact ids_ne h2 hB' (by decide) rfl
end New
end Jvm.RoadKit
namespace Jvm.Pilot.@@N@@
open Jvm Jvm.ClassFile Sem Op Lib Jvm.Free Jvm.Stand Jvm.LawKit Jvm.RoadKit Bundle Jvm.Pilot.@@N@@.Jvm.D
set_option maxRecDepth 65536
set_option maxHeartbeats 40000000
theorem own_q {a b : Nat} (h : a = b) : a ≤ b := Nat.le_of_eq h
abbrev own_m0 : MethodName := ⟨"com/example/tiphys/tiphys/CodePointOrderComparePinLaw", "draw", "(I)C"⟩
abbrev own_m1 : MethodName := ⟨"java/lang/StringUTF16", "getChar", "([BI)C"⟩
abbrev own_m2 : MethodName := ⟨"java/lang/StringUTF16", "putChar", "([BII)V"⟩
abbrev own_m3 : MethodName := ⟨"java/lang/StringUTF16", "newBytesLength", "(I)I"⟩
abbrev own_m4 : MethodName := ⟨"java/lang/StringUTF16", "newBytesFor", "(I)[B"⟩
abbrev own_m5 : MethodName := ⟨"java/lang/StringUTF16", "toBytes", "([CII)[B"⟩
abbrev own_m6 : MethodName := ⟨"java/lang/StringUTF16", "coderFromArrayLen", "([BI)B"⟩
abbrev own_m7 : MethodName := ⟨"java/lang/StringUTF16", "compress", "([CI[BII)I"⟩
abbrev own_m8 : MethodName := ⟨"java/lang/StringUTF16", "compress", "([CII)[B"⟩
abbrev own_m9 : MethodName := ⟨"java/lang/String", "<init>", "([CIILjava/lang/Void;)V"⟩
abbrev own_m10 : MethodName := ⟨"java/lang/String", "<init>", "([C)V"⟩
abbrev own_m11 : MethodName := ⟨"com/example/tiphys/tiphys/CodePointOrderComparePinLaw", "make", "(ICC)Ljava/lang/String;"⟩
abbrev own_m12 : MethodName := ⟨"java/lang/String", "coder", "()B"⟩
abbrev own_m13 : MethodName := ⟨"java/lang/String", "isLatin1", "()Z"⟩
abbrev own_m14 : MethodName := ⟨"jdk/internal/util/Preconditions", "checkIndex", "(IILjava/util/function/BiFunction;)I"⟩
abbrev own_m15 : MethodName := ⟨"java/lang/String", "checkIndex", "(II)V"⟩
abbrev own_m16 : MethodName := ⟨"java/lang/Character", "isHighSurrogate", "(C)Z"⟩
abbrev own_m17 : MethodName := ⟨"java/lang/Character", "isLowSurrogate", "(C)Z"⟩
abbrev own_m18 : MethodName := ⟨"java/lang/Character", "toCodePoint", "(CC)I"⟩
abbrev own_m19 : MethodName := ⟨"java/lang/Character", "charCount", "(I)I"⟩
abbrev own_m20 : MethodName := ⟨"java/lang/StringUTF16", "codePointAt", "([BIIZ)I"⟩
abbrev own_m21 : MethodName := ⟨"java/lang/StringUTF16", "codePointAt", "([BII)I"⟩
abbrev own_m22 : MethodName := ⟨"java/lang/String", "length", "()I"⟩
abbrev own_m23 : MethodName := ⟨"java/lang/String", "codePointAt", "(I)I"⟩
abbrev own_m24 : MethodName := ⟨"java/lang/Integer", "compare", "(II)I"⟩
abbrev own_m25 : MethodName := ⟨"com/example/tiphys/tiphys/CodePointOrder", "compare", "(Ljava/lang/String;Ljava/lang/String;)I"⟩
abbrev own_m26 : MethodName := ⟨"com/example/tiphys/tiphys/CodePointOrderComparePinLaw", "isHigh", "(C)Z"⟩
abbrev own_m27 : MethodName := ⟨"com/example/tiphys/tiphys/CodePointOrderComparePinLaw", "isLow", "(C)Z"⟩
abbrev own_m28 : MethodName := ⟨"com/example/tiphys/tiphys/CodePointOrderComparePinLaw", "paired", "(ICC)Z"⟩
abbrev own_m29 : MethodName := ⟨"com/example/tiphys/tiphys/CodePointOrderComparePinLaw", "count", "(ICC)I"⟩
abbrev own_m30 : MethodName := ⟨"com/example/tiphys/tiphys/CodePointOrderComparePinLaw", "firstPoint", "(ICC)I"⟩
abbrev own_m31 : MethodName := ⟨"com/example/tiphys/tiphys/CodePointOrderComparePinLaw", "sign", "(I)I"⟩
abbrev own_m32 : MethodName := ⟨"com/example/tiphys/tiphys/CodePointOrderComparePinLaw", "reference", "(ICCICC)I"⟩
theorem own_sa : ∀ a ∈ Bundle.stringAtoms, a ∈ tables_1 := by decide +kernel
def own_EL : List (String × Nat) := [("java/lang/String", 7)]
theorem own_EW {Z : State} {a0 : Array Value} (hw : ∀ d ∈ tables_1, d.before a0 Z = true) : EW Z a0 own_EL := (EW.cons (hw _ (own_i 25 rfl)) (by decide) EW.nil)
/-- the statics -/
def own_K (Z : State) (cs : Int32) (fm : Value) : Prop := Sta Z Z.heap "java/lang/String" "COMPACT_STRINGS" "Z" (.int cs) ∧ ¬ cs = (0 : Int32) ∧ Sta Z Z.heap "jdk/internal/util/Preconditions" "SIOOBE_FORMATTER" "Ljava/util/function/BiFunction;" fm ∧ fm.isRef = true ∧ Sta Z Z.heap "java/lang/StringUTF16" "$assertionsDisabled" "Z" (.int 1) ∧ Sta Z Z.heap "java/lang/StringUTF16" "HI_BYTE_SHIFT" "I" (.int 0) ∧ Sta Z Z.heap "java/lang/StringUTF16" "LO_BYTE_SHIFT" "I" (.int 8)
/-- what getChar reads -/
def own_gc (x y : Int32) : Int32 := nar .char ((((x &&& (255 : Int32)) <<< ((0 : Int32) &&& 31)) ||| ((y &&& (255 : Int32)) <<< ((8 : Int32) &&& 31))).toUInt32.toUInt16.toUInt32.toInt32)
abbrev own_b0 (c : Int32) : Int32 := (((c >>> ((0 : Int32) &&& 31)).toInt8.toInt32).toInt8.toInt32)
abbrev own_b1 (c : Int32) : Int32 := (((c >>> ((8 : Int32) &&& 31)).toInt8.toInt32).toInt8.toInt32)
def own_R (c : Int32) : Prop := 0 ≤ c.toInt ∧ c.toInt ≤ 65535
theorem own_or {a b : Int32} (ha : 0 ≤ a.toInt ∧ a.toInt ≤ 255) (hb : 0 ≤ b.toInt ∧ b.toInt ≤ 65280 ∧ b.toInt % 256 = 0) : (a ||| b).toInt = a.toInt + b.toInt := by
  have na : a.toBitVec.toNat = a.toInt.toNat := by
    have h := Int32.toInt_toBitVec a
    have h2 := BitVec.toInt_eq_toNat_cond a.toBitVec
    have h3 := a.toBitVec.isLt
    rw [← Int32.toInt_toBitVec] at ha ⊢
    rw [h2] at ha ⊢
    split at ha <;> split <;> omega
  have nb : b.toBitVec.toNat = b.toInt.toNat := by
    have h2 := BitVec.toInt_eq_toNat_cond b.toBitVec
    have h3 := b.toBitVec.isLt
    rw [← Int32.toInt_toBitVec] at hb ⊢
    rw [h2] at hb ⊢
    split at hb <;> split <;> omega
  have hor : (a ||| b).toBitVec.toNat = a.toInt.toNat + b.toInt.toNat := by
    rw [Int32.toBitVec_or, BitVec.toNat_or, na, nb]
    obtain ⟨q, hq⟩ : ∃ q, b.toInt.toNat = q <<< 8 := ⟨b.toInt.toNat / 256, by rw [Nat.shiftLeft_eq]; omega⟩
    rw [hq, Nat.or_comm, ← Nat.shiftLeft_add_eq_or_of_lt (by omega : a.toInt.toNat < 2 ^ 8)]
    omega
  rw [← Int32.toInt_toBitVec, BitVec.toInt_eq_toNat_cond, hor]
  split <;> omega
theorem own_gp0 {c x y : Int32} (h : own_R c) (hx : (x.toInt - c.toInt) % 256 = 0) (hy : (y.toInt - c.toInt / 256) % 256 = 0) : own_gc x y = c := by
  obtain ⟨h0, h1⟩ := h
  have a4 := c_mask x 255 8 (by decide) (by decide)
  have a5 := c_ishl (x &&& (255 : Int32)) 0 0 (by decide)
  have r5 := rng32 ((x &&& (255 : Int32)) <<< ((0 : Int32) &&& 31))
  have b4 := c_mask y 255 8 (by decide) (by decide)
  have b5 := c_ishl (y &&& (255 : Int32)) 8 8 (by decide)
  have s5 := rng32 ((y &&& (255 : Int32)) <<< ((8 : Int32) &&& 31))
  have e1 : ((x &&& (255 : Int32)) <<< ((0 : Int32) &&& 31)).toInt = c.toInt % 256 := by omega
  have e2 : ((y &&& (255 : Int32)) <<< ((8 : Int32) &&& 31)).toInt = c.toInt / 256 * 256 := by omega
  have o := own_or (a := (x &&& (255 : Int32)) <<< ((0 : Int32) &&& 31)) (b := (y &&& (255 : Int32)) <<< ((8 : Int32) &&& 31)) (by omega) (by omega)
  unfold own_gc
  generalize ((x &&& (255 : Int32)) <<< ((0 : Int32) &&& 31)) ||| ((y &&& (255 : Int32)) <<< ((8 : Int32) &&& 31)) = z at o
  show z.toUInt32.toUInt16.toUInt32.toInt32.toUInt32.toUInt16.toUInt32.toInt32 = c
  rw [← Int32.toInt_inj]
  have z1 := c_i2c z
  have z2 := c_i2c z.toUInt32.toUInt16.toUInt32.toInt32
  omega
theorem own_gp {c : Int32} (h : own_R c) : own_gc (own_b0 c) (own_b1 c) = c := by
  have a1 := c_ishr c 0 0 (by decide)
  have a2 := c_i2b (c >>> ((0 : Int32) &&& 31))
  have a3 := c_i2b ((c >>> ((0 : Int32) &&& 31)).toInt8.toInt32)
  have b1 := c_ishr c 8 8 (by decide)
  have b2 := c_i2b (c >>> ((8 : Int32) &&& 31))
  have b3 := c_i2b ((c >>> ((8 : Int32) &&& 31)).toInt8.toInt32)
  refine own_gp0 h ?_ ?_
  · show (((c >>> ((0 : Int32) &&& 31)).toInt8.toInt32).toInt8.toInt32.toInt - c.toInt) % 256 = 0
    omega
  · show (((c >>> ((8 : Int32) &&& 31)).toInt8.toInt32).toInt8.toInt32.toInt - c.toInt / 256) % 256 = 0
    omega
theorem own_lo {c : Int32} (h : own_R c) (hl : ¬ (255 : Int32) < c) : c = ((c.toInt8.toInt32).toInt8.toInt32) &&& (255 : Int32) := by
  obtain ⟨h0, h1⟩ := h
  have e : (255 : Int32).toInt = 255 := rfl
  rw [Int32.lt_iff_toInt_lt] at hl
  have a2 := c_i2b c
  have a3 := c_i2b c.toInt8.toInt32
  have a4 := c_mask (c.toInt8.toInt32.toInt8.toInt32) 255 8 (by decide) (by decide)
  rw [← Int32.toInt_inj]; omega
theorem own_i2c {c : Int32} (h : own_R c) : c.toUInt32.toUInt16.toUInt32.toInt32 = c := by
  obtain ⟨h0, h1⟩ := h
  rw [← Int32.toInt_inj]
  have h := c_i2c c
  omega
theorem own_c16 (x : Int32) : own_R (nar .char x) := by
  have h := c_i2c x
  exact ⟨h.2.1, by show x.toUInt32.toUInt16.toUInt32.toInt32.toInt ≤ 65535; omega⟩
theorem own_R.ge {c : Int32} (h : own_R c) : c < (65536 : Int32) := by
  rw [Int32.lt_iff_toInt_lt]; have e : (65536 : Int32).toInt = 65536 := rfl; have := h.2; omega
def own_U0 (Z : State) (h : Heap) (r : Addr) : Prop := Exa Z h r "java/lang/String" ∧ Fld Z h r "java/lang/String" "coder" "B" (.int 0) ∧ ∃ (b : Addr) (k : ClassId), Fld Z h r "java/lang/String" "value" "[B" (.ref b) ∧ Arv Z h b k .byte (0 : Int32) [] (.int 0)
def own_U1 (Z : State) (h : Heap) (r : Addr) (c : Int32) : Prop := Exa Z h r "java/lang/String" ∧ ((Fld Z h r "java/lang/String" "coder" "B" (.int 0) ∧ ∃ (b : Addr) (k : ClassId) (x : Int32), Fld Z h r "java/lang/String" "value" "[B" (.ref b) ∧ Arv Z h b k .byte (1 : Int32) [(.int x)] (.int 0) ∧ c = x &&& (255 : Int32)) ∨ (Fld Z h r "java/lang/String" "coder" "B" (.int 1) ∧ ∃ (b : Addr) (k : ClassId) (x y : Int32), Fld Z h r "java/lang/String" "value" "[B" (.ref b) ∧ Arv Z h b k .byte (2 : Int32) [(.int x), (.int y)] (.int 0) ∧ c = own_gc x y))
def own_U2 (Z : State) (h : Heap) (r : Addr) (c d : Int32) : Prop := Exa Z h r "java/lang/String" ∧ ((Fld Z h r "java/lang/String" "coder" "B" (.int 0) ∧ ∃ (b : Addr) (k : ClassId) (x y : Int32), Fld Z h r "java/lang/String" "value" "[B" (.ref b) ∧ Arv Z h b k .byte (2 : Int32) [(.int x), (.int y)] (.int 0) ∧ c = x &&& (255 : Int32) ∧ d = y &&& (255 : Int32)) ∨ (Fld Z h r "java/lang/String" "coder" "B" (.int 1) ∧ ∃ (b : Addr) (k : ClassId) (x y z w : Int32), Fld Z h r "java/lang/String" "value" "[B" (.ref b) ∧ Arv Z h b k .byte (4 : Int32) [(.int x), (.int y), (.int z), (.int w)] (.int 0) ∧ c = own_gc x y ∧ d = own_gc z w))
section SU
variable {Z : State} {h h' : Heap} {r : Addr} {c d : Int32}
theorem own_U0.keep0 (F : own_U0 Z h r) (K : Keep h h' []) : own_U0 Z h' r := by
  obtain ⟨a1, a2, b, k, a3, a4⟩ := F
  exact ⟨a1.keep K, a2.keep K nin0, b, k, a3.keep K nin0, a4.keep K nin0⟩
theorem own_U1.keep0 (F : own_U1 Z h r c) (K : Keep h h' []) : own_U1 Z h' r c := by
  obtain ⟨a1, ⟨a2, b, k, x, a3, a4, q⟩ | ⟨a2, b, k, x, y, a3, a4, q⟩⟩ := F
  · exact ⟨a1.keep K, Or.inl ⟨a2.keep K nin0, b, k, x, a3.keep K nin0, a4.keep K nin0, q⟩⟩
  · exact ⟨a1.keep K, Or.inr ⟨a2.keep K nin0, b, k, x, y, a3.keep K nin0, a4.keep K nin0, q⟩⟩
theorem own_U2.keep0 (F : own_U2 Z h r c d) (K : Keep h h' []) : own_U2 Z h' r c d := by
  obtain ⟨a1, ⟨a2, b, k, x, y, a3, a4, q⟩ | ⟨a2, b, k, x, y, z, w, a3, a4, q⟩⟩ := F
  · exact ⟨a1.keep K, Or.inl ⟨a2.keep K nin0, b, k, x, y, a3.keep K nin0, a4.keep K nin0, q⟩⟩
  · exact ⟨a1.keep K, Or.inr ⟨a2.keep K nin0, b, k, x, y, z, w, a3.keep K nin0, a4.keep K nin0, q⟩⟩
end SU
theorem d1_0 : decode method_3_code 0 = .ok (.iload_n 0, 1) := by decide +kernel
theorem d1_1 : decode method_3_code 1 = .ok (.iconst 3, 1) := by decide +kernel
theorem d1_2 : decode method_3_code 2 = .ok (.iand, 1) := by decide +kernel
theorem d1_3 : decode method_3_code 3 = .ok (.istore_n 1, 1) := by decide +kernel
theorem d1_4 : decode method_3_code 4 = .ok (.iload_n 0, 1) := by decide +kernel
theorem d1_5 : decode method_3_code 5 = .ok (.iconst 2, 1) := by decide +kernel
theorem d1_6 : decode method_3_code 6 = .ok (.iushr, 1) := by decide +kernel
theorem d1_7 : decode method_3_code 7 = .ok (.istore_n 2, 1) := by decide +kernel
theorem d1_8 : decode method_3_code 8 = .ok (.iload_n 1, 1) := by decide +kernel
theorem d1_9 : decode method_3_code 9 = .ok (.ifCond .ne 9, 3) := by decide +kernel
theorem d1_12 : decode method_3_code 12 = .ok (.iload_n 2, 1) := by decide +kernel
theorem d1_13 : decode method_3_code 13 = .ok (.ldc 31, 2) := by decide +kernel
theorem d1_15 : decode method_3_code 15 = .ok (.iand, 1) := by decide +kernel
theorem d1_16 : decode method_3_code 16 = .ok (.i2c, 1) := by decide +kernel
theorem d1_17 : decode method_3_code 17 = .ok (.ireturn, 1) := by decide +kernel
theorem d1_18 : decode method_3_code 18 = .ok (.iload_n 1, 1) := by decide +kernel
theorem d1_19 : decode method_3_code 19 = .ok (.iconst 1, 1) := by decide +kernel
theorem d1_20 : decode method_3_code 20 = .ok (.if_icmp .ne 13, 3) := by decide +kernel
theorem d1_23 : decode method_3_code 23 = .ok (.ldc 32, 2) := by decide +kernel
theorem d1_25 : decode method_3_code 25 = .ok (.iload_n 2, 1) := by decide +kernel
theorem d1_26 : decode method_3_code 26 = .ok (.sipush 1023, 3) := by decide +kernel
theorem d1_29 : decode method_3_code 29 = .ok (.iand, 1) := by decide +kernel
theorem d1_30 : decode method_3_code 30 = .ok (.iadd, 1) := by decide +kernel
theorem d1_31 : decode method_3_code 31 = .ok (.i2c, 1) := by decide +kernel
theorem d1_32 : decode method_3_code 32 = .ok (.ireturn, 1) := by decide +kernel
theorem d1_33 : decode method_3_code 33 = .ok (.iload_n 1, 1) := by decide +kernel
theorem d1_34 : decode method_3_code 34 = .ok (.iconst 2, 1) := by decide +kernel
theorem d1_35 : decode method_3_code 35 = .ok (.if_icmp .ne 13, 3) := by decide +kernel
theorem d1_38 : decode method_3_code 38 = .ok (.ldc 33, 2) := by decide +kernel
theorem d1_40 : decode method_3_code 40 = .ok (.iload_n 2, 1) := by decide +kernel
theorem d1_41 : decode method_3_code 41 = .ok (.sipush 1023, 3) := by decide +kernel
theorem d1_44 : decode method_3_code 44 = .ok (.iand, 1) := by decide +kernel
theorem d1_45 : decode method_3_code 45 = .ok (.iadd, 1) := by decide +kernel
theorem d1_46 : decode method_3_code 46 = .ok (.i2c, 1) := by decide +kernel
theorem d1_47 : decode method_3_code 47 = .ok (.ireturn, 1) := by decide +kernel
theorem d1_48 : decode method_3_code 48 = .ok (.ldc 34, 2) := by decide +kernel
theorem d1_50 : decode method_3_code 50 = .ok (.iload_n 2, 1) := by decide +kernel
theorem d1_51 : decode method_3_code 51 = .ok (.sipush 8191, 3) := by decide +kernel
theorem d1_54 : decode method_3_code 54 = .ok (.iand, 1) := by decide +kernel
theorem d1_55 : decode method_3_code 55 = .ok (.iadd, 1) := by decide +kernel
theorem d1_56 : decode method_3_code 56 = .ok (.i2c, 1) := by decide +kernel
theorem d1_57 : decode method_3_code 57 = .ok (.ireturn, 1) := by decide +kernel
theorem pn_com_example_tiphys_tiphys_CodePointOrderComparePinLaw : plainName "com/example/tiphys/tiphys/CodePointOrderComparePinLaw" = true := by first | (simp [plainName, overriddenIn]; done) | decide +kernel
theorem ef_rmD (m : MethodId) (p0 : Int32)  : entryFrame m #[(.int p0)] 3 = mkF m 0 #[.val (.int p0), .unset, .unset] [] := by first |  (simp [entryFrame, mkF, argsToLocals, Value.category]; done) | rfl
def f_rmD (p0 : Int32) : Int32 := if (p0 &&& (3 : Int32)) = (0 : Int32) then (nar .char ((((p0.toUInt32 >>> ((2 : Int32) &&& 31).toUInt32).toInt32) &&& (65535 : Int32)).toUInt32.toUInt16.toUInt32.toInt32)) else if (p0 &&& (3 : Int32)) = (1 : Int32) then (nar .char (((55296 : Int32) + (((p0.toUInt32 >>> ((2 : Int32) &&& 31).toUInt32).toInt32) &&& (1023 : Int32))).toUInt32.toUInt16.toUInt32.toInt32)) else if (p0 &&& (3 : Int32)) = (2 : Int32) then (nar .char (((56320 : Int32) + (((p0.toUInt32 >>> ((2 : Int32) &&& 31).toUInt32).toInt32) &&& (1023 : Int32))).toUInt32.toUInt16.toUInt32.toInt32)) else (nar .char (((57344 : Int32) + (((p0.toUInt32 >>> ((2 : Int32) &&& 31).toUInt32).toInt32) &&& (8191 : Int32))).toUInt32.toUInt16.toUInt32.toInt32))
def Q_rmD (Z : State) (p0 : Int32) (h0 : Heap) (n0 : Nat) (v : Option Value) (h : Heap) (L : List Loc) : Prop := v = some (.int (f_rmD p0)) ∧ Fr n0 L ∧ h = h0
theorem rmD (l : Launch) (Z : State) (a0 : Array Value) (hw : ∀ d ∈ tables_1, d.before a0 Z = true) (ws : List Jvm.Cond) (p0 : Int32) (h0 : Heap) (n0 : Nat) (Z0 : n0 ≤ h0.size) :
    MetFree l own_m0 (head1 (Jvm.Cond.code own_m0 method_3_code 3 (some .char) :: ws) ({ frames := 0, cells := 0, slots := 0, locals := 0 } : Room)) (fun a U => a = #[(.int p0)] ∧ Z.Warmed39 U.vm ∧ U.heap = h0) (fun _ _ _ _ _ => True) (fun _ U o U' => ∃ v L, o = .returned v ∧ Q_rmD Z p0 h0 n0 v U'.heap L ∧ FrameEnd U o U' L ({ frames := 0, cells := 0, slots := 0, locals := 0 } : Room).cells ({ frames := 0, cells := 0, slots := 0, locals := 0 } : Room).slots) := by
  refine MetFree.of_bodySF (plainFor_of_name pn_com_example_tiphys_tiphys_CodePointOrderComparePinLaw) hisR ?_
  intro p e s m args below meth c s₁ Bd hml0 hP hK
  obtain ⟨rfl, hZ, hh⟩ := hP
  have hx := Bd.exec
  have hby := Bd.bytes
  have hml : c.maxLocals = 3 := hml0
  have hown : s.vm.findClass "com/example/tiphys/tiphys/CodePointOrderComparePinLaw" = some m.cls := findClass_of_methodNamed Bd.named
  have hnm := (name_of_methodNamed Bd.named Bd.method).1
  have hlk := Bd.notSynchronized
  have X0 : Stand p l e ({ frames := 0, cells := 0, slots := 0, locals := 0 } : Room) s m #[(.int p0)] below meth c s₁ [] 0 0 := Stand.of_body Bd
  have e0 : s₁.heap = h0 := by rw [← hh, Bd.state]; rfl
  have N0 := Fr.nil n0
  show own_G p.tables e below s (Q_rmD Z p0 h0 n0) ({ frames := 0, cells := 0, slots := 0, locals := 0 } : Room).cells ({ frames := 0, cells := 0, slots := 0, locals := 0 } : Room).slots _
  refine own_thr (a := s₁.setTop (mkF m 0 #[.val (.int p0), .unset, .unset] [])) (fun t kt => castTop (ef_rmD m p0) kt) ?_
  refine own_thr (a := s₁.setTop (mkF m 9 #[.val (.int p0), .val (.int (p0 &&& (3 : Int32))), .val (.int ((p0.toUInt32 >>> ((2 : Int32) &&& 31).toUInt32).toInt32))] [(.int (p0 &&& (3 : Int32)))])) (fun t kt => ?_) ?_
  · refine XS.iloadN X0.here hx rfl (hb hby d1_0) rfl ?_
    refine XS.iconst X0.here hx rfl (hb hby d1_1) ?_
    refine XS.iand X0.here hx rfl (hb hby d1_2) rfl ?_
    refine XS.istoreN X0.here hx rfl (hb hby d1_3) rfl (l' := #[.val (.int p0), .val (.int (p0 &&& (3 : Int32))), .unset]) rfl ?_
    refine XS.iloadN X0.here hx rfl (hb hby d1_4) rfl ?_
    refine XS.iconst X0.here hx rfl (hb hby d1_5) ?_
    refine XS.iushr X0.here hx rfl (hb hby d1_6) rfl ?_
    refine XS.istoreN X0.here hx rfl (hb hby d1_7) rfl (l' := #[.val (.int p0), .val (.int (p0 &&& (3 : Int32))), .val (.int ((p0.toUInt32 >>> ((2 : Int32) &&& 31).toUInt32).toInt32))]) rfl ?_
    refine XS.iloadN X0.here hx rfl (hb hby d1_8) rfl ?_
    exact kt
  by_cases hc1 : (p0 &&& (3 : Int32)) = (0 : Int32)
  · refine own_thr (a := s₁.setTop (mkF m 17 #[.val (.int p0), .val (.int (p0 &&& (3 : Int32))), .val (.int ((p0.toUInt32 >>> ((2 : Int32) &&& 31).toUInt32).toInt32))] [(.int ((((p0.toUInt32 >>> ((2 : Int32) &&& 31).toUInt32).toInt32) &&& (65535 : Int32)).toUInt32.toUInt16.toUInt32.toInt32))])) (fun t kt => ?_) ?_
    · refine XS.ifNo X0.here hx rfl (hb hby d1_9) rfl ((if0 _ _).trans (teq hc1).2) ?_
      refine XS.iloadN X0.here hx rfl (hb hby d1_12) rfl ?_
      refine X0.ldcInt hx hown (mvT hZ (hw _ (own_i 4 rfl))) (g := (mkF m 13 #[.val (.int p0), .val (.int (p0 &&& (3 : Int32))), .val (.int ((p0.toUInt32 >>> ((2 : Int32) &&& 31).toUInt32).toInt32))] [(.int ((p0.toUInt32 >>> ((2 : Int32) &&& 31).toUInt32).toInt32))])) rfl (hb hby d1_13) _ ?_
      refine XS.iand X0.here hx rfl (hb hby d1_15) rfl ?_
      refine XS.i2c X0.here hx rfl (hb hby d1_16) rfl ?_
      exact kt
    exact own_end X0 hlk (v := some (.int (nar .char ((((p0.toUInt32 >>> ((2 : Int32) &&& 31).toUInt32).toInt32) &&& (65535 : Int32)).toUInt32.toUInt16.toUInt32.toInt32)))) (fun h => by rw [Bd.returns] at h; cases h) (fun fs hr => retN X0 hx (t := .char) Bd.returns (by simp) (hb hby d1_17) hr) (by rw [e0]; exact ⟨(by rw [f_rmD, if_pos hc1]), N0, rfl⟩) (by decide : 0 ≤ _) (by decide : 0 ≤ _)
  · refine own_thr (a := s₁.setTop (mkF m 20 #[.val (.int p0), .val (.int (p0 &&& (3 : Int32))), .val (.int ((p0.toUInt32 >>> ((2 : Int32) &&& 31).toUInt32).toInt32))] [(.int 1), (.int (p0 &&& (3 : Int32)))])) (fun t kt => ?_) ?_
    · refine XS.ifYes X0.here hx rfl (pc0 := 9) (pc' := 18) rfl (hb hby d1_9) rfl ((if0 _ _).trans (feq hc1).2) (by decide) (by decide) ?_
      refine XS.iloadN X0.here hx rfl (hb hby d1_18) rfl ?_
      refine XS.iconst X0.here hx rfl (hb hby d1_19) ?_
      exact kt
    by_cases hc2 : (p0 &&& (3 : Int32)) = (1 : Int32)
    · refine own_thr (a := s₁.setTop (mkF m 32 #[.val (.int p0), .val (.int (p0 &&& (3 : Int32))), .val (.int ((p0.toUInt32 >>> ((2 : Int32) &&& 31).toUInt32).toInt32))] [(.int (((55296 : Int32) + (((p0.toUInt32 >>> ((2 : Int32) &&& 31).toUInt32).toInt32) &&& (1023 : Int32))).toUInt32.toUInt16.toUInt32.toInt32))])) (fun t kt => ?_) ?_
      · refine XS.icmpNo X0.here hx rfl (hb hby d1_20) rfl (teq hc2).2 ?_
        refine X0.ldcInt hx hown (mvT hZ (hw _ (own_i 7 rfl))) (g := (mkF m 23 #[.val (.int p0), .val (.int (p0 &&& (3 : Int32))), .val (.int ((p0.toUInt32 >>> ((2 : Int32) &&& 31).toUInt32).toInt32))] [])) rfl (hb hby d1_23) _ ?_
        refine XS.iloadN X0.here hx rfl (hb hby d1_25) rfl ?_
        refine XS.sipush X0.here hx rfl (hb hby d1_26) ?_
        refine XS.iand X0.here hx rfl (hb hby d1_29) rfl ?_
        refine XS.iadd X0.here hx rfl (hb hby d1_30) rfl ?_
        refine XS.i2c X0.here hx rfl (hb hby d1_31) rfl ?_
        exact kt
      exact own_end X0 hlk (v := some (.int (nar .char (((55296 : Int32) + (((p0.toUInt32 >>> ((2 : Int32) &&& 31).toUInt32).toInt32) &&& (1023 : Int32))).toUInt32.toUInt16.toUInt32.toInt32)))) (fun h => by rw [Bd.returns] at h; cases h) (fun fs hr => retN X0 hx (t := .char) Bd.returns (by simp) (hb hby d1_32) hr) (by rw [e0]; exact ⟨(by rw [f_rmD, if_neg hc1, if_pos hc2]), N0, rfl⟩) (by decide : 0 ≤ _) (by decide : 0 ≤ _)
    · refine own_thr (a := s₁.setTop (mkF m 35 #[.val (.int p0), .val (.int (p0 &&& (3 : Int32))), .val (.int ((p0.toUInt32 >>> ((2 : Int32) &&& 31).toUInt32).toInt32))] [(.int 2), (.int (p0 &&& (3 : Int32)))])) (fun t kt => ?_) ?_
      · refine XS.icmpYes X0.here hx rfl (pc0 := 20) (pc' := 33) rfl (hb hby d1_20) rfl (feq hc2).2 (by decide) (by decide) ?_
        refine XS.iloadN X0.here hx rfl (hb hby d1_33) rfl ?_
        refine XS.iconst X0.here hx rfl (hb hby d1_34) ?_
        exact kt
      by_cases hc3 : (p0 &&& (3 : Int32)) = (2 : Int32)
      · refine own_thr (a := s₁.setTop (mkF m 47 #[.val (.int p0), .val (.int (p0 &&& (3 : Int32))), .val (.int ((p0.toUInt32 >>> ((2 : Int32) &&& 31).toUInt32).toInt32))] [(.int (((56320 : Int32) + (((p0.toUInt32 >>> ((2 : Int32) &&& 31).toUInt32).toInt32) &&& (1023 : Int32))).toUInt32.toUInt16.toUInt32.toInt32))])) (fun t kt => ?_) ?_
        · refine XS.icmpNo X0.here hx rfl (hb hby d1_35) rfl (teq hc3).2 ?_
          refine X0.ldcInt hx hown (mvT hZ (hw _ (own_i 6 rfl))) (g := (mkF m 38 #[.val (.int p0), .val (.int (p0 &&& (3 : Int32))), .val (.int ((p0.toUInt32 >>> ((2 : Int32) &&& 31).toUInt32).toInt32))] [])) rfl (hb hby d1_38) _ ?_
          refine XS.iloadN X0.here hx rfl (hb hby d1_40) rfl ?_
          refine XS.sipush X0.here hx rfl (hb hby d1_41) ?_
          refine XS.iand X0.here hx rfl (hb hby d1_44) rfl ?_
          refine XS.iadd X0.here hx rfl (hb hby d1_45) rfl ?_
          refine XS.i2c X0.here hx rfl (hb hby d1_46) rfl ?_
          exact kt
        exact own_end X0 hlk (v := some (.int (nar .char (((56320 : Int32) + (((p0.toUInt32 >>> ((2 : Int32) &&& 31).toUInt32).toInt32) &&& (1023 : Int32))).toUInt32.toUInt16.toUInt32.toInt32)))) (fun h => by rw [Bd.returns] at h; cases h) (fun fs hr => retN X0 hx (t := .char) Bd.returns (by simp) (hb hby d1_47) hr) (by rw [e0]; exact ⟨(by rw [f_rmD, if_neg hc1, if_neg hc2, if_pos hc3]), N0, rfl⟩) (by decide : 0 ≤ _) (by decide : 0 ≤ _)
      · refine own_thr (a := s₁.setTop (mkF m 57 #[.val (.int p0), .val (.int (p0 &&& (3 : Int32))), .val (.int ((p0.toUInt32 >>> ((2 : Int32) &&& 31).toUInt32).toInt32))] [(.int (((57344 : Int32) + (((p0.toUInt32 >>> ((2 : Int32) &&& 31).toUInt32).toInt32) &&& (8191 : Int32))).toUInt32.toUInt16.toUInt32.toInt32))])) (fun t kt => ?_) ?_
        · refine XS.icmpYes X0.here hx rfl (pc0 := 35) (pc' := 48) rfl (hb hby d1_35) rfl (feq hc3).2 (by decide) (by decide) ?_
          refine X0.ldcInt hx hown (mvT hZ (hw _ (own_i 5 rfl))) (g := (mkF m 48 #[.val (.int p0), .val (.int (p0 &&& (3 : Int32))), .val (.int ((p0.toUInt32 >>> ((2 : Int32) &&& 31).toUInt32).toInt32))] [])) rfl (hb hby d1_48) _ ?_
          refine XS.iloadN X0.here hx rfl (hb hby d1_50) rfl ?_
          refine XS.sipush X0.here hx rfl (hb hby d1_51) ?_
          refine XS.iand X0.here hx rfl (hb hby d1_54) rfl ?_
          refine XS.iadd X0.here hx rfl (hb hby d1_55) rfl ?_
          refine XS.i2c X0.here hx rfl (hb hby d1_56) rfl ?_
          exact kt
        exact own_end X0 hlk (v := some (.int (nar .char (((57344 : Int32) + (((p0.toUInt32 >>> ((2 : Int32) &&& 31).toUInt32).toInt32) &&& (8191 : Int32))).toUInt32.toUInt16.toUInt32.toInt32)))) (fun h => by rw [Bd.returns] at h; cases h) (fun fs hr => retN X0 hx (t := .char) Bd.returns (by simp) (hb hby d1_57) hr) (by rw [e0]; exact ⟨(by rw [f_rmD, if_neg hc1, if_neg hc2, if_neg hc3]), N0, rfl⟩) (by decide : 0 ≤ _) (by decide : 0 ≤ _)
theorem own_d (x : Int32) : own_R (f_rmD x) := by
  unfold f_rmD
  repeat' split
  all_goals exact own_c16 _
theorem d19_0 : decode jdk_52_method_5_code 0 = .ok (.getstatic 44, 3) := by decide +kernel
theorem d19_3 : decode jdk_52_method_5_code 3 = .ok (.ifCond .ne 25, 3) := by decide +kernel
theorem d19_28 : decode jdk_52_method_5_code 28 = .ok (.iload_n 1, 1) := by decide +kernel
theorem d19_29 : decode jdk_52_method_5_code 29 = .ok (.iconst 1, 1) := by decide +kernel
theorem d19_30 : decode jdk_52_method_5_code 30 = .ok (.ishl, 1) := by decide +kernel
theorem d19_31 : decode jdk_52_method_5_code 31 = .ok (.istore_n 1, 1) := by decide +kernel
theorem d19_32 : decode jdk_52_method_5_code 32 = .ok (.aload_n 0, 1) := by decide +kernel
theorem d19_33 : decode jdk_52_method_5_code 33 = .ok (.iload_n 1, 1) := by decide +kernel
theorem d19_34 : decode jdk_52_method_5_code 34 = .ok (.iinc 1 1, 3) := by decide +kernel
theorem d19_37 : decode jdk_52_method_5_code 37 = .ok (.baload, 1) := by decide +kernel
theorem d19_38 : decode jdk_52_method_5_code 38 = .ok (.sipush 255, 3) := by decide +kernel
theorem d19_41 : decode jdk_52_method_5_code 41 = .ok (.iand, 1) := by decide +kernel
theorem d19_42 : decode jdk_52_method_5_code 42 = .ok (.getstatic 59, 3) := by decide +kernel
theorem d19_45 : decode jdk_52_method_5_code 45 = .ok (.ishl, 1) := by decide +kernel
theorem d19_46 : decode jdk_52_method_5_code 46 = .ok (.aload_n 0, 1) := by decide +kernel
theorem d19_47 : decode jdk_52_method_5_code 47 = .ok (.iload_n 1, 1) := by decide +kernel
theorem d19_48 : decode jdk_52_method_5_code 48 = .ok (.baload, 1) := by decide +kernel
theorem d19_49 : decode jdk_52_method_5_code 49 = .ok (.sipush 255, 3) := by decide +kernel
theorem d19_52 : decode jdk_52_method_5_code 52 = .ok (.iand, 1) := by decide +kernel
theorem d19_53 : decode jdk_52_method_5_code 53 = .ok (.getstatic 63, 3) := by decide +kernel
theorem d19_56 : decode jdk_52_method_5_code 56 = .ok (.ishl, 1) := by decide +kernel
theorem d19_57 : decode jdk_52_method_5_code 57 = .ok (.ior, 1) := by decide +kernel
theorem d19_58 : decode jdk_52_method_5_code 58 = .ok (.i2c, 1) := by decide +kernel
theorem d19_59 : decode jdk_52_method_5_code 59 = .ok (.ireturn, 1) := by decide +kernel
theorem pn_java_lang_StringUTF16 : plainName "java/lang/StringUTF16" = true := by first | (simp [plainName, overriddenIn]; done) | decide +kernel
theorem ef_rmG10 (m : MethodId) (o0 : Addr)  : entryFrame m #[(.ref o0), (.int 0)] 2 = mkF m 0 #[.val (.ref o0), .val (.int 0)] [] := by first |  (simp [entryFrame, mkF, argsToLocals, Value.category]; done) | rfl
def Q_rmG10 (Z : State) (o0 : Addr) (x0 : Int32) (x1 : Int32) (k0 : ClassId) (cs : Int32) (fm : Value) (h0 : Heap) (n0 : Nat) (v : Option Value) (h : Heap) (L : List Loc) : Prop := v = some (.int (own_gc x0 x1)) ∧ Fr n0 L ∧ h = h0
theorem rmG10 (l : Launch) (Z : State) (a0 : Array Value) (hw : ∀ d ∈ tables_1, d.before a0 Z = true) (ws : List Jvm.Cond) (o0 : Addr) (x0 : Int32) (x1 : Int32) (k0 : ClassId) (cs : Int32) (fm : Value) (h0 : Heap) (n0 : Nat) (Z0 : n0 ≤ h0.size) (V_o0 : Arv Z h0 o0 k0 .byte (2 : Int32) [(.int x0), (.int x1)] (.int 0)) (hKs : own_K Z cs fm) (hO : Old Z n0 h0) :
    MetFree l own_m1 (head1 (Jvm.Cond.code own_m1 jdk_52_method_5_code 2 (some .char) :: ws) ({ frames := 0, cells := 0, slots := 0, locals := 0 } : Room)) (fun a U => a = #[(.ref o0), (.int 0)] ∧ Z.Warmed39 U.vm ∧ U.heap = h0) (fun _ _ _ _ _ => True) (fun _ U o U' => ∃ v L, o = .returned v ∧ Q_rmG10 Z o0 x0 x1 k0 cs fm h0 n0 v U'.heap L ∧ FrameEnd U o U' L ({ frames := 0, cells := 0, slots := 0, locals := 0 } : Room).cells ({ frames := 0, cells := 0, slots := 0, locals := 0 } : Room).slots) := by
  refine MetFree.of_bodySF (plainFor_of_name pn_java_lang_StringUTF16) hisR ?_
  intro p e s m args below meth c s₁ Bd hml0 hP hK
  obtain ⟨rfl, hZ, hh⟩ := hP
  have hx := Bd.exec
  have hby := Bd.bytes
  have hml : c.maxLocals = 2 := hml0
  have hown : s.vm.findClass "java/lang/StringUTF16" = some m.cls := findClass_of_methodNamed Bd.named
  have hnm := (name_of_methodNamed Bd.named Bd.method).1
  have hlk := Bd.notSynchronized
  have X0 : Stand p l e ({ frames := 0, cells := 0, slots := 0, locals := 0 } : Room) s m #[(.ref o0), (.int 0)] below meth c s₁ [] 0 0 := Stand.of_body Bd
  have e0 : s₁.heap = h0 := by rw [← hh, Bd.state]; rfl
  have N0 := Fr.nil n0
  show own_G p.tables e below s (Q_rmG10 Z o0 x0 x1 k0 cs fm h0 n0) ({ frames := 0, cells := 0, slots := 0, locals := 0 } : Room).cells ({ frames := 0, cells := 0, slots := 0, locals := 0 } : Room).slots _
  refine own_thr (a := s₁.setTop (mkF m 0 #[.val (.ref o0), .val (.int 0)] [])) (fun t kt => castTop (ef_rmG10 m o0) kt) ?_
  obtain ⟨T1, X1, e1, st1⟩ := getS2 X0 hx hZ hown (host := "") (Or.inl (hw _ (own_i 81 rfl))) Via.refl e0 (hKs.2.2.2.2.1.ext hO.2) (g := (mkF m 0 #[.val (.ref o0), .val (.int 0)] [])) rfl (hb hby d19_0)
  refine own_thr (a := T1.setTop (mkF m 3 #[.val (.ref o0), .val (.int 0)] [(.int 1)])) (fun t kt => st1 t kt) ?_
  refine own_thr (a := T1.setTop (mkF m 37 #[.val (.ref o0), .val (.int 1)] [(.int 0), (.ref o0)])) (fun t kt => ?_) ?_
  · refine XS.ifYes X1.here hx rfl (pc0 := 3) (pc' := 28) rfl (hb hby d19_3) rfl ((if0 _ _).trans (feq (by decide)).2) (by decide) (by decide) ?_
    refine XS.iloadN X1.here hx rfl (hb hby d19_28) rfl ?_
    refine XS.iconst X1.here hx rfl (hb hby d19_29) ?_
    refine XS.ishl X1.here hx rfl (hb hby d19_30) rfl ?_
    refine XS.istoreN X1.here hx rfl (hb hby d19_31) rfl (l' := #[.val (.ref o0), .val (.int 0)]) rfl ?_
    refine XS.aloadN X1.here hx rfl (hb hby d19_32) rfl rfl ?_
    refine XS.iloadN X1.here hx rfl (hb hby d19_33) rfl ?_
    refine XS.iinc X1.here hx rfl (hb hby d19_34) rfl (l' := #[.val (.ref o0), .val (.int 1)]) rfl ?_
    exact kt
  obtain ⟨cl2, Ar2, -, S2, M2, H2, -⟩ := id V_o0
  have hin2 : ¬ ((0 : Int32) < 0 ∨ cl2.slots.size ≤ ((0 : Int32)).toNatClampNeg) := inb_of S2 ⟨by decide, by decide⟩
  have hat2 : cl2.slots[((0 : Int32)).toNatClampNeg]? = some (.int x0) := Has.at H2 hin2 rfl
  refine own_thr (a := T1.setTop (mkF m 42 #[.val (.ref o0), .val (.int 1)] [(.int (x0 &&& (255 : Int32)))])) (fun t kt => ?_) ?_
  · refine X1.baloadBytes hx (j := (0 : Int32)) (v := (.int x0)) (by rw [e1]; exact Ar2.1) (State.isArrayOf_alike hZ.alike Ar2.2.1) Ar2.2.2 hin2 hat2 (g := (mkF m 37 #[.val (.ref o0), .val (.int 1)] [(.int 0), (.ref o0)])) rfl rfl (hb hby d19_37) _ ?_
    refine XS.sipush X1.here hx rfl (hb hby d19_38) ?_
    refine XS.iand X1.here hx rfl (hb hby d19_41) rfl ?_
    exact kt
  obtain ⟨T3, X3, e3, st3⟩ := getS2 X1 hx hZ hown (host := "") (Or.inl (hw _ (own_i 82 rfl))) Via.refl e1 (hKs.2.2.2.2.2.1.ext hO.2) (g := (mkF m 42 #[.val (.ref o0), .val (.int 1)] [(.int (x0 &&& (255 : Int32)))])) rfl (hb hby d19_42)
  refine own_thr (a := T3.setTop (mkF m 45 #[.val (.ref o0), .val (.int 1)] [(.int 0), (.int (x0 &&& (255 : Int32)))])) (fun t kt => st3 t kt) ?_
  refine own_thr (a := T3.setTop (mkF m 48 #[.val (.ref o0), .val (.int 1)] [(.int 1), (.ref o0), (.int ((x0 &&& (255 : Int32)) <<< ((0 : Int32) &&& 31)))])) (fun t kt => ?_) ?_
  · refine XS.ishl X3.here hx rfl (hb hby d19_45) rfl ?_
    refine XS.aloadN X3.here hx rfl (hb hby d19_46) rfl rfl ?_
    refine XS.iloadN X3.here hx rfl (hb hby d19_47) rfl ?_
    exact kt
  obtain ⟨cl4, Ar4, -, S4, M4, H4, -⟩ := id V_o0
  have hin4 : ¬ ((1 : Int32) < 0 ∨ cl4.slots.size ≤ ((1 : Int32)).toNatClampNeg) := inb_of S4 ⟨by decide, by decide⟩
  have hat4 : cl4.slots[((1 : Int32)).toNatClampNeg]? = some (.int x1) := Has.at H4 hin4 rfl
  refine own_thr (a := T3.setTop (mkF m 53 #[.val (.ref o0), .val (.int 1)] [(.int (x1 &&& (255 : Int32))), (.int ((x0 &&& (255 : Int32)) <<< ((0 : Int32) &&& 31)))])) (fun t kt => ?_) ?_
  · refine X3.baloadBytes hx (j := (1 : Int32)) (v := (.int x1)) (by rw [e3]; exact Ar4.1) (State.isArrayOf_alike hZ.alike Ar4.2.1) Ar4.2.2 hin4 hat4 (g := (mkF m 48 #[.val (.ref o0), .val (.int 1)] [(.int 1), (.ref o0), (.int ((x0 &&& (255 : Int32)) <<< ((0 : Int32) &&& 31)))])) rfl rfl (hb hby d19_48) _ ?_
    refine XS.sipush X3.here hx rfl (hb hby d19_49) ?_
    refine XS.iand X3.here hx rfl (hb hby d19_52) rfl ?_
    exact kt
  obtain ⟨T5, X5, e5, st5⟩ := getS2 X3 hx hZ hown (host := "") (Or.inl (hw _ (own_i 83 rfl))) Via.refl e3 (hKs.2.2.2.2.2.2.ext hO.2) (g := (mkF m 53 #[.val (.ref o0), .val (.int 1)] [(.int (x1 &&& (255 : Int32))), (.int ((x0 &&& (255 : Int32)) <<< ((0 : Int32) &&& 31)))])) rfl (hb hby d19_53)
  refine own_thr (a := T5.setTop (mkF m 56 #[.val (.ref o0), .val (.int 1)] [(.int 8), (.int (x1 &&& (255 : Int32))), (.int ((x0 &&& (255 : Int32)) <<< ((0 : Int32) &&& 31)))])) (fun t kt => st5 t kt) ?_
  refine own_thr (a := T5.setTop (mkF m 59 #[.val (.ref o0), .val (.int 1)] [(.int ((((x0 &&& (255 : Int32)) <<< ((0 : Int32) &&& 31)) ||| ((x1 &&& (255 : Int32)) <<< ((8 : Int32) &&& 31))).toUInt32.toUInt16.toUInt32.toInt32))])) (fun t kt => ?_) ?_
  · refine XS.ishl X5.here hx rfl (hb hby d19_56) rfl ?_
    refine XS.ior X5.here hx rfl (hb hby d19_57) rfl ?_
    refine XS.i2c X5.here hx rfl (hb hby d19_58) rfl ?_
    exact kt
  exact own_end X5 hlk (v := some (.int (nar .char ((((x0 &&& (255 : Int32)) <<< ((0 : Int32) &&& 31)) ||| ((x1 &&& (255 : Int32)) <<< ((8 : Int32) &&& 31))).toUInt32.toUInt16.toUInt32.toInt32)))) (fun h => by rw [Bd.returns] at h; cases h) (fun fs hr => retN X5 hx (t := .char) Bd.returns (by simp) (hb hby d19_59) hr) (by rw [e5]; exact ⟨rfl, N0, rfl⟩) (by decide : 0 ≤ _) (by decide : 0 ≤ _)
theorem d18_0 : decode jdk_52_method_4_code 0 = .ok (.getstatic 44, 3) := by decide +kernel
theorem d18_3 : decode jdk_52_method_4_code 3 = .ok (.ifCond .ne 25, 3) := by decide +kernel
theorem d18_28 : decode jdk_52_method_4_code 28 = .ok (.iload_n 1, 1) := by decide +kernel
theorem d18_29 : decode jdk_52_method_4_code 29 = .ok (.iconst 1, 1) := by decide +kernel
theorem d18_30 : decode jdk_52_method_4_code 30 = .ok (.ishl, 1) := by decide +kernel
theorem d18_31 : decode jdk_52_method_4_code 31 = .ok (.istore_n 1, 1) := by decide +kernel
theorem d18_32 : decode jdk_52_method_4_code 32 = .ok (.aload_n 0, 1) := by decide +kernel
theorem d18_33 : decode jdk_52_method_4_code 33 = .ok (.iload_n 1, 1) := by decide +kernel
theorem d18_34 : decode jdk_52_method_4_code 34 = .ok (.iinc 1 1, 3) := by decide +kernel
theorem d18_37 : decode jdk_52_method_4_code 37 = .ok (.iload_n 2, 1) := by decide +kernel
theorem d18_38 : decode jdk_52_method_4_code 38 = .ok (.getstatic 59, 3) := by decide +kernel
theorem d18_41 : decode jdk_52_method_4_code 41 = .ok (.ishr, 1) := by decide +kernel
theorem d18_42 : decode jdk_52_method_4_code 42 = .ok (.i2b, 1) := by decide +kernel
theorem d18_43 : decode jdk_52_method_4_code 43 = .ok (.bastore, 1) := by decide +kernel
theorem d18_44 : decode jdk_52_method_4_code 44 = .ok (.aload_n 0, 1) := by decide +kernel
theorem d18_45 : decode jdk_52_method_4_code 45 = .ok (.iload_n 1, 1) := by decide +kernel
theorem d18_46 : decode jdk_52_method_4_code 46 = .ok (.iload_n 2, 1) := by decide +kernel
theorem d18_47 : decode jdk_52_method_4_code 47 = .ok (.getstatic 63, 3) := by decide +kernel
theorem d18_50 : decode jdk_52_method_4_code 50 = .ok (.ishr, 1) := by decide +kernel
theorem d18_51 : decode jdk_52_method_4_code 51 = .ok (.i2b, 1) := by decide +kernel
theorem d18_52 : decode jdk_52_method_4_code 52 = .ok (.bastore, 1) := by decide +kernel
theorem d18_53 : decode jdk_52_method_4_code 53 = .ok (.return_, 1) := by decide +kernel
theorem ef_rmPC10 (m : MethodId) (o0 : Addr) (ch : Int32)  : entryFrame m #[(.ref o0), (.int 0), (.int ch)] 3 = mkF m 0 #[.val (.ref o0), .val (.int 0), .val (.int ch)] [] := by first |  (simp [entryFrame, mkF, argsToLocals, Value.category]; done) | rfl
def Q_rmPC10 (Z : State) (o0 : Addr) (ch : Int32) (x0 : Int32) (x1 : Int32) (k0 : ClassId) (cs : Int32) (fm : Value) (h0 : Heap) (n0 : Nat) (v : Option Value) (h : Heap) (L : List Loc) : Prop := v = none ∧ Fr n0 L ∧ Keep h0 h [o0] ∧ Arv Z h o0 k0 .byte (2 : Int32) [(.int (((ch >>> ((0 : Int32) &&& 31)).toInt8.toInt32).toInt8.toInt32)), (.int (((ch >>> ((8 : Int32) &&& 31)).toInt8.toInt32).toInt8.toInt32))] (.int 0)
theorem rmPC10 (l : Launch) (Z : State) (a0 : Array Value) (hw : ∀ d ∈ tables_1, d.before a0 Z = true) (ws : List Jvm.Cond) (o0 : Addr) (ch : Int32) (x0 : Int32) (x1 : Int32) (k0 : ClassId) (cs : Int32) (fm : Value) (h0 : Heap) (n0 : Nat) (Z0 : n0 ≤ h0.size) (V_o0 : Arv Z h0 o0 k0 .byte (2 : Int32) [(.int x0), (.int x1)] (.int 0)) (g_o0 : n0 ≤ o0) (hKs : own_K Z cs fm) (hO : Old Z n0 h0) :
    MetFree l own_m2 (head1 (Jvm.Cond.code own_m2 jdk_52_method_4_code 3 none :: ws) ({ frames := 0, cells := 0, slots := 0, locals := 0 } : Room)) (fun a U => a = #[(.ref o0), (.int 0), (.int ch)] ∧ Z.Warmed39 U.vm ∧ U.heap = h0) (fun _ _ _ _ _ => True) (fun _ U o U' => ∃ v L, o = .returned v ∧ Q_rmPC10 Z o0 ch x0 x1 k0 cs fm h0 n0 v U'.heap L ∧ FrameEnd U o U' L ({ frames := 0, cells := 0, slots := 0, locals := 0 } : Room).cells ({ frames := 0, cells := 0, slots := 0, locals := 0 } : Room).slots) := by
  refine MetFree.of_bodySF (plainFor_of_name pn_java_lang_StringUTF16) hisR ?_
  intro p e s m args below meth c s₁ Bd hml0 hP hK
  obtain ⟨rfl, hZ, hh⟩ := hP
  have hx := Bd.exec
  have hby := Bd.bytes
  have hml : c.maxLocals = 3 := hml0
  have hown : s.vm.findClass "java/lang/StringUTF16" = some m.cls := findClass_of_methodNamed Bd.named
  have hnm := (name_of_methodNamed Bd.named Bd.method).1
  have hlk := Bd.notSynchronized
  have X0 : Stand p l e ({ frames := 0, cells := 0, slots := 0, locals := 0 } : Room) s m #[(.ref o0), (.int 0), (.int ch)] below meth c s₁ [] 0 0 := Stand.of_body Bd
  have e0 : s₁.heap = h0 := by rw [← hh, Bd.state]; rfl
  have N0 := Fr.nil n0
  show own_G p.tables e below s (Q_rmPC10 Z o0 ch x0 x1 k0 cs fm h0 n0) ({ frames := 0, cells := 0, slots := 0, locals := 0 } : Room).cells ({ frames := 0, cells := 0, slots := 0, locals := 0 } : Room).slots _
  refine own_thr (a := s₁.setTop (mkF m 0 #[.val (.ref o0), .val (.int 0), .val (.int ch)] [])) (fun t kt => castTop (ef_rmPC10 m o0 ch) kt) ?_
  obtain ⟨T1, X1, e1, st1⟩ := getS2 X0 hx hZ hown (host := "") (Or.inl (hw _ (own_i 81 rfl))) Via.refl e0 (hKs.2.2.2.2.1.ext hO.2) (g := (mkF m 0 #[.val (.ref o0), .val (.int 0), .val (.int ch)] [])) rfl (hb hby d18_0)
  refine own_thr (a := T1.setTop (mkF m 3 #[.val (.ref o0), .val (.int 0), .val (.int ch)] [(.int 1)])) (fun t kt => st1 t kt) ?_
  refine own_thr (a := T1.setTop (mkF m 38 #[.val (.ref o0), .val (.int 1), .val (.int ch)] [(.int ch), (.int 0), (.ref o0)])) (fun t kt => ?_) ?_
  · refine XS.ifYes X1.here hx rfl (pc0 := 3) (pc' := 28) rfl (hb hby d18_3) rfl ((if0 _ _).trans (feq (by decide)).2) (by decide) (by decide) ?_
    refine XS.iloadN X1.here hx rfl (hb hby d18_28) rfl ?_
    refine XS.iconst X1.here hx rfl (hb hby d18_29) ?_
    refine XS.ishl X1.here hx rfl (hb hby d18_30) rfl ?_
    refine XS.istoreN X1.here hx rfl (hb hby d18_31) rfl (l' := #[.val (.ref o0), .val (.int 0), .val (.int ch)]) rfl ?_
    refine XS.aloadN X1.here hx rfl (hb hby d18_32) rfl rfl ?_
    refine XS.iloadN X1.here hx rfl (hb hby d18_33) rfl ?_
    refine XS.iinc X1.here hx rfl (hb hby d18_34) rfl (l' := #[.val (.ref o0), .val (.int 1), .val (.int ch)]) rfl ?_
    refine XS.iloadN X1.here hx rfl (hb hby d18_37) rfl ?_
    exact kt
  obtain ⟨T2, X2, e2, st2⟩ := getS2 X1 hx hZ hown (host := "") (Or.inl (hw _ (own_i 82 rfl))) Via.refl e1 (hKs.2.2.2.2.2.1.ext hO.2) (g := (mkF m 38 #[.val (.ref o0), .val (.int 1), .val (.int ch)] [(.int ch), (.int 0), (.ref o0)])) rfl (hb hby d18_38)
  refine own_thr (a := T2.setTop (mkF m 41 #[.val (.ref o0), .val (.int 1), .val (.int ch)] [(.int 0), (.int ch), (.int 0), (.ref o0)])) (fun t kt => st2 t kt) ?_
  refine own_thr (a := T2.setTop (mkF m 43 #[.val (.ref o0), .val (.int 1), .val (.int ch)] [(.int ((ch >>> ((0 : Int32) &&& 31)).toInt8.toInt32)), (.int 0), (.ref o0)])) (fun t kt => ?_) ?_
  · refine XS.ishr X2.here hx rfl (hb hby d18_41) rfl ?_
    refine XS.i2b X2.here hx rfl (hb hby d18_42) rfl ?_
    exact kt
  obtain ⟨cl3, Ar3, q3, S3, M3, H3, G3⟩ := id V_o0
  have hin3 : ¬ ((0 : Int32) < 0 ∨ cl3.slots.size ≤ ((0 : Int32)).toNatClampNeg) := inb_of S3 ⟨by decide, by decide⟩
  obtain ⟨T3, h3, X3, e3, W3, st3⟩ := stB X2 hx hZ e2 Ar3 (j := (0 : Int32)) hin3 (g := (mkF m 43 #[.val (.ref o0), .val (.int 1), .val (.int ch)] [(.int ((ch >>> ((0 : Int32) &&& 31)).toInt8.toInt32)), (.int 0), (.ref o0)])) rfl rfl (hb hby d18_43)
  have Z4 : n0 ≤ h3.size := Nat.le_trans Z0 (Nat.le_of_eq W3.size.symm)
  have Z4h : h0.size ≤ h3.size := Nat.le_trans (Nat.le_refl h0.size) (Nat.le_of_eq W3.size.symm)
  have V3 : Arv Z h3 o0 k0 .byte (2 : Int32) [(.int (((ch >>> ((0 : Int32) &&& 31)).toInt8.toInt32).toInt8.toInt32)), (.int x1)] (.int 0) := Arv.set Ar3 q3 S3 M3 H3 G3 (fits_nar_byte _) W3 0 rfl (Nat.le_of_ble_eq_true rfl)
  obtain ⟨lc3, X3, N3⟩ := own_pack1 X3 N0 g_o0
  refine own_thr (a := T3.setTop (mkF m 44 #[.val (.ref o0), .val (.int 1), .val (.int ch)] [])) (fun t kt => st3 t kt) ?_
  refine own_thr (a := T3.setTop (mkF m 47 #[.val (.ref o0), .val (.int 1), .val (.int ch)] [(.int ch), (.int 1), (.ref o0)])) (fun t kt => ?_) ?_
  · refine XS.aloadN X3.here hx rfl (hb hby d18_44) rfl rfl ?_
    refine XS.iloadN X3.here hx rfl (hb hby d18_45) rfl ?_
    refine XS.iloadN X3.here hx rfl (hb hby d18_46) rfl ?_
    exact kt
  obtain ⟨T5, X5, e5, st5⟩ := getS2 X3 hx hZ hown (host := "") (Or.inl (hw _ (own_i 83 rfl))) Via.refl e3 (hKs.2.2.2.2.2.2.ext (hO.wr W3 g_o0).2) (g := (mkF m 47 #[.val (.ref o0), .val (.int 1), .val (.int ch)] [(.int ch), (.int 1), (.ref o0)])) rfl (hb hby d18_47)
  refine own_thr (a := T5.setTop (mkF m 50 #[.val (.ref o0), .val (.int 1), .val (.int ch)] [(.int 8), (.int ch), (.int 1), (.ref o0)])) (fun t kt => st5 t kt) ?_
  refine own_thr (a := T5.setTop (mkF m 52 #[.val (.ref o0), .val (.int 1), .val (.int ch)] [(.int ((ch >>> ((8 : Int32) &&& 31)).toInt8.toInt32)), (.int 1), (.ref o0)])) (fun t kt => ?_) ?_
  · refine XS.ishr X5.here hx rfl (hb hby d18_50) rfl ?_
    refine XS.i2b X5.here hx rfl (hb hby d18_51) rfl ?_
    exact kt
  obtain ⟨cl6, Ar6, q6, S6, M6, H6, G6⟩ := id V3
  have hin6 : ¬ ((1 : Int32) < 0 ∨ cl6.slots.size ≤ ((1 : Int32)).toNatClampNeg) := inb_of S6 ⟨by decide, by decide⟩
  obtain ⟨T6, h6, X6, e6, W6, st6⟩ := stB X5 hx hZ e5 Ar6 (j := (1 : Int32)) hin6 (g := (mkF m 52 #[.val (.ref o0), .val (.int 1), .val (.int ch)] [(.int ((ch >>> ((8 : Int32) &&& 31)).toInt8.toInt32)), (.int 1), (.ref o0)])) rfl rfl (hb hby d18_52)
  have Z7 : n0 ≤ h6.size := Nat.le_trans Z4 (Nat.le_of_eq W6.size.symm)
  have Z7h : h0.size ≤ h6.size := Nat.le_trans Z4h (Nat.le_of_eq W6.size.symm)
  have V6 : Arv Z h6 o0 k0 .byte (2 : Int32) [(.int (((ch >>> ((0 : Int32) &&& 31)).toInt8.toInt32).toInt8.toInt32)), (.int (((ch >>> ((8 : Int32) &&& 31)).toInt8.toInt32).toInt8.toInt32))] (.int 0) := Arv.set Ar6 q6 S6 M6 H6 G6 (fits_nar_byte _) W6 1 rfl (Nat.le_of_ble_eq_true rfl)
  obtain ⟨lc6, X6, N6⟩ := own_pack1 X6 N3 g_o0
  refine own_thr (a := T6.setTop (mkF m 53 #[.val (.ref o0), .val (.int 1), .val (.int ch)] [])) (fun t kt => st6 t kt) ?_
  exact own_end X6 hlk (v := none) (fun _ => rfl) (fun fs hr => X6.returnOut hx Bd.returns (hb hby d18_53) hr) (by rw [e6]; exact ⟨rfl, N6, (((Keep.refl h0 [o0]).wr W3 (Or.inl (own_i 0 rfl))).wr W6 (Or.inl (own_i 0 rfl))), V6⟩) (by decide : 0 ≤ _) (by decide : 0 ≤ _)
theorem ef_rmG20 (m : MethodId) (o0 : Addr)  : entryFrame m #[(.ref o0), (.int 0)] 2 = mkF m 0 #[.val (.ref o0), .val (.int 0)] [] := by first |  (simp [entryFrame, mkF, argsToLocals, Value.category]; done) | rfl
def Q_rmG20 (Z : State) (o0 : Addr) (x0 : Int32) (x1 : Int32) (x2 : Int32) (x3 : Int32) (k0 : ClassId) (cs : Int32) (fm : Value) (h0 : Heap) (n0 : Nat) (v : Option Value) (h : Heap) (L : List Loc) : Prop := v = some (.int (own_gc x0 x1)) ∧ Fr n0 L ∧ h = h0
theorem rmG20 (l : Launch) (Z : State) (a0 : Array Value) (hw : ∀ d ∈ tables_1, d.before a0 Z = true) (ws : List Jvm.Cond) (o0 : Addr) (x0 : Int32) (x1 : Int32) (x2 : Int32) (x3 : Int32) (k0 : ClassId) (cs : Int32) (fm : Value) (h0 : Heap) (n0 : Nat) (Z0 : n0 ≤ h0.size) (V_o0 : Arv Z h0 o0 k0 .byte (4 : Int32) [(.int x0), (.int x1), (.int x2), (.int x3)] (.int 0)) (hKs : own_K Z cs fm) (hO : Old Z n0 h0) :
    MetFree l own_m1 (head1 (Jvm.Cond.code own_m1 jdk_52_method_5_code 2 (some .char) :: ws) ({ frames := 0, cells := 0, slots := 0, locals := 0 } : Room)) (fun a U => a = #[(.ref o0), (.int 0)] ∧ Z.Warmed39 U.vm ∧ U.heap = h0) (fun _ _ _ _ _ => True) (fun _ U o U' => ∃ v L, o = .returned v ∧ Q_rmG20 Z o0 x0 x1 x2 x3 k0 cs fm h0 n0 v U'.heap L ∧ FrameEnd U o U' L ({ frames := 0, cells := 0, slots := 0, locals := 0 } : Room).cells ({ frames := 0, cells := 0, slots := 0, locals := 0 } : Room).slots) := by
  refine MetFree.of_bodySF (plainFor_of_name pn_java_lang_StringUTF16) hisR ?_
  intro p e s m args below meth c s₁ Bd hml0 hP hK
  obtain ⟨rfl, hZ, hh⟩ := hP
  have hx := Bd.exec
  have hby := Bd.bytes
  have hml : c.maxLocals = 2 := hml0
  have hown : s.vm.findClass "java/lang/StringUTF16" = some m.cls := findClass_of_methodNamed Bd.named
  have hnm := (name_of_methodNamed Bd.named Bd.method).1
  have hlk := Bd.notSynchronized
  have X0 : Stand p l e ({ frames := 0, cells := 0, slots := 0, locals := 0 } : Room) s m #[(.ref o0), (.int 0)] below meth c s₁ [] 0 0 := Stand.of_body Bd
  have e0 : s₁.heap = h0 := by rw [← hh, Bd.state]; rfl
  have N0 := Fr.nil n0
  show own_G p.tables e below s (Q_rmG20 Z o0 x0 x1 x2 x3 k0 cs fm h0 n0) ({ frames := 0, cells := 0, slots := 0, locals := 0 } : Room).cells ({ frames := 0, cells := 0, slots := 0, locals := 0 } : Room).slots _
  refine own_thr (a := s₁.setTop (mkF m 0 #[.val (.ref o0), .val (.int 0)] [])) (fun t kt => castTop (ef_rmG20 m o0) kt) ?_
  obtain ⟨T1, X1, e1, st1⟩ := getS2 X0 hx hZ hown (host := "") (Or.inl (hw _ (own_i 81 rfl))) Via.refl e0 (hKs.2.2.2.2.1.ext hO.2) (g := (mkF m 0 #[.val (.ref o0), .val (.int 0)] [])) rfl (hb hby d19_0)
  refine own_thr (a := T1.setTop (mkF m 3 #[.val (.ref o0), .val (.int 0)] [(.int 1)])) (fun t kt => st1 t kt) ?_
  refine own_thr (a := T1.setTop (mkF m 37 #[.val (.ref o0), .val (.int 1)] [(.int 0), (.ref o0)])) (fun t kt => ?_) ?_
  · refine XS.ifYes X1.here hx rfl (pc0 := 3) (pc' := 28) rfl (hb hby d19_3) rfl ((if0 _ _).trans (feq (by decide)).2) (by decide) (by decide) ?_
    refine XS.iloadN X1.here hx rfl (hb hby d19_28) rfl ?_
    refine XS.iconst X1.here hx rfl (hb hby d19_29) ?_
    refine XS.ishl X1.here hx rfl (hb hby d19_30) rfl ?_
    refine XS.istoreN X1.here hx rfl (hb hby d19_31) rfl (l' := #[.val (.ref o0), .val (.int 0)]) rfl ?_
    refine XS.aloadN X1.here hx rfl (hb hby d19_32) rfl rfl ?_
    refine XS.iloadN X1.here hx rfl (hb hby d19_33) rfl ?_
    refine XS.iinc X1.here hx rfl (hb hby d19_34) rfl (l' := #[.val (.ref o0), .val (.int 1)]) rfl ?_
    exact kt
  obtain ⟨cl2, Ar2, -, S2, M2, H2, -⟩ := id V_o0
  have hin2 : ¬ ((0 : Int32) < 0 ∨ cl2.slots.size ≤ ((0 : Int32)).toNatClampNeg) := inb_of S2 ⟨by decide, by decide⟩
  have hat2 : cl2.slots[((0 : Int32)).toNatClampNeg]? = some (.int x0) := Has.at H2 hin2 rfl
  refine own_thr (a := T1.setTop (mkF m 42 #[.val (.ref o0), .val (.int 1)] [(.int (x0 &&& (255 : Int32)))])) (fun t kt => ?_) ?_
  · refine X1.baloadBytes hx (j := (0 : Int32)) (v := (.int x0)) (by rw [e1]; exact Ar2.1) (State.isArrayOf_alike hZ.alike Ar2.2.1) Ar2.2.2 hin2 hat2 (g := (mkF m 37 #[.val (.ref o0), .val (.int 1)] [(.int 0), (.ref o0)])) rfl rfl (hb hby d19_37) _ ?_
    refine XS.sipush X1.here hx rfl (hb hby d19_38) ?_
    refine XS.iand X1.here hx rfl (hb hby d19_41) rfl ?_
    exact kt
  obtain ⟨T3, X3, e3, st3⟩ := getS2 X1 hx hZ hown (host := "") (Or.inl (hw _ (own_i 82 rfl))) Via.refl e1 (hKs.2.2.2.2.2.1.ext hO.2) (g := (mkF m 42 #[.val (.ref o0), .val (.int 1)] [(.int (x0 &&& (255 : Int32)))])) rfl (hb hby d19_42)
  refine own_thr (a := T3.setTop (mkF m 45 #[.val (.ref o0), .val (.int 1)] [(.int 0), (.int (x0 &&& (255 : Int32)))])) (fun t kt => st3 t kt) ?_
  refine own_thr (a := T3.setTop (mkF m 48 #[.val (.ref o0), .val (.int 1)] [(.int 1), (.ref o0), (.int ((x0 &&& (255 : Int32)) <<< ((0 : Int32) &&& 31)))])) (fun t kt => ?_) ?_
  · refine XS.ishl X3.here hx rfl (hb hby d19_45) rfl ?_
    refine XS.aloadN X3.here hx rfl (hb hby d19_46) rfl rfl ?_
    refine XS.iloadN X3.here hx rfl (hb hby d19_47) rfl ?_
    exact kt
  obtain ⟨cl4, Ar4, -, S4, M4, H4, -⟩ := id V_o0
  have hin4 : ¬ ((1 : Int32) < 0 ∨ cl4.slots.size ≤ ((1 : Int32)).toNatClampNeg) := inb_of S4 ⟨by decide, by decide⟩
  have hat4 : cl4.slots[((1 : Int32)).toNatClampNeg]? = some (.int x1) := Has.at H4 hin4 rfl
  refine own_thr (a := T3.setTop (mkF m 53 #[.val (.ref o0), .val (.int 1)] [(.int (x1 &&& (255 : Int32))), (.int ((x0 &&& (255 : Int32)) <<< ((0 : Int32) &&& 31)))])) (fun t kt => ?_) ?_
  · refine X3.baloadBytes hx (j := (1 : Int32)) (v := (.int x1)) (by rw [e3]; exact Ar4.1) (State.isArrayOf_alike hZ.alike Ar4.2.1) Ar4.2.2 hin4 hat4 (g := (mkF m 48 #[.val (.ref o0), .val (.int 1)] [(.int 1), (.ref o0), (.int ((x0 &&& (255 : Int32)) <<< ((0 : Int32) &&& 31)))])) rfl rfl (hb hby d19_48) _ ?_
    refine XS.sipush X3.here hx rfl (hb hby d19_49) ?_
    refine XS.iand X3.here hx rfl (hb hby d19_52) rfl ?_
    exact kt
  obtain ⟨T5, X5, e5, st5⟩ := getS2 X3 hx hZ hown (host := "") (Or.inl (hw _ (own_i 83 rfl))) Via.refl e3 (hKs.2.2.2.2.2.2.ext hO.2) (g := (mkF m 53 #[.val (.ref o0), .val (.int 1)] [(.int (x1 &&& (255 : Int32))), (.int ((x0 &&& (255 : Int32)) <<< ((0 : Int32) &&& 31)))])) rfl (hb hby d19_53)
  refine own_thr (a := T5.setTop (mkF m 56 #[.val (.ref o0), .val (.int 1)] [(.int 8), (.int (x1 &&& (255 : Int32))), (.int ((x0 &&& (255 : Int32)) <<< ((0 : Int32) &&& 31)))])) (fun t kt => st5 t kt) ?_
  refine own_thr (a := T5.setTop (mkF m 59 #[.val (.ref o0), .val (.int 1)] [(.int ((((x0 &&& (255 : Int32)) <<< ((0 : Int32) &&& 31)) ||| ((x1 &&& (255 : Int32)) <<< ((8 : Int32) &&& 31))).toUInt32.toUInt16.toUInt32.toInt32))])) (fun t kt => ?_) ?_
  · refine XS.ishl X5.here hx rfl (hb hby d19_56) rfl ?_
    refine XS.ior X5.here hx rfl (hb hby d19_57) rfl ?_
    refine XS.i2c X5.here hx rfl (hb hby d19_58) rfl ?_
    exact kt
  exact own_end X5 hlk (v := some (.int (nar .char ((((x0 &&& (255 : Int32)) <<< ((0 : Int32) &&& 31)) ||| ((x1 &&& (255 : Int32)) <<< ((8 : Int32) &&& 31))).toUInt32.toUInt16.toUInt32.toInt32)))) (fun h => by rw [Bd.returns] at h; cases h) (fun fs hr => retN X5 hx (t := .char) Bd.returns (by simp) (hb hby d19_59) hr) (by rw [e5]; exact ⟨rfl, N0, rfl⟩) (by decide : 0 ≤ _) (by decide : 0 ≤ _)
theorem ef_rmPC20 (m : MethodId) (o0 : Addr) (ch : Int32)  : entryFrame m #[(.ref o0), (.int 0), (.int ch)] 3 = mkF m 0 #[.val (.ref o0), .val (.int 0), .val (.int ch)] [] := by first |  (simp [entryFrame, mkF, argsToLocals, Value.category]; done) | rfl
def Q_rmPC20 (Z : State) (o0 : Addr) (ch : Int32) (x0 : Int32) (x1 : Int32) (x2 : Int32) (x3 : Int32) (k0 : ClassId) (cs : Int32) (fm : Value) (h0 : Heap) (n0 : Nat) (v : Option Value) (h : Heap) (L : List Loc) : Prop := v = none ∧ Fr n0 L ∧ Keep h0 h [o0] ∧ Arv Z h o0 k0 .byte (4 : Int32) [(.int (((ch >>> ((0 : Int32) &&& 31)).toInt8.toInt32).toInt8.toInt32)), (.int (((ch >>> ((8 : Int32) &&& 31)).toInt8.toInt32).toInt8.toInt32)), (.int x2), (.int x3)] (.int 0)
theorem rmPC20 (l : Launch) (Z : State) (a0 : Array Value) (hw : ∀ d ∈ tables_1, d.before a0 Z = true) (ws : List Jvm.Cond) (o0 : Addr) (ch : Int32) (x0 : Int32) (x1 : Int32) (x2 : Int32) (x3 : Int32) (k0 : ClassId) (cs : Int32) (fm : Value) (h0 : Heap) (n0 : Nat) (Z0 : n0 ≤ h0.size) (V_o0 : Arv Z h0 o0 k0 .byte (4 : Int32) [(.int x0), (.int x1), (.int x2), (.int x3)] (.int 0)) (g_o0 : n0 ≤ o0) (hKs : own_K Z cs fm) (hO : Old Z n0 h0) :
    MetFree l own_m2 (head1 (Jvm.Cond.code own_m2 jdk_52_method_4_code 3 none :: ws) ({ frames := 0, cells := 0, slots := 0, locals := 0 } : Room)) (fun a U => a = #[(.ref o0), (.int 0), (.int ch)] ∧ Z.Warmed39 U.vm ∧ U.heap = h0) (fun _ _ _ _ _ => True) (fun _ U o U' => ∃ v L, o = .returned v ∧ Q_rmPC20 Z o0 ch x0 x1 x2 x3 k0 cs fm h0 n0 v U'.heap L ∧ FrameEnd U o U' L ({ frames := 0, cells := 0, slots := 0, locals := 0 } : Room).cells ({ frames := 0, cells := 0, slots := 0, locals := 0 } : Room).slots) := by
  refine MetFree.of_bodySF (plainFor_of_name pn_java_lang_StringUTF16) hisR ?_
  intro p e s m args below meth c s₁ Bd hml0 hP hK
  obtain ⟨rfl, hZ, hh⟩ := hP
  have hx := Bd.exec
  have hby := Bd.bytes
  have hml : c.maxLocals = 3 := hml0
  have hown : s.vm.findClass "java/lang/StringUTF16" = some m.cls := findClass_of_methodNamed Bd.named
  have hnm := (name_of_methodNamed Bd.named Bd.method).1
  have hlk := Bd.notSynchronized
  have X0 : Stand p l e ({ frames := 0, cells := 0, slots := 0, locals := 0 } : Room) s m #[(.ref o0), (.int 0), (.int ch)] below meth c s₁ [] 0 0 := Stand.of_body Bd
  have e0 : s₁.heap = h0 := by rw [← hh, Bd.state]; rfl
  have N0 := Fr.nil n0
  show own_G p.tables e below s (Q_rmPC20 Z o0 ch x0 x1 x2 x3 k0 cs fm h0 n0) ({ frames := 0, cells := 0, slots := 0, locals := 0 } : Room).cells ({ frames := 0, cells := 0, slots := 0, locals := 0 } : Room).slots _
  refine own_thr (a := s₁.setTop (mkF m 0 #[.val (.ref o0), .val (.int 0), .val (.int ch)] [])) (fun t kt => castTop (ef_rmPC20 m o0 ch) kt) ?_
  obtain ⟨T1, X1, e1, st1⟩ := getS2 X0 hx hZ hown (host := "") (Or.inl (hw _ (own_i 81 rfl))) Via.refl e0 (hKs.2.2.2.2.1.ext hO.2) (g := (mkF m 0 #[.val (.ref o0), .val (.int 0), .val (.int ch)] [])) rfl (hb hby d18_0)
  refine own_thr (a := T1.setTop (mkF m 3 #[.val (.ref o0), .val (.int 0), .val (.int ch)] [(.int 1)])) (fun t kt => st1 t kt) ?_
  refine own_thr (a := T1.setTop (mkF m 38 #[.val (.ref o0), .val (.int 1), .val (.int ch)] [(.int ch), (.int 0), (.ref o0)])) (fun t kt => ?_) ?_
  · refine XS.ifYes X1.here hx rfl (pc0 := 3) (pc' := 28) rfl (hb hby d18_3) rfl ((if0 _ _).trans (feq (by decide)).2) (by decide) (by decide) ?_
    refine XS.iloadN X1.here hx rfl (hb hby d18_28) rfl ?_
    refine XS.iconst X1.here hx rfl (hb hby d18_29) ?_
    refine XS.ishl X1.here hx rfl (hb hby d18_30) rfl ?_
    refine XS.istoreN X1.here hx rfl (hb hby d18_31) rfl (l' := #[.val (.ref o0), .val (.int 0), .val (.int ch)]) rfl ?_
    refine XS.aloadN X1.here hx rfl (hb hby d18_32) rfl rfl ?_
    refine XS.iloadN X1.here hx rfl (hb hby d18_33) rfl ?_
    refine XS.iinc X1.here hx rfl (hb hby d18_34) rfl (l' := #[.val (.ref o0), .val (.int 1), .val (.int ch)]) rfl ?_
    refine XS.iloadN X1.here hx rfl (hb hby d18_37) rfl ?_
    exact kt
  obtain ⟨T2, X2, e2, st2⟩ := getS2 X1 hx hZ hown (host := "") (Or.inl (hw _ (own_i 82 rfl))) Via.refl e1 (hKs.2.2.2.2.2.1.ext hO.2) (g := (mkF m 38 #[.val (.ref o0), .val (.int 1), .val (.int ch)] [(.int ch), (.int 0), (.ref o0)])) rfl (hb hby d18_38)
  refine own_thr (a := T2.setTop (mkF m 41 #[.val (.ref o0), .val (.int 1), .val (.int ch)] [(.int 0), (.int ch), (.int 0), (.ref o0)])) (fun t kt => st2 t kt) ?_
  refine own_thr (a := T2.setTop (mkF m 43 #[.val (.ref o0), .val (.int 1), .val (.int ch)] [(.int ((ch >>> ((0 : Int32) &&& 31)).toInt8.toInt32)), (.int 0), (.ref o0)])) (fun t kt => ?_) ?_
  · refine XS.ishr X2.here hx rfl (hb hby d18_41) rfl ?_
    refine XS.i2b X2.here hx rfl (hb hby d18_42) rfl ?_
    exact kt
  obtain ⟨cl3, Ar3, q3, S3, M3, H3, G3⟩ := id V_o0
  have hin3 : ¬ ((0 : Int32) < 0 ∨ cl3.slots.size ≤ ((0 : Int32)).toNatClampNeg) := inb_of S3 ⟨by decide, by decide⟩
  obtain ⟨T3, h3, X3, e3, W3, st3⟩ := stB X2 hx hZ e2 Ar3 (j := (0 : Int32)) hin3 (g := (mkF m 43 #[.val (.ref o0), .val (.int 1), .val (.int ch)] [(.int ((ch >>> ((0 : Int32) &&& 31)).toInt8.toInt32)), (.int 0), (.ref o0)])) rfl rfl (hb hby d18_43)
  have Z4 : n0 ≤ h3.size := Nat.le_trans Z0 (Nat.le_of_eq W3.size.symm)
  have Z4h : h0.size ≤ h3.size := Nat.le_trans (Nat.le_refl h0.size) (Nat.le_of_eq W3.size.symm)
  have V3 : Arv Z h3 o0 k0 .byte (4 : Int32) [(.int (((ch >>> ((0 : Int32) &&& 31)).toInt8.toInt32).toInt8.toInt32)), (.int x1), (.int x2), (.int x3)] (.int 0) := Arv.set Ar3 q3 S3 M3 H3 G3 (fits_nar_byte _) W3 0 rfl (Nat.le_of_ble_eq_true rfl)
  obtain ⟨lc3, X3, N3⟩ := own_pack1 X3 N0 g_o0
  refine own_thr (a := T3.setTop (mkF m 44 #[.val (.ref o0), .val (.int 1), .val (.int ch)] [])) (fun t kt => st3 t kt) ?_
  refine own_thr (a := T3.setTop (mkF m 47 #[.val (.ref o0), .val (.int 1), .val (.int ch)] [(.int ch), (.int 1), (.ref o0)])) (fun t kt => ?_) ?_
  · refine XS.aloadN X3.here hx rfl (hb hby d18_44) rfl rfl ?_
    refine XS.iloadN X3.here hx rfl (hb hby d18_45) rfl ?_
    refine XS.iloadN X3.here hx rfl (hb hby d18_46) rfl ?_
    exact kt
  obtain ⟨T5, X5, e5, st5⟩ := getS2 X3 hx hZ hown (host := "") (Or.inl (hw _ (own_i 83 rfl))) Via.refl e3 (hKs.2.2.2.2.2.2.ext (hO.wr W3 g_o0).2) (g := (mkF m 47 #[.val (.ref o0), .val (.int 1), .val (.int ch)] [(.int ch), (.int 1), (.ref o0)])) rfl (hb hby d18_47)
  refine own_thr (a := T5.setTop (mkF m 50 #[.val (.ref o0), .val (.int 1), .val (.int ch)] [(.int 8), (.int ch), (.int 1), (.ref o0)])) (fun t kt => st5 t kt) ?_
  refine own_thr (a := T5.setTop (mkF m 52 #[.val (.ref o0), .val (.int 1), .val (.int ch)] [(.int ((ch >>> ((8 : Int32) &&& 31)).toInt8.toInt32)), (.int 1), (.ref o0)])) (fun t kt => ?_) ?_
  · refine XS.ishr X5.here hx rfl (hb hby d18_50) rfl ?_
    refine XS.i2b X5.here hx rfl (hb hby d18_51) rfl ?_
    exact kt
  obtain ⟨cl6, Ar6, q6, S6, M6, H6, G6⟩ := id V3
  have hin6 : ¬ ((1 : Int32) < 0 ∨ cl6.slots.size ≤ ((1 : Int32)).toNatClampNeg) := inb_of S6 ⟨by decide, by decide⟩
  obtain ⟨T6, h6, X6, e6, W6, st6⟩ := stB X5 hx hZ e5 Ar6 (j := (1 : Int32)) hin6 (g := (mkF m 52 #[.val (.ref o0), .val (.int 1), .val (.int ch)] [(.int ((ch >>> ((8 : Int32) &&& 31)).toInt8.toInt32)), (.int 1), (.ref o0)])) rfl rfl (hb hby d18_52)
  have Z7 : n0 ≤ h6.size := Nat.le_trans Z4 (Nat.le_of_eq W6.size.symm)
  have Z7h : h0.size ≤ h6.size := Nat.le_trans Z4h (Nat.le_of_eq W6.size.symm)
  have V6 : Arv Z h6 o0 k0 .byte (4 : Int32) [(.int (((ch >>> ((0 : Int32) &&& 31)).toInt8.toInt32).toInt8.toInt32)), (.int (((ch >>> ((8 : Int32) &&& 31)).toInt8.toInt32).toInt8.toInt32)), (.int x2), (.int x3)] (.int 0) := Arv.set Ar6 q6 S6 M6 H6 G6 (fits_nar_byte _) W6 1 rfl (Nat.le_of_ble_eq_true rfl)
  obtain ⟨lc6, X6, N6⟩ := own_pack1 X6 N3 g_o0
  refine own_thr (a := T6.setTop (mkF m 53 #[.val (.ref o0), .val (.int 1), .val (.int ch)] [])) (fun t kt => st6 t kt) ?_
  exact own_end X6 hlk (v := none) (fun _ => rfl) (fun fs hr => X6.returnOut hx Bd.returns (hb hby d18_53) hr) (by rw [e6]; exact ⟨rfl, N6, (((Keep.refl h0 [o0]).wr W3 (Or.inl (own_i 0 rfl))).wr W6 (Or.inl (own_i 0 rfl))), V6⟩) (by decide : 0 ≤ _) (by decide : 0 ≤ _)
theorem ef_rmG21 (m : MethodId) (o0 : Addr)  : entryFrame m #[(.ref o0), (.int 1)] 2 = mkF m 0 #[.val (.ref o0), .val (.int 1)] [] := by first |  (simp [entryFrame, mkF, argsToLocals, Value.category]; done) | rfl
def Q_rmG21 (Z : State) (o0 : Addr) (x0 : Int32) (x1 : Int32) (x2 : Int32) (x3 : Int32) (k0 : ClassId) (cs : Int32) (fm : Value) (h0 : Heap) (n0 : Nat) (v : Option Value) (h : Heap) (L : List Loc) : Prop := v = some (.int (own_gc x2 x3)) ∧ Fr n0 L ∧ h = h0
theorem rmG21 (l : Launch) (Z : State) (a0 : Array Value) (hw : ∀ d ∈ tables_1, d.before a0 Z = true) (ws : List Jvm.Cond) (o0 : Addr) (x0 : Int32) (x1 : Int32) (x2 : Int32) (x3 : Int32) (k0 : ClassId) (cs : Int32) (fm : Value) (h0 : Heap) (n0 : Nat) (Z0 : n0 ≤ h0.size) (V_o0 : Arv Z h0 o0 k0 .byte (4 : Int32) [(.int x0), (.int x1), (.int x2), (.int x3)] (.int 0)) (hKs : own_K Z cs fm) (hO : Old Z n0 h0) :
    MetFree l own_m1 (head1 (Jvm.Cond.code own_m1 jdk_52_method_5_code 2 (some .char) :: ws) ({ frames := 0, cells := 0, slots := 0, locals := 0 } : Room)) (fun a U => a = #[(.ref o0), (.int 1)] ∧ Z.Warmed39 U.vm ∧ U.heap = h0) (fun _ _ _ _ _ => True) (fun _ U o U' => ∃ v L, o = .returned v ∧ Q_rmG21 Z o0 x0 x1 x2 x3 k0 cs fm h0 n0 v U'.heap L ∧ FrameEnd U o U' L ({ frames := 0, cells := 0, slots := 0, locals := 0 } : Room).cells ({ frames := 0, cells := 0, slots := 0, locals := 0 } : Room).slots) := by
  refine MetFree.of_bodySF (plainFor_of_name pn_java_lang_StringUTF16) hisR ?_
  intro p e s m args below meth c s₁ Bd hml0 hP hK
  obtain ⟨rfl, hZ, hh⟩ := hP
  have hx := Bd.exec
  have hby := Bd.bytes
  have hml : c.maxLocals = 2 := hml0
  have hown : s.vm.findClass "java/lang/StringUTF16" = some m.cls := findClass_of_methodNamed Bd.named
  have hnm := (name_of_methodNamed Bd.named Bd.method).1
  have hlk := Bd.notSynchronized
  have X0 : Stand p l e ({ frames := 0, cells := 0, slots := 0, locals := 0 } : Room) s m #[(.ref o0), (.int 1)] below meth c s₁ [] 0 0 := Stand.of_body Bd
  have e0 : s₁.heap = h0 := by rw [← hh, Bd.state]; rfl
  have N0 := Fr.nil n0
  show own_G p.tables e below s (Q_rmG21 Z o0 x0 x1 x2 x3 k0 cs fm h0 n0) ({ frames := 0, cells := 0, slots := 0, locals := 0 } : Room).cells ({ frames := 0, cells := 0, slots := 0, locals := 0 } : Room).slots _
  refine own_thr (a := s₁.setTop (mkF m 0 #[.val (.ref o0), .val (.int 1)] [])) (fun t kt => castTop (ef_rmG21 m o0) kt) ?_
  obtain ⟨T1, X1, e1, st1⟩ := getS2 X0 hx hZ hown (host := "") (Or.inl (hw _ (own_i 81 rfl))) Via.refl e0 (hKs.2.2.2.2.1.ext hO.2) (g := (mkF m 0 #[.val (.ref o0), .val (.int 1)] [])) rfl (hb hby d19_0)
  refine own_thr (a := T1.setTop (mkF m 3 #[.val (.ref o0), .val (.int 1)] [(.int 1)])) (fun t kt => st1 t kt) ?_
  refine own_thr (a := T1.setTop (mkF m 37 #[.val (.ref o0), .val (.int 3)] [(.int 2), (.ref o0)])) (fun t kt => ?_) ?_
  · refine XS.ifYes X1.here hx rfl (pc0 := 3) (pc' := 28) rfl (hb hby d19_3) rfl ((if0 _ _).trans (feq (by decide)).2) (by decide) (by decide) ?_
    refine XS.iloadN X1.here hx rfl (hb hby d19_28) rfl ?_
    refine XS.iconst X1.here hx rfl (hb hby d19_29) ?_
    refine XS.ishl X1.here hx rfl (hb hby d19_30) rfl ?_
    refine XS.istoreN X1.here hx rfl (hb hby d19_31) rfl (l' := #[.val (.ref o0), .val (.int 2)]) rfl ?_
    refine XS.aloadN X1.here hx rfl (hb hby d19_32) rfl rfl ?_
    refine XS.iloadN X1.here hx rfl (hb hby d19_33) rfl ?_
    refine XS.iinc X1.here hx rfl (hb hby d19_34) rfl (l' := #[.val (.ref o0), .val (.int 3)]) rfl ?_
    exact kt
  obtain ⟨cl2, Ar2, -, S2, M2, H2, -⟩ := id V_o0
  have hin2 : ¬ ((2 : Int32) < 0 ∨ cl2.slots.size ≤ ((2 : Int32)).toNatClampNeg) := inb_of S2 ⟨by decide, by decide⟩
  have hat2 : cl2.slots[((2 : Int32)).toNatClampNeg]? = some (.int x2) := Has.at H2 hin2 rfl
  refine own_thr (a := T1.setTop (mkF m 42 #[.val (.ref o0), .val (.int 3)] [(.int (x2 &&& (255 : Int32)))])) (fun t kt => ?_) ?_
  · refine X1.baloadBytes hx (j := (2 : Int32)) (v := (.int x2)) (by rw [e1]; exact Ar2.1) (State.isArrayOf_alike hZ.alike Ar2.2.1) Ar2.2.2 hin2 hat2 (g := (mkF m 37 #[.val (.ref o0), .val (.int 3)] [(.int 2), (.ref o0)])) rfl rfl (hb hby d19_37) _ ?_
    refine XS.sipush X1.here hx rfl (hb hby d19_38) ?_
    refine XS.iand X1.here hx rfl (hb hby d19_41) rfl ?_
    exact kt
  obtain ⟨T3, X3, e3, st3⟩ := getS2 X1 hx hZ hown (host := "") (Or.inl (hw _ (own_i 82 rfl))) Via.refl e1 (hKs.2.2.2.2.2.1.ext hO.2) (g := (mkF m 42 #[.val (.ref o0), .val (.int 3)] [(.int (x2 &&& (255 : Int32)))])) rfl (hb hby d19_42)
  refine own_thr (a := T3.setTop (mkF m 45 #[.val (.ref o0), .val (.int 3)] [(.int 0), (.int (x2 &&& (255 : Int32)))])) (fun t kt => st3 t kt) ?_
  refine own_thr (a := T3.setTop (mkF m 48 #[.val (.ref o0), .val (.int 3)] [(.int 3), (.ref o0), (.int ((x2 &&& (255 : Int32)) <<< ((0 : Int32) &&& 31)))])) (fun t kt => ?_) ?_
  · refine XS.ishl X3.here hx rfl (hb hby d19_45) rfl ?_
    refine XS.aloadN X3.here hx rfl (hb hby d19_46) rfl rfl ?_
    refine XS.iloadN X3.here hx rfl (hb hby d19_47) rfl ?_
    exact kt
  obtain ⟨cl4, Ar4, -, S4, M4, H4, -⟩ := id V_o0
  have hin4 : ¬ ((3 : Int32) < 0 ∨ cl4.slots.size ≤ ((3 : Int32)).toNatClampNeg) := inb_of S4 ⟨by decide, by decide⟩
  have hat4 : cl4.slots[((3 : Int32)).toNatClampNeg]? = some (.int x3) := Has.at H4 hin4 rfl
  refine own_thr (a := T3.setTop (mkF m 53 #[.val (.ref o0), .val (.int 3)] [(.int (x3 &&& (255 : Int32))), (.int ((x2 &&& (255 : Int32)) <<< ((0 : Int32) &&& 31)))])) (fun t kt => ?_) ?_
  · refine X3.baloadBytes hx (j := (3 : Int32)) (v := (.int x3)) (by rw [e3]; exact Ar4.1) (State.isArrayOf_alike hZ.alike Ar4.2.1) Ar4.2.2 hin4 hat4 (g := (mkF m 48 #[.val (.ref o0), .val (.int 3)] [(.int 3), (.ref o0), (.int ((x2 &&& (255 : Int32)) <<< ((0 : Int32) &&& 31)))])) rfl rfl (hb hby d19_48) _ ?_
    refine XS.sipush X3.here hx rfl (hb hby d19_49) ?_
    refine XS.iand X3.here hx rfl (hb hby d19_52) rfl ?_
    exact kt
  obtain ⟨T5, X5, e5, st5⟩ := getS2 X3 hx hZ hown (host := "") (Or.inl (hw _ (own_i 83 rfl))) Via.refl e3 (hKs.2.2.2.2.2.2.ext hO.2) (g := (mkF m 53 #[.val (.ref o0), .val (.int 3)] [(.int (x3 &&& (255 : Int32))), (.int ((x2 &&& (255 : Int32)) <<< ((0 : Int32) &&& 31)))])) rfl (hb hby d19_53)
  refine own_thr (a := T5.setTop (mkF m 56 #[.val (.ref o0), .val (.int 3)] [(.int 8), (.int (x3 &&& (255 : Int32))), (.int ((x2 &&& (255 : Int32)) <<< ((0 : Int32) &&& 31)))])) (fun t kt => st5 t kt) ?_
  refine own_thr (a := T5.setTop (mkF m 59 #[.val (.ref o0), .val (.int 3)] [(.int ((((x2 &&& (255 : Int32)) <<< ((0 : Int32) &&& 31)) ||| ((x3 &&& (255 : Int32)) <<< ((8 : Int32) &&& 31))).toUInt32.toUInt16.toUInt32.toInt32))])) (fun t kt => ?_) ?_
  · refine XS.ishl X5.here hx rfl (hb hby d19_56) rfl ?_
    refine XS.ior X5.here hx rfl (hb hby d19_57) rfl ?_
    refine XS.i2c X5.here hx rfl (hb hby d19_58) rfl ?_
    exact kt
  exact own_end X5 hlk (v := some (.int (nar .char ((((x2 &&& (255 : Int32)) <<< ((0 : Int32) &&& 31)) ||| ((x3 &&& (255 : Int32)) <<< ((8 : Int32) &&& 31))).toUInt32.toUInt16.toUInt32.toInt32)))) (fun h => by rw [Bd.returns] at h; cases h) (fun fs hr => retN X5 hx (t := .char) Bd.returns (by simp) (hb hby d19_59) hr) (by rw [e5]; exact ⟨rfl, N0, rfl⟩) (by decide : 0 ≤ _) (by decide : 0 ≤ _)
theorem ef_rmPC21 (m : MethodId) (o0 : Addr) (ch : Int32)  : entryFrame m #[(.ref o0), (.int 1), (.int ch)] 3 = mkF m 0 #[.val (.ref o0), .val (.int 1), .val (.int ch)] [] := by first |  (simp [entryFrame, mkF, argsToLocals, Value.category]; done) | rfl
def Q_rmPC21 (Z : State) (o0 : Addr) (ch : Int32) (x0 : Int32) (x1 : Int32) (x2 : Int32) (x3 : Int32) (k0 : ClassId) (cs : Int32) (fm : Value) (h0 : Heap) (n0 : Nat) (v : Option Value) (h : Heap) (L : List Loc) : Prop := v = none ∧ Fr n0 L ∧ Keep h0 h [o0] ∧ Arv Z h o0 k0 .byte (4 : Int32) [(.int x0), (.int x1), (.int (((ch >>> ((0 : Int32) &&& 31)).toInt8.toInt32).toInt8.toInt32)), (.int (((ch >>> ((8 : Int32) &&& 31)).toInt8.toInt32).toInt8.toInt32))] (.int 0)
theorem rmPC21 (l : Launch) (Z : State) (a0 : Array Value) (hw : ∀ d ∈ tables_1, d.before a0 Z = true) (ws : List Jvm.Cond) (o0 : Addr) (ch : Int32) (x0 : Int32) (x1 : Int32) (x2 : Int32) (x3 : Int32) (k0 : ClassId) (cs : Int32) (fm : Value) (h0 : Heap) (n0 : Nat) (Z0 : n0 ≤ h0.size) (V_o0 : Arv Z h0 o0 k0 .byte (4 : Int32) [(.int x0), (.int x1), (.int x2), (.int x3)] (.int 0)) (g_o0 : n0 ≤ o0) (hKs : own_K Z cs fm) (hO : Old Z n0 h0) :
    MetFree l own_m2 (head1 (Jvm.Cond.code own_m2 jdk_52_method_4_code 3 none :: ws) ({ frames := 0, cells := 0, slots := 0, locals := 0 } : Room)) (fun a U => a = #[(.ref o0), (.int 1), (.int ch)] ∧ Z.Warmed39 U.vm ∧ U.heap = h0) (fun _ _ _ _ _ => True) (fun _ U o U' => ∃ v L, o = .returned v ∧ Q_rmPC21 Z o0 ch x0 x1 x2 x3 k0 cs fm h0 n0 v U'.heap L ∧ FrameEnd U o U' L ({ frames := 0, cells := 0, slots := 0, locals := 0 } : Room).cells ({ frames := 0, cells := 0, slots := 0, locals := 0 } : Room).slots) := by
  refine MetFree.of_bodySF (plainFor_of_name pn_java_lang_StringUTF16) hisR ?_
  intro p e s m args below meth c s₁ Bd hml0 hP hK
  obtain ⟨rfl, hZ, hh⟩ := hP
  have hx := Bd.exec
  have hby := Bd.bytes
  have hml : c.maxLocals = 3 := hml0
  have hown : s.vm.findClass "java/lang/StringUTF16" = some m.cls := findClass_of_methodNamed Bd.named
  have hnm := (name_of_methodNamed Bd.named Bd.method).1
  have hlk := Bd.notSynchronized
  have X0 : Stand p l e ({ frames := 0, cells := 0, slots := 0, locals := 0 } : Room) s m #[(.ref o0), (.int 1), (.int ch)] below meth c s₁ [] 0 0 := Stand.of_body Bd
  have e0 : s₁.heap = h0 := by rw [← hh, Bd.state]; rfl
  have N0 := Fr.nil n0
  show own_G p.tables e below s (Q_rmPC21 Z o0 ch x0 x1 x2 x3 k0 cs fm h0 n0) ({ frames := 0, cells := 0, slots := 0, locals := 0 } : Room).cells ({ frames := 0, cells := 0, slots := 0, locals := 0 } : Room).slots _
  refine own_thr (a := s₁.setTop (mkF m 0 #[.val (.ref o0), .val (.int 1), .val (.int ch)] [])) (fun t kt => castTop (ef_rmPC21 m o0 ch) kt) ?_
  obtain ⟨T1, X1, e1, st1⟩ := getS2 X0 hx hZ hown (host := "") (Or.inl (hw _ (own_i 81 rfl))) Via.refl e0 (hKs.2.2.2.2.1.ext hO.2) (g := (mkF m 0 #[.val (.ref o0), .val (.int 1), .val (.int ch)] [])) rfl (hb hby d18_0)
  refine own_thr (a := T1.setTop (mkF m 3 #[.val (.ref o0), .val (.int 1), .val (.int ch)] [(.int 1)])) (fun t kt => st1 t kt) ?_
  refine own_thr (a := T1.setTop (mkF m 38 #[.val (.ref o0), .val (.int 3), .val (.int ch)] [(.int ch), (.int 2), (.ref o0)])) (fun t kt => ?_) ?_
  · refine XS.ifYes X1.here hx rfl (pc0 := 3) (pc' := 28) rfl (hb hby d18_3) rfl ((if0 _ _).trans (feq (by decide)).2) (by decide) (by decide) ?_
    refine XS.iloadN X1.here hx rfl (hb hby d18_28) rfl ?_
    refine XS.iconst X1.here hx rfl (hb hby d18_29) ?_
    refine XS.ishl X1.here hx rfl (hb hby d18_30) rfl ?_
    refine XS.istoreN X1.here hx rfl (hb hby d18_31) rfl (l' := #[.val (.ref o0), .val (.int 2), .val (.int ch)]) rfl ?_
    refine XS.aloadN X1.here hx rfl (hb hby d18_32) rfl rfl ?_
    refine XS.iloadN X1.here hx rfl (hb hby d18_33) rfl ?_
    refine XS.iinc X1.here hx rfl (hb hby d18_34) rfl (l' := #[.val (.ref o0), .val (.int 3), .val (.int ch)]) rfl ?_
    refine XS.iloadN X1.here hx rfl (hb hby d18_37) rfl ?_
    exact kt
  obtain ⟨T2, X2, e2, st2⟩ := getS2 X1 hx hZ hown (host := "") (Or.inl (hw _ (own_i 82 rfl))) Via.refl e1 (hKs.2.2.2.2.2.1.ext hO.2) (g := (mkF m 38 #[.val (.ref o0), .val (.int 3), .val (.int ch)] [(.int ch), (.int 2), (.ref o0)])) rfl (hb hby d18_38)
  refine own_thr (a := T2.setTop (mkF m 41 #[.val (.ref o0), .val (.int 3), .val (.int ch)] [(.int 0), (.int ch), (.int 2), (.ref o0)])) (fun t kt => st2 t kt) ?_
  refine own_thr (a := T2.setTop (mkF m 43 #[.val (.ref o0), .val (.int 3), .val (.int ch)] [(.int ((ch >>> ((0 : Int32) &&& 31)).toInt8.toInt32)), (.int 2), (.ref o0)])) (fun t kt => ?_) ?_
  · refine XS.ishr X2.here hx rfl (hb hby d18_41) rfl ?_
    refine XS.i2b X2.here hx rfl (hb hby d18_42) rfl ?_
    exact kt
  obtain ⟨cl3, Ar3, q3, S3, M3, H3, G3⟩ := id V_o0
  have hin3 : ¬ ((2 : Int32) < 0 ∨ cl3.slots.size ≤ ((2 : Int32)).toNatClampNeg) := inb_of S3 ⟨by decide, by decide⟩
  obtain ⟨T3, h3, X3, e3, W3, st3⟩ := stB X2 hx hZ e2 Ar3 (j := (2 : Int32)) hin3 (g := (mkF m 43 #[.val (.ref o0), .val (.int 3), .val (.int ch)] [(.int ((ch >>> ((0 : Int32) &&& 31)).toInt8.toInt32)), (.int 2), (.ref o0)])) rfl rfl (hb hby d18_43)
  have Z4 : n0 ≤ h3.size := Nat.le_trans Z0 (Nat.le_of_eq W3.size.symm)
  have Z4h : h0.size ≤ h3.size := Nat.le_trans (Nat.le_refl h0.size) (Nat.le_of_eq W3.size.symm)
  have V3 : Arv Z h3 o0 k0 .byte (4 : Int32) [(.int x0), (.int x1), (.int (((ch >>> ((0 : Int32) &&& 31)).toInt8.toInt32).toInt8.toInt32)), (.int x3)] (.int 0) := Arv.set Ar3 q3 S3 M3 H3 G3 (fits_nar_byte _) W3 2 rfl (Nat.le_of_ble_eq_true rfl)
  obtain ⟨lc3, X3, N3⟩ := own_pack1 X3 N0 g_o0
  refine own_thr (a := T3.setTop (mkF m 44 #[.val (.ref o0), .val (.int 3), .val (.int ch)] [])) (fun t kt => st3 t kt) ?_
  refine own_thr (a := T3.setTop (mkF m 47 #[.val (.ref o0), .val (.int 3), .val (.int ch)] [(.int ch), (.int 3), (.ref o0)])) (fun t kt => ?_) ?_
  · refine XS.aloadN X3.here hx rfl (hb hby d18_44) rfl rfl ?_
    refine XS.iloadN X3.here hx rfl (hb hby d18_45) rfl ?_
    refine XS.iloadN X3.here hx rfl (hb hby d18_46) rfl ?_
    exact kt
  obtain ⟨T5, X5, e5, st5⟩ := getS2 X3 hx hZ hown (host := "") (Or.inl (hw _ (own_i 83 rfl))) Via.refl e3 (hKs.2.2.2.2.2.2.ext (hO.wr W3 g_o0).2) (g := (mkF m 47 #[.val (.ref o0), .val (.int 3), .val (.int ch)] [(.int ch), (.int 3), (.ref o0)])) rfl (hb hby d18_47)
  refine own_thr (a := T5.setTop (mkF m 50 #[.val (.ref o0), .val (.int 3), .val (.int ch)] [(.int 8), (.int ch), (.int 3), (.ref o0)])) (fun t kt => st5 t kt) ?_
  refine own_thr (a := T5.setTop (mkF m 52 #[.val (.ref o0), .val (.int 3), .val (.int ch)] [(.int ((ch >>> ((8 : Int32) &&& 31)).toInt8.toInt32)), (.int 3), (.ref o0)])) (fun t kt => ?_) ?_
  · refine XS.ishr X5.here hx rfl (hb hby d18_50) rfl ?_
    refine XS.i2b X5.here hx rfl (hb hby d18_51) rfl ?_
    exact kt
  obtain ⟨cl6, Ar6, q6, S6, M6, H6, G6⟩ := id V3
  have hin6 : ¬ ((3 : Int32) < 0 ∨ cl6.slots.size ≤ ((3 : Int32)).toNatClampNeg) := inb_of S6 ⟨by decide, by decide⟩
  obtain ⟨T6, h6, X6, e6, W6, st6⟩ := stB X5 hx hZ e5 Ar6 (j := (3 : Int32)) hin6 (g := (mkF m 52 #[.val (.ref o0), .val (.int 3), .val (.int ch)] [(.int ((ch >>> ((8 : Int32) &&& 31)).toInt8.toInt32)), (.int 3), (.ref o0)])) rfl rfl (hb hby d18_52)
  have Z7 : n0 ≤ h6.size := Nat.le_trans Z4 (Nat.le_of_eq W6.size.symm)
  have Z7h : h0.size ≤ h6.size := Nat.le_trans Z4h (Nat.le_of_eq W6.size.symm)
  have V6 : Arv Z h6 o0 k0 .byte (4 : Int32) [(.int x0), (.int x1), (.int (((ch >>> ((0 : Int32) &&& 31)).toInt8.toInt32).toInt8.toInt32)), (.int (((ch >>> ((8 : Int32) &&& 31)).toInt8.toInt32).toInt8.toInt32))] (.int 0) := Arv.set Ar6 q6 S6 M6 H6 G6 (fits_nar_byte _) W6 3 rfl (Nat.le_of_ble_eq_true rfl)
  obtain ⟨lc6, X6, N6⟩ := own_pack1 X6 N3 g_o0
  refine own_thr (a := T6.setTop (mkF m 53 #[.val (.ref o0), .val (.int 3), .val (.int ch)] [])) (fun t kt => st6 t kt) ?_
  exact own_end X6 hlk (v := none) (fun _ => rfl) (fun fs hr => X6.returnOut hx Bd.returns (hb hby d18_53) hr) (by rw [e6]; exact ⟨rfl, N6, (((Keep.refl h0 [o0]).wr W3 (Or.inl (own_i 0 rfl))).wr W6 (Or.inl (own_i 0 rfl))), V6⟩) (by decide : 0 ≤ _) (by decide : 0 ≤ _)
theorem d17_0 : decode jdk_52_method_3_code 0 = .ok (.iload_n 0, 1) := by decide +kernel
theorem d17_1 : decode jdk_52_method_3_code 1 = .ok (.ifCond .ge 11, 3) := by decide +kernel
theorem d17_12 : decode jdk_52_method_3_code 12 = .ok (.iload_n 0, 1) := by decide +kernel
theorem d17_13 : decode jdk_52_method_3_code 13 = .ok (.ldc 20, 2) := by decide +kernel
theorem d17_15 : decode jdk_52_method_3_code 15 = .ok (.if_icmp .lt 40, 3) := by decide +kernel
theorem d17_55 : decode jdk_52_method_3_code 55 = .ok (.iload_n 0, 1) := by decide +kernel
theorem d17_56 : decode jdk_52_method_3_code 56 = .ok (.iconst 1, 1) := by decide +kernel
theorem d17_57 : decode jdk_52_method_3_code 57 = .ok (.ishl, 1) := by decide +kernel
theorem d17_58 : decode jdk_52_method_3_code 58 = .ok (.ireturn, 1) := by decide +kernel
theorem ef_rmNL1 (m : MethodId)   : entryFrame m #[(.int 1)] 1 = mkF m 0 #[.val (.int 1)] [] := by first |  (simp [entryFrame, mkF, argsToLocals, Value.category]; done) | rfl
def Q_rmNL1 (Z : State)  (h0 : Heap) (n0 : Nat) (v : Option Value) (h : Heap) (L : List Loc) : Prop := v = some (.int 2) ∧ Fr n0 L ∧ h = h0
theorem rmNL1 (l : Launch) (Z : State) (a0 : Array Value) (hw : ∀ d ∈ tables_1, d.before a0 Z = true) (ws : List Jvm.Cond)  (h0 : Heap) (n0 : Nat) (Z0 : n0 ≤ h0.size) :
    MetFree l own_m3 (head1 (Jvm.Cond.code own_m3 jdk_52_method_3_code 1 (some .int) :: ws) ({ frames := 0, cells := 0, slots := 0, locals := 0 } : Room)) (fun a U => a = #[(.int 1)] ∧ Z.Warmed39 U.vm ∧ U.heap = h0) (fun _ _ _ _ _ => True) (fun _ U o U' => ∃ v L, o = .returned v ∧ Q_rmNL1 Z  h0 n0 v U'.heap L ∧ FrameEnd U o U' L ({ frames := 0, cells := 0, slots := 0, locals := 0 } : Room).cells ({ frames := 0, cells := 0, slots := 0, locals := 0 } : Room).slots) := by
  refine MetFree.of_bodySF (plainFor_of_name pn_java_lang_StringUTF16) hisR ?_
  intro p e s m args below meth c s₁ Bd hml0 hP hK
  obtain ⟨rfl, hZ, hh⟩ := hP
  have hx := Bd.exec
  have hby := Bd.bytes
  have hml : c.maxLocals = 1 := hml0
  have hown : s.vm.findClass "java/lang/StringUTF16" = some m.cls := findClass_of_methodNamed Bd.named
  have hnm := (name_of_methodNamed Bd.named Bd.method).1
  have hlk := Bd.notSynchronized
  have X0 : Stand p l e ({ frames := 0, cells := 0, slots := 0, locals := 0 } : Room) s m #[(.int 1)] below meth c s₁ [] 0 0 := Stand.of_body Bd
  have e0 : s₁.heap = h0 := by rw [← hh, Bd.state]; rfl
  have N0 := Fr.nil n0
  show own_G p.tables e below s (Q_rmNL1 Z  h0 n0) ({ frames := 0, cells := 0, slots := 0, locals := 0 } : Room).cells ({ frames := 0, cells := 0, slots := 0, locals := 0 } : Room).slots _
  refine own_thr (a := s₁.setTop (mkF m 0 #[.val (.int 1)] [])) (fun t kt => castTop (ef_rmNL1 m ) kt) ?_
  refine own_thr (a := s₁.setTop (mkF m 58 #[.val (.int 1)] [(.int 2)])) (fun t kt => ?_) ?_
  · refine XS.iloadN X0.here hx rfl (hb hby d17_0) rfl ?_
    refine XS.ifYes X0.here hx rfl (pc0 := 1) (pc' := 12) rfl (hb hby d17_1) rfl ((if0 _ _).trans (flt (by decide)).2.1) (by decide) (by decide) ?_
    refine XS.iloadN X0.here hx rfl (hb hby d17_12) rfl ?_
    refine X0.ldcInt hx hown (mvT hZ (hw _ (own_i 77 rfl))) (g := (mkF m 13 #[.val (.int 1)] [(.int 1)])) rfl (hb hby d17_13) _ ?_
    refine XS.icmpYes X0.here hx rfl (pc0 := 15) (pc' := 55) rfl (hb hby d17_15) rfl (tlt (by decide)).1 (by decide) (by decide) ?_
    refine XS.iloadN X0.here hx rfl (hb hby d17_55) rfl ?_
    refine XS.iconst X0.here hx rfl (hb hby d17_56) ?_
    refine XS.ishl X0.here hx rfl (hb hby d17_57) rfl ?_
    exact kt
  exact own_end X0 hlk (v := some (.int 2)) (fun h => by rw [Bd.returns] at h; cases h) (fun fs hr => retI X0 hx Bd.returns (hb hby d17_58) hr) (by rw [e0]; exact ⟨rfl, N0, rfl⟩) (by decide : 0 ≤ _) (by decide : 0 ≤ _)
theorem d16_0 : decode jdk_52_method_2_code 0 = .ok (.iload_n 0, 1) := by decide +kernel
theorem pd__28I_29I : parseMethodDescriptor "(I)I" = some ⟨[.int], some .int⟩ := by decide +kernel
theorem d16_1 : decode jdk_52_method_2_code 1 = .ok (.invokestatic 11, 3) := by decide +kernel
theorem d16_4 : decode jdk_52_method_2_code 4 = .ok (.newarray .byte, 2) := by decide +kernel
theorem d16_6 : decode jdk_52_method_2_code 6 = .ok (.areturn, 1) := by decide +kernel
theorem ef_rmNB1 (m : MethodId)   : entryFrame m #[(.int 1)] 1 = mkF m 0 #[.val (.int 1)] [] := by first |  (simp [entryFrame, mkF, argsToLocals, Value.category]; done) | rfl
def Q_rmNB1 (Z : State)  (h0 : Heap) (n0 : Nat) (v : Option Value) (h : Heap) (L : List Loc) : Prop := ∃ r : Addr, v = some (.ref r) ∧ Fr n0 L ∧ Keep h0 h [] ∧ (∃ k : ClassId, Arv Z h r k .byte (2 : Int32) [(.int 0), (.int 0)] (.int 0)) ∧ h0.size ≤ r
theorem rmNB1 (l : Launch) (Z : State) (a0 : Array Value) (hw : ∀ d ∈ tables_1, d.before a0 Z = true) (ws : List Jvm.Cond)  (h0 : Heap) (n0 : Nat) (Z0 : n0 ≤ h0.size) :
    MetFree l own_m4 (head1 (Jvm.Cond.code own_m4 jdk_52_method_2_code 1 (some (.array .byte)) :: ws) ({ frames := 1, cells := 1, slots := 2, locals := 12 } : Room)) (fun a U => a = #[(.int 1)] ∧ Z.Warmed39 U.vm ∧ U.heap = h0) (fun _ _ _ _ _ => True) (fun _ U o U' => ∃ v L, o = .returned v ∧ Q_rmNB1 Z  h0 n0 v U'.heap L ∧ FrameEnd U o U' L ({ frames := 1, cells := 1, slots := 2, locals := 12 } : Room).cells ({ frames := 1, cells := 1, slots := 2, locals := 12 } : Room).slots) := by
  refine MetFree.of_bodySF (plainFor_of_name pn_java_lang_StringUTF16) hisR ?_
  intro p e s m args below meth c s₁ Bd hml0 hP hK
  obtain ⟨rfl, hZ, hh⟩ := hP
  have hx := Bd.exec
  have hby := Bd.bytes
  have hml : c.maxLocals = 1 := hml0
  have hown : s.vm.findClass "java/lang/StringUTF16" = some m.cls := findClass_of_methodNamed Bd.named
  have hnm := (name_of_methodNamed Bd.named Bd.method).1
  have hlk := Bd.notSynchronized
  have X0 : Stand p l e ({ frames := 1, cells := 1, slots := 2, locals := 12 } : Room) s m #[(.int 1)] below meth c s₁ [] 0 0 := Stand.of_body Bd
  have e0 : s₁.heap = h0 := by rw [← hh, Bd.state]; rfl
  have N0 := Fr.nil n0
  show own_G p.tables e below s (Q_rmNB1 Z  h0 n0) ({ frames := 1, cells := 1, slots := 2, locals := 12 } : Room).cells ({ frames := 1, cells := 1, slots := 2, locals := 12 } : Room).slots _
  refine own_thr (a := s₁.setTop (mkF m 0 #[.val (.int 1)] [])) (fun t kt => castTop (ef_rmNB1 m ) kt) ?_
  refine own_thr (a := s₁.setTop (mkF m 1 #[.val (.int 1)] [(.int 1)])) (fun t kt => ?_) ?_
  · refine XS.iloadN X0.here hx rfl (hb hby d16_0) rfl ?_
    exact kt
  obtain ⟨_, _, ⟨T1, L1, k1, n1⟩, -, X1, ⟨Lc1, hQ1, l1, y1, z1⟩, st1⟩ := Jvm.LawKit.callS X0 hx (y := own_m3) hown (mvT hZ (hw _ (own_i 74 rfl))) (mvT hZ (hw _ (own_i 75 rfl))) (mvT hZ (hw _ (own_i 63 rfl))) (mvT hZ (hw _ (own_i 76 rfl))) (by decide) (backOf (W := 0) (rmNL1 l Z a0 hw []  h0 n0 Z0) hZ (hw _ (own_i 76 rfl)) (hw _ (own_i 63 rfl)) (by decide) (by decide)) (g := (mkF m 1 #[.val (.int 1)] [(.int 1)])) rfl (by rw [hml]; rfl) (argsL := [(.int 1)]) (rest := []) (lenOf pd__28I_29I rfl) rfl (own_q rfl) (hb hby d16_1) (fun _ _ => ⟨rfl, e0, (by decide : 0 + 0 ≤ _), (by decide : 0 + 0 ≤ _)⟩)
  dsimp only [Pt.U, Pt.locs, Pt.cells, Pt.slots] at X1 l1 y1 z1 st1 hQ1
  obtain ⟨rfl, N1q, e1⟩ := hQ1
  obtain ⟨lc1, X1, N1⟩ := own_pack X1 l1 y1 z1 N0 N1q (C := 0) (S' := 0) rfl rfl
  refine own_thr (a := T1.setTop (mkF m 4 #[.val (.int 1)] [(.int 2)])) (fun t kt => st1 t kt) ?_
  obtain ⟨T2, h2, k2, X2, e2, E2, A2, st2⟩ := newP X1 hx hZ (hw _ (own_i 26 rfl)) e1 (g := (mkF m 4 #[.val (.int 1)] [(.int 2)])) rfl (hb hby d16_4) rfl (by decide) (cap := 2) (by decide) (by decide) (by decide : 0 + 1 ≤ _) (by decide : 0 + 2 ≤ _)
  obtain ⟨b2, g2⟩ : ∃ z, z = h0.size := ⟨_, rfl⟩
  rw [← g2] at A2 st2
  have g_b2 : n0 ≤ b2 := Nat.le_trans Z0 (Nat.le_of_eq g2.symm)
  have sz_b2 : h0.size ≤ b2 := Nat.le_trans (Nat.le_refl h0.size) (Nat.le_of_eq g2.symm)
  have V_b2 : Arv Z h2 b2 k2 .byte (2 : Int32) [(.int 0), (.int 0)] (.int 0) := (Arv.new A2 (by decide)).pad (pad_rep [] (.int 0) 2)
  have Z3 : n0 ≤ h2.size := Nat.le_trans Z0 E2.1
  have Z3h : h0.size ≤ h2.size := Nat.le_trans (Nat.le_refl h0.size) E2.1
  refine own_thr (a := T2.setTop (mkF m 6 #[.val (.int 1)] [(.ref b2)])) (fun t kt => st2 t kt) ?_
  exact own_end X2 hlk (v := some (.ref b2)) (fun h => by rw [Bd.returns] at h; cases h) (fun fs hr => retA X2 hx Bd.returns rfl rfl (hb hby d16_6) hr) (by rw [e2]; exact ⟨b2, rfl, N1, ((Keep.refl h0 []).ext E2), ⟨_, V_b2⟩, sz_b2⟩) (by decide : 1 ≤ _) (by decide : 2 ≤ _)
theorem d15_0 : decode jdk_52_method_14_code 0 = .ok (.iload_n 2, 1) := by decide +kernel
theorem pd__28I_29_5bB : parseMethodDescriptor "(I)[B" = some ⟨[.int], some (.array .byte)⟩ := by decide +kernel
theorem d15_1 : decode jdk_52_method_14_code 1 = .ok (.invokestatic 107, 3) := by decide +kernel
theorem d15_4 : decode jdk_52_method_14_code 4 = .ok (.astore_n 3, 1) := by decide +kernel
theorem d15_5 : decode jdk_52_method_14_code 5 = .ok (.iconst 0, 1) := by decide +kernel
theorem d15_6 : decode jdk_52_method_14_code 6 = .ok (.istore 4, 2) := by decide +kernel
theorem d15_8 : decode jdk_52_method_14_code 8 = .ok (.iload 4, 2) := by decide +kernel
theorem d15_10 : decode jdk_52_method_14_code 10 = .ok (.iload_n 2, 1) := by decide +kernel
theorem d15_11 : decode jdk_52_method_14_code 11 = .ok (.if_icmp .ge 21, 3) := by decide +kernel
theorem d15_14 : decode jdk_52_method_14_code 14 = .ok (.aload_n 3, 1) := by decide +kernel
theorem d15_15 : decode jdk_52_method_14_code 15 = .ok (.iload 4, 2) := by decide +kernel
theorem d15_17 : decode jdk_52_method_14_code 17 = .ok (.aload_n 0, 1) := by decide +kernel
theorem d15_18 : decode jdk_52_method_14_code 18 = .ok (.iload_n 1, 1) := by decide +kernel
theorem d15_19 : decode jdk_52_method_14_code 19 = .ok (.caload, 1) := by decide +kernel
theorem pd__28_5bBII_29V : parseMethodDescriptor "([BII)V" = some ⟨[(.array .byte), .int, .int], none⟩ := by decide +kernel
theorem d15_20 : decode jdk_52_method_14_code 20 = .ok (.invokestatic 111, 3) := by decide +kernel
theorem d15_23 : decode jdk_52_method_14_code 23 = .ok (.iinc 1 1, 3) := by decide +kernel
theorem d15_26 : decode jdk_52_method_14_code 26 = .ok (.iinc 4 1, 3) := by decide +kernel
theorem d15_29 : decode jdk_52_method_14_code 29 = .ok (.goto (-21), 3) := by decide +kernel
theorem d15_32 : decode jdk_52_method_14_code 32 = .ok (.aload_n 3, 1) := by decide +kernel
theorem d15_33 : decode jdk_52_method_14_code 33 = .ok (.areturn, 1) := by decide +kernel
theorem ef_rmTB1 (m : MethodId) (o0 : Addr)  : entryFrame m #[(.ref o0), (.int 0), (.int 1)] 5 = mkF m 0 #[.val (.ref o0), .val (.int 0), .val (.int 1), .unset, .unset] [] := by first |  (simp [entryFrame, mkF, argsToLocals, Value.category]; done) | rfl
def Q_rmTB1 (Z : State) (o0 : Addr) (w0 : Int32) (k0 : ClassId) (cs : Int32) (fm : Value) (h0 : Heap) (n0 : Nat) (v : Option Value) (h : Heap) (L : List Loc) : Prop := ∃ r : Addr, v = some (.ref r) ∧ Fr n0 L ∧ Keep h0 h [] ∧ (∃ k : ClassId, Arv Z h r k .byte (2 : Int32) [(.int (((w0 >>> ((0 : Int32) &&& 31)).toInt8.toInt32).toInt8.toInt32)), (.int (((w0 >>> ((8 : Int32) &&& 31)).toInt8.toInt32).toInt8.toInt32))] (.int 0)) ∧ h0.size ≤ r
theorem rmTB1 (l : Launch) (Z : State) (a0 : Array Value) (hw : ∀ d ∈ tables_1, d.before a0 Z = true) (ws : List Jvm.Cond) (o0 : Addr) (w0 : Int32) (k0 : ClassId) (cs : Int32) (fm : Value) (h0 : Heap) (n0 : Nat) (Z0 : n0 ≤ h0.size) (V_o0 : Arv Z h0 o0 k0 .char (1 : Int32) [(.int w0)] (.int 0)) (hKs : own_K Z cs fm) (hO : Old Z n0 h0) :
    MetFree l own_m5 (head1 (Jvm.Cond.code own_m5 jdk_52_method_14_code 5 (some (.array .byte)) :: ws) ({ frames := 2, cells := 1, slots := 2, locals := 24 } : Room)) (fun a U => a = #[(.ref o0), (.int 0), (.int 1)] ∧ Z.Warmed39 U.vm ∧ U.heap = h0) (fun _ _ _ _ _ => True) (fun _ U o U' => ∃ v L, o = .returned v ∧ Q_rmTB1 Z o0 w0 k0 cs fm h0 n0 v U'.heap L ∧ FrameEnd U o U' L ({ frames := 2, cells := 1, slots := 2, locals := 24 } : Room).cells ({ frames := 2, cells := 1, slots := 2, locals := 24 } : Room).slots) := by
  refine MetFree.of_bodySF (plainFor_of_name pn_java_lang_StringUTF16) hisR ?_
  intro p e s m args below meth c s₁ Bd hml0 hP hK
  obtain ⟨rfl, hZ, hh⟩ := hP
  have hx := Bd.exec
  have hby := Bd.bytes
  have hml : c.maxLocals = 5 := hml0
  have hown : s.vm.findClass "java/lang/StringUTF16" = some m.cls := findClass_of_methodNamed Bd.named
  have hnm := (name_of_methodNamed Bd.named Bd.method).1
  have hlk := Bd.notSynchronized
  have X0 : Stand p l e ({ frames := 2, cells := 1, slots := 2, locals := 24 } : Room) s m #[(.ref o0), (.int 0), (.int 1)] below meth c s₁ [] 0 0 := Stand.of_body Bd
  have e0 : s₁.heap = h0 := by rw [← hh, Bd.state]; rfl
  have N0 := Fr.nil n0
  show own_G p.tables e below s (Q_rmTB1 Z o0 w0 k0 cs fm h0 n0) ({ frames := 2, cells := 1, slots := 2, locals := 24 } : Room).cells ({ frames := 2, cells := 1, slots := 2, locals := 24 } : Room).slots _
  refine own_thr (a := s₁.setTop (mkF m 0 #[.val (.ref o0), .val (.int 0), .val (.int 1), .unset, .unset] [])) (fun t kt => castTop (ef_rmTB1 m o0) kt) ?_
  refine own_thr (a := s₁.setTop (mkF m 1 #[.val (.ref o0), .val (.int 0), .val (.int 1), .unset, .unset] [(.int 1)])) (fun t kt => ?_) ?_
  · refine XS.iloadN X0.here hx rfl (hb hby d15_0) rfl ?_
    exact kt
  obtain ⟨_, _, ⟨T1, L1, k1, n1⟩, -, X1, ⟨Lc1, hQ1, l1, y1, z1⟩, st1⟩ := Jvm.LawKit.callS X0 hx (y := own_m4) hown (mvT hZ (hw _ (own_i 71 rfl))) (mvT hZ (hw _ (own_i 72 rfl))) (mvT hZ (hw _ (own_i 63 rfl))) (mvT hZ (hw _ (own_i 73 rfl))) (by decide) (backOf (W := 0) (rmNB1 l Z a0 hw []  h0 n0 Z0) hZ (hw _ (own_i 73 rfl)) (hw _ (own_i 63 rfl)) (by decide) (by decide)) (g := (mkF m 1 #[.val (.ref o0), .val (.int 0), .val (.int 1), .unset, .unset] [(.int 1)])) rfl (by rw [hml]; rfl) (argsL := [(.int 1)]) (rest := []) (lenOf pd__28I_29_5bB rfl) rfl (own_q rfl) (hb hby d15_1) (fun _ _ => ⟨rfl, e0, (by decide : 0 + 1 ≤ _), (by decide : 0 + 2 ≤ _)⟩)
  dsimp only [Pt.U, Pt.locs, Pt.cells, Pt.slots] at X1 l1 y1 z1 st1 hQ1
  obtain ⟨r1, rfl, N1q, K1, o1_0, o1_1⟩ := hQ1
  have Z2 : n0 ≤ T1.heap.size := Nat.le_trans Z0 K1.1
  have Z2h : h0.size ≤ T1.heap.size := Nat.le_trans (Nat.le_refl h0.size) K1.1
  obtain ⟨lc1, X1, N1⟩ := own_pack X1 l1 y1 z1 N0 N1q (C := 1) (S' := 2) rfl rfl
  refine own_thr (a := T1.setTop (mkF m 4 #[.val (.ref o0), .val (.int 0), .val (.int 1), .unset, .unset] [(.ref r1)])) (fun t kt => st1 t kt) ?_
  obtain ⟨kq1, Vq1⟩ := o1_0
  have ne_o0_r1 : o0 ≠ r1 := Nat.ne_of_lt (Nat.lt_of_lt_of_le V_o0.lt o1_1)
  have g_r1 : n0 ≤ r1 := Nat.le_trans Z0 o1_1
  have sz_r1 : h0.size ≤ r1 := Nat.le_trans (Nat.le_refl h0.size) o1_1
  refine own_thr (a := T1.setTop (mkF m 19 #[.val (.ref o0), .val (.int 0), .val (.int 1), .val (.ref r1), .val (.int 0)] [(.int 0), (.ref o0), (.int 0), (.ref r1)])) (fun t kt => ?_) ?_
  · refine XS.astoreN X1.here hx rfl (hb hby d15_4) rfl rfl (l' := #[.val (.ref o0), .val (.int 0), .val (.int 1), .val (.ref r1), .unset]) rfl ?_
    refine XS.iconst X1.here hx rfl (hb hby d15_5) ?_
    refine XS.istore X1.here hx rfl (hb hby d15_6) rfl (l' := #[.val (.ref o0), .val (.int 0), .val (.int 1), .val (.ref r1), .val (.int 0)]) rfl ?_
    refine XS.iload X1.here hx rfl (hb hby d15_8) rfl ?_
    refine XS.iloadN X1.here hx rfl (hb hby d15_10) rfl ?_
    refine XS.icmpNo X1.here hx rfl (hb hby d15_11) rfl (tlt (by decide)).2.1 ?_
    refine XS.aloadN X1.here hx rfl (hb hby d15_14) rfl rfl ?_
    refine XS.iload X1.here hx rfl (hb hby d15_15) rfl ?_
    refine XS.aloadN X1.here hx rfl (hb hby d15_17) rfl rfl ?_
    refine XS.iloadN X1.here hx rfl (hb hby d15_18) rfl ?_
    exact kt
  obtain ⟨cl3, Ar3, -, S3, M3, H3, -⟩ := id (V_o0.keep K1 nin0)
  have hin3 : ¬ ((0 : Int32) < 0 ∨ cl3.slots.size ≤ ((0 : Int32)).toNatClampNeg) := inb_of S3 ⟨by decide, by decide⟩
  have hat3 : cl3.slots[((0 : Int32)).toNatClampNeg]? = some (.int w0) := Has.at H3 hin3 rfl
  refine own_thr (a := T1.setTop (mkF m 20 #[.val (.ref o0), .val (.int 0), .val (.int 1), .val (.ref r1), .val (.int 0)] [(.int w0), (.int 0), (.ref r1)])) (fun t kt => ?_) ?_
  · refine X1.caload hx (j := (0 : Int32)) (v := (.int w0)) Ar3.1 (State.isArrayOf_alike hZ.alike Ar3.2.1) Ar3.2.2 hin3 hat3 (g := (mkF m 19 #[.val (.ref o0), .val (.int 0), .val (.int 1), .val (.ref r1), .val (.int 0)] [(.int 0), (.ref o0), (.int 0), (.ref r1)])) rfl rfl (hb hby d15_19) _ ?_
    exact kt
  obtain ⟨_, _, ⟨T4, L4, k4, n4⟩, -, X4, ⟨Lc4, hQ4, l4, y4, z4⟩, st4⟩ := Jvm.LawKit.callS X1 hx (y := own_m2) hown (mvT hZ (hw _ (own_i 78 rfl))) (mvT hZ (hw _ (own_i 79 rfl))) (mvT hZ (hw _ (own_i 63 rfl))) (mvT hZ (hw _ (own_i 80 rfl))) (by decide) (backOf (W := 0) (rmPC10 l Z a0 hw [] r1 w0 (0 : Int32) (0 : Int32) kq1 cs fm T1.heap n0 Z2 Vq1 g_r1 hKs (hO.keep K1 all0)) hZ (hw _ (own_i 80 rfl)) (hw _ (own_i 63 rfl)) (by decide) (by decide)) (g := (mkF m 20 #[.val (.ref o0), .val (.int 0), .val (.int 1), .val (.ref r1), .val (.int 0)] [(.int w0), (.int 0), (.ref r1)])) rfl (by rw [hml]; rfl) (argsL := [(.ref r1), (.int 0), (.int w0)]) (rest := []) (lenOf pd__28_5bBII_29V rfl) rfl (own_q rfl) (hb hby d15_20) (fun _ _ => ⟨rfl, rfl, (by decide : 1 + 0 ≤ _), (by decide : 2 + 0 ≤ _)⟩)
  dsimp only [Pt.U, Pt.locs, Pt.cells, Pt.slots] at X4 l4 y4 z4 st4 hQ4
  obtain ⟨rfl, N4q, K4, o4_0⟩ := hQ4
  have Z5 : n0 ≤ T4.heap.size := Nat.le_trans Z2 K4.1
  have Z5h : h0.size ≤ T4.heap.size := Nat.le_trans Z2h K4.1
  obtain ⟨lc4, X4, N4⟩ := own_pack X4 l4 y4 z4 N1 N4q (C := 1) (S' := 2) rfl rfl
  refine own_thr (a := T4.setTop (mkF m 23 #[.val (.ref o0), .val (.int 0), .val (.int 1), .val (.ref r1), .val (.int 0)] [])) (fun t kt => st4 t kt) ?_
  refine own_thr (a := T4.setTop (mkF m 33 #[.val (.ref o0), .val (.int 1), .val (.int 1), .val (.ref r1), .val (.int 1)] [(.ref r1)])) (fun t kt => ?_) ?_
  · refine XS.iinc X4.here hx rfl (hb hby d15_23) rfl (l' := #[.val (.ref o0), .val (.int 1), .val (.int 1), .val (.ref r1), .val (.int 0)]) rfl ?_
    refine XS.iinc X4.here hx rfl (hb hby d15_26) rfl (l' := #[.val (.ref o0), .val (.int 1), .val (.int 1), .val (.ref r1), .val (.int 1)]) rfl ?_
    refine XS.goto X4.here hx rfl (pc0 := 29) (pc' := 8) rfl (hb hby d15_29) (by decide) (by decide) ?_
    refine XS.iload X4.here hx rfl (hb hby d15_8) rfl ?_
    refine XS.iloadN X4.here hx rfl (hb hby d15_10) rfl ?_
    refine XS.icmpYes X4.here hx rfl (pc0 := 11) (pc' := 32) rfl (hb hby d15_11) rfl (flt (by decide)).2.1 (by decide) (by decide) ?_
    refine XS.aloadN X4.here hx rfl (hb hby d15_32) rfl rfl ?_
    exact kt
  exact own_end X4 hlk (v := some (.ref r1)) (fun h => by rw [Bd.returns] at h; cases h) (fun fs hr => retA X4 hx Bd.returns rfl rfl (hb hby d15_33) hr) ⟨r1, rfl, N4, (((Keep.refl h0 []).trans K1 all0).trans K4 (allS (Or.inr sz_r1) all0)), ⟨_, o4_0⟩, sz_r1⟩ (by decide : 1 ≤ _) (by decide : 2 ≤ _)
theorem d20_0 : decode jdk_52_method_15_code 0 = .ok (.iload_n 1, 1) := by decide +kernel
theorem d20_1 : decode jdk_52_method_15_code 1 = .ok (.aload_n 0, 1) := by decide +kernel
theorem d20_2 : decode jdk_52_method_15_code 2 = .ok (.arraylength, 1) := by decide +kernel
theorem d20_3 : decode jdk_52_method_15_code 3 = .ok (.isub, 1) := by decide +kernel
theorem d20_4 : decode jdk_52_method_15_code 4 = .ok (.bipush 31, 2) := by decide +kernel
theorem d20_6 : decode jdk_52_method_15_code 6 = .ok (.iushr, 1) := by decide +kernel
theorem d20_7 : decode jdk_52_method_15_code 7 = .ok (.i2b, 1) := by decide +kernel
theorem d20_8 : decode jdk_52_method_15_code 8 = .ok (.ireturn, 1) := by decide +kernel
theorem ef_rmCL11 (m : MethodId) (o0 : Addr)  : entryFrame m #[(.ref o0), (.int 1)] 2 = mkF m 0 #[.val (.ref o0), .val (.int 1)] [] := by first |  (simp [entryFrame, mkF, argsToLocals, Value.category]; done) | rfl
def Q_rmCL11 (Z : State) (o0 : Addr) (vs : List Value) (k0 : ClassId) (h0 : Heap) (n0 : Nat) (v : Option Value) (h : Heap) (L : List Loc) : Prop := v = some (.int (nar .byte ((((0 : Int32).toUInt32 >>> ((31 : Int32) &&& 31).toUInt32).toInt32).toInt8.toInt32))) ∧ Fr n0 L ∧ h = h0
theorem rmCL11 (l : Launch) (Z : State) (a0 : Array Value) (hw : ∀ d ∈ tables_1, d.before a0 Z = true) (ws : List Jvm.Cond) (o0 : Addr) (vs : List Value) (k0 : ClassId) (h0 : Heap) (n0 : Nat) (Z0 : n0 ≤ h0.size) (V_o0 : Arv Z h0 o0 k0 .byte (1 : Int32) vs (.int 0)) :
    MetFree l own_m6 (head1 (Jvm.Cond.code own_m6 jdk_52_method_15_code 2 (some .byte) :: ws) ({ frames := 0, cells := 0, slots := 0, locals := 0 } : Room)) (fun a U => a = #[(.ref o0), (.int 1)] ∧ Z.Warmed39 U.vm ∧ U.heap = h0) (fun _ _ _ _ _ => True) (fun _ U o U' => ∃ v L, o = .returned v ∧ Q_rmCL11 Z o0 vs k0 h0 n0 v U'.heap L ∧ FrameEnd U o U' L ({ frames := 0, cells := 0, slots := 0, locals := 0 } : Room).cells ({ frames := 0, cells := 0, slots := 0, locals := 0 } : Room).slots) := by
  refine MetFree.of_bodySF (plainFor_of_name pn_java_lang_StringUTF16) hisR ?_
  intro p e s m args below meth c s₁ Bd hml0 hP hK
  obtain ⟨rfl, hZ, hh⟩ := hP
  have hx := Bd.exec
  have hby := Bd.bytes
  have hml : c.maxLocals = 2 := hml0
  have hown : s.vm.findClass "java/lang/StringUTF16" = some m.cls := findClass_of_methodNamed Bd.named
  have hnm := (name_of_methodNamed Bd.named Bd.method).1
  have hlk := Bd.notSynchronized
  have X0 : Stand p l e ({ frames := 0, cells := 0, slots := 0, locals := 0 } : Room) s m #[(.ref o0), (.int 1)] below meth c s₁ [] 0 0 := Stand.of_body Bd
  have e0 : s₁.heap = h0 := by rw [← hh, Bd.state]; rfl
  have N0 := Fr.nil n0
  show own_G p.tables e below s (Q_rmCL11 Z o0 vs k0 h0 n0) ({ frames := 0, cells := 0, slots := 0, locals := 0 } : Room).cells ({ frames := 0, cells := 0, slots := 0, locals := 0 } : Room).slots _
  refine own_thr (a := s₁.setTop (mkF m 0 #[.val (.ref o0), .val (.int 1)] [])) (fun t kt => castTop (ef_rmCL11 m o0) kt) ?_
  refine own_thr (a := s₁.setTop (mkF m 2 #[.val (.ref o0), .val (.int 1)] [(.ref o0), (.int 1)])) (fun t kt => ?_) ?_
  · refine XS.iloadN X0.here hx rfl (hb hby d20_0) rfl ?_
    refine XS.aloadN X0.here hx rfl (hb hby d20_1) rfl rfl ?_
    exact kt
  obtain ⟨cl1, Ar1, -, S1, M1, -, -⟩ := id V_o0
  refine own_thr (a := s₁.setTop (mkF m 8 #[.val (.ref o0), .val (.int 1)] [(.int ((((0 : Int32).toUInt32 >>> ((31 : Int32) &&& 31).toUInt32).toInt32).toInt8.toInt32))])) (fun t kt => ?_) ?_
  · refine X0.arraylength hx (by rw [e0]; exact Ar1.1) (State.isArrayOf_alike hZ.alike Ar1.2.1) (g := (mkF m 2 #[.val (.ref o0), .val (.int 1)] [(.ref o0), (.int 1)])) rfl rfl (hb hby d20_2) _ ?_
    rw [len_of S1 M1]
    refine XS.isub X0.here hx rfl (hb hby d20_3) rfl ?_
    refine XS.bipush X0.here hx rfl (hb hby d20_4) ?_
    refine XS.iushr X0.here hx rfl (hb hby d20_6) rfl ?_
    refine XS.i2b X0.here hx rfl (hb hby d20_7) rfl ?_
    exact kt
  exact own_end X0 hlk (v := some (.int (nar .byte ((((0 : Int32).toUInt32 >>> ((31 : Int32) &&& 31).toUInt32).toInt32).toInt8.toInt32)))) (fun h => by rw [Bd.returns] at h; cases h) (fun fs hr => retN X0 hx (t := .byte) Bd.returns (by simp) (hb hby d20_8) hr) (by rw [e0]; exact ⟨rfl, N0, rfl⟩) (by decide : 0 ≤ _) (by decide : 0 ≤ _)
theorem ef_rmCL12 (m : MethodId) (o0 : Addr)  : entryFrame m #[(.ref o0), (.int 1)] 2 = mkF m 0 #[.val (.ref o0), .val (.int 1)] [] := by first |  (simp [entryFrame, mkF, argsToLocals, Value.category]; done) | rfl
def Q_rmCL12 (Z : State) (o0 : Addr) (vs : List Value) (k0 : ClassId) (h0 : Heap) (n0 : Nat) (v : Option Value) (h : Heap) (L : List Loc) : Prop := v = some (.int (nar .byte ((((-1 : Int32).toUInt32 >>> ((31 : Int32) &&& 31).toUInt32).toInt32).toInt8.toInt32))) ∧ Fr n0 L ∧ h = h0
theorem rmCL12 (l : Launch) (Z : State) (a0 : Array Value) (hw : ∀ d ∈ tables_1, d.before a0 Z = true) (ws : List Jvm.Cond) (o0 : Addr) (vs : List Value) (k0 : ClassId) (h0 : Heap) (n0 : Nat) (Z0 : n0 ≤ h0.size) (V_o0 : Arv Z h0 o0 k0 .byte (2 : Int32) vs (.int 0)) :
    MetFree l own_m6 (head1 (Jvm.Cond.code own_m6 jdk_52_method_15_code 2 (some .byte) :: ws) ({ frames := 0, cells := 0, slots := 0, locals := 0 } : Room)) (fun a U => a = #[(.ref o0), (.int 1)] ∧ Z.Warmed39 U.vm ∧ U.heap = h0) (fun _ _ _ _ _ => True) (fun _ U o U' => ∃ v L, o = .returned v ∧ Q_rmCL12 Z o0 vs k0 h0 n0 v U'.heap L ∧ FrameEnd U o U' L ({ frames := 0, cells := 0, slots := 0, locals := 0 } : Room).cells ({ frames := 0, cells := 0, slots := 0, locals := 0 } : Room).slots) := by
  refine MetFree.of_bodySF (plainFor_of_name pn_java_lang_StringUTF16) hisR ?_
  intro p e s m args below meth c s₁ Bd hml0 hP hK
  obtain ⟨rfl, hZ, hh⟩ := hP
  have hx := Bd.exec
  have hby := Bd.bytes
  have hml : c.maxLocals = 2 := hml0
  have hown : s.vm.findClass "java/lang/StringUTF16" = some m.cls := findClass_of_methodNamed Bd.named
  have hnm := (name_of_methodNamed Bd.named Bd.method).1
  have hlk := Bd.notSynchronized
  have X0 : Stand p l e ({ frames := 0, cells := 0, slots := 0, locals := 0 } : Room) s m #[(.ref o0), (.int 1)] below meth c s₁ [] 0 0 := Stand.of_body Bd
  have e0 : s₁.heap = h0 := by rw [← hh, Bd.state]; rfl
  have N0 := Fr.nil n0
  show own_G p.tables e below s (Q_rmCL12 Z o0 vs k0 h0 n0) ({ frames := 0, cells := 0, slots := 0, locals := 0 } : Room).cells ({ frames := 0, cells := 0, slots := 0, locals := 0 } : Room).slots _
  refine own_thr (a := s₁.setTop (mkF m 0 #[.val (.ref o0), .val (.int 1)] [])) (fun t kt => castTop (ef_rmCL12 m o0) kt) ?_
  refine own_thr (a := s₁.setTop (mkF m 2 #[.val (.ref o0), .val (.int 1)] [(.ref o0), (.int 1)])) (fun t kt => ?_) ?_
  · refine XS.iloadN X0.here hx rfl (hb hby d20_0) rfl ?_
    refine XS.aloadN X0.here hx rfl (hb hby d20_1) rfl rfl ?_
    exact kt
  obtain ⟨cl1, Ar1, -, S1, M1, -, -⟩ := id V_o0
  refine own_thr (a := s₁.setTop (mkF m 8 #[.val (.ref o0), .val (.int 1)] [(.int ((((-1 : Int32).toUInt32 >>> ((31 : Int32) &&& 31).toUInt32).toInt32).toInt8.toInt32))])) (fun t kt => ?_) ?_
  · refine X0.arraylength hx (by rw [e0]; exact Ar1.1) (State.isArrayOf_alike hZ.alike Ar1.2.1) (g := (mkF m 2 #[.val (.ref o0), .val (.int 1)] [(.ref o0), (.int 1)])) rfl rfl (hb hby d20_2) _ ?_
    rw [len_of S1 M1]
    refine XS.isub X0.here hx rfl (hb hby d20_3) rfl ?_
    refine XS.bipush X0.here hx rfl (hb hby d20_4) ?_
    refine XS.iushr X0.here hx rfl (hb hby d20_6) rfl ?_
    refine XS.i2b X0.here hx rfl (hb hby d20_7) rfl ?_
    exact kt
  exact own_end X0 hlk (v := some (.int (nar .byte ((((-1 : Int32).toUInt32 >>> ((31 : Int32) &&& 31).toUInt32).toInt32).toInt8.toInt32)))) (fun h => by rw [Bd.returns] at h; cases h) (fun fs hr => retN X0 hx (t := .byte) Bd.returns (by simp) (hb hby d20_8) hr) (by rw [e0]; exact ⟨rfl, N0, rfl⟩) (by decide : 0 ≤ _) (by decide : 0 ≤ _)
theorem d14_0 : decode jdk_52_method_21_code 0 = .ok (.iconst 0, 1) := by decide +kernel
theorem d14_1 : decode jdk_52_method_21_code 1 = .ok (.istore 5, 2) := by decide +kernel
theorem d14_3 : decode jdk_52_method_21_code 3 = .ok (.iload 5, 2) := by decide +kernel
theorem d14_5 : decode jdk_52_method_21_code 5 = .ok (.iload 4, 2) := by decide +kernel
theorem d14_7 : decode jdk_52_method_21_code 7 = .ok (.if_icmp .ge 37, 3) := by decide +kernel
theorem d14_10 : decode jdk_52_method_21_code 10 = .ok (.aload_n 0, 1) := by decide +kernel
theorem d14_11 : decode jdk_52_method_21_code 11 = .ok (.iload_n 1, 1) := by decide +kernel
theorem d14_12 : decode jdk_52_method_21_code 12 = .ok (.caload, 1) := by decide +kernel
theorem d14_13 : decode jdk_52_method_21_code 13 = .ok (.istore 6, 2) := by decide +kernel
theorem d14_15 : decode jdk_52_method_21_code 15 = .ok (.iload 6, 2) := by decide +kernel
theorem d14_17 : decode jdk_52_method_21_code 17 = .ok (.sipush 255, 3) := by decide +kernel
theorem d14_20 : decode jdk_52_method_21_code 20 = .ok (.if_icmp .le 6, 3) := by decide +kernel
theorem d14_26 : decode jdk_52_method_21_code 26 = .ok (.aload_n 2, 1) := by decide +kernel
theorem d14_27 : decode jdk_52_method_21_code 27 = .ok (.iload_n 3, 1) := by decide +kernel
theorem d14_28 : decode jdk_52_method_21_code 28 = .ok (.iload 6, 2) := by decide +kernel
theorem d14_30 : decode jdk_52_method_21_code 30 = .ok (.i2b, 1) := by decide +kernel
theorem d14_31 : decode jdk_52_method_21_code 31 = .ok (.bastore, 1) := by decide +kernel
theorem d14_32 : decode jdk_52_method_21_code 32 = .ok (.iinc 1 1, 3) := by decide +kernel
theorem d14_35 : decode jdk_52_method_21_code 35 = .ok (.iinc 3 1, 3) := by decide +kernel
theorem d14_38 : decode jdk_52_method_21_code 38 = .ok (.iinc 5 1, 3) := by decide +kernel
theorem d14_41 : decode jdk_52_method_21_code 41 = .ok (.goto (-38), 3) := by decide +kernel
theorem d14_44 : decode jdk_52_method_21_code 44 = .ok (.iload 4, 2) := by decide +kernel
theorem d14_46 : decode jdk_52_method_21_code 46 = .ok (.ireturn, 1) := by decide +kernel
theorem ef_rmK51L (m : MethodId) (o0 : Addr) (o2 : Addr)  : entryFrame m #[(.ref o0), (.int 0), (.ref o2), (.int 0), (.int 1)] 7 = mkF m 0 #[.val (.ref o0), .val (.int 0), .val (.ref o2), .val (.int 0), .val (.int 1), .unset, .unset] [] := by first |  (simp [entryFrame, mkF, argsToLocals, Value.category]; done) | rfl
def Q_rmK51L (Z : State) (o0 : Addr) (o2 : Addr) (w0 : Int32) (k0 : ClassId) (k2 : ClassId) (h0 : Heap) (n0 : Nat) (v : Option Value) (h : Heap) (L : List Loc) : Prop := v = some (.int 1) ∧ Fr n0 L ∧ Keep h0 h [o2] ∧ Arv Z h o2 k2 .byte (1 : Int32) [(.int ((w0.toInt8.toInt32).toInt8.toInt32))] (.int 0)
theorem rmK51L (l : Launch) (Z : State) (a0 : Array Value) (hw : ∀ d ∈ tables_1, d.before a0 Z = true) (ws : List Jvm.Cond) (o0 : Addr) (o2 : Addr) (w0 : Int32) (k0 : ClassId) (k2 : ClassId) (h0 : Heap) (n0 : Nat) (Z0 : n0 ≤ h0.size) (V_o0 : Arv Z h0 o0 k0 .char (1 : Int32) [(.int w0)] (.int 0)) (V_o2 : Arv Z h0 o2 k2 .byte (1 : Int32) [(.int 0)] (.int 0)) (g_o2 : n0 ≤ o2) (ne_o0_o2 : o0 ≠ o2) (hl0 : ¬ (255 : Int32) < w0) :
    MetFree l own_m7 (head1 (Jvm.Cond.code own_m7 jdk_52_method_21_code 7 (some .int) :: ws) ({ frames := 0, cells := 0, slots := 0, locals := 0 } : Room)) (fun a U => a = #[(.ref o0), (.int 0), (.ref o2), (.int 0), (.int 1)] ∧ Z.Warmed39 U.vm ∧ U.heap = h0) (fun _ _ _ _ _ => True) (fun _ U o U' => ∃ v L, o = .returned v ∧ Q_rmK51L Z o0 o2 w0 k0 k2 h0 n0 v U'.heap L ∧ FrameEnd U o U' L ({ frames := 0, cells := 0, slots := 0, locals := 0 } : Room).cells ({ frames := 0, cells := 0, slots := 0, locals := 0 } : Room).slots) := by
  refine MetFree.of_bodySF (plainFor_of_name pn_java_lang_StringUTF16) hisR ?_
  intro p e s m args below meth c s₁ Bd hml0 hP hK
  obtain ⟨rfl, hZ, hh⟩ := hP
  have hx := Bd.exec
  have hby := Bd.bytes
  have hml : c.maxLocals = 7 := hml0
  have hown : s.vm.findClass "java/lang/StringUTF16" = some m.cls := findClass_of_methodNamed Bd.named
  have hnm := (name_of_methodNamed Bd.named Bd.method).1
  have hlk := Bd.notSynchronized
  have X0 : Stand p l e ({ frames := 0, cells := 0, slots := 0, locals := 0 } : Room) s m #[(.ref o0), (.int 0), (.ref o2), (.int 0), (.int 1)] below meth c s₁ [] 0 0 := Stand.of_body Bd
  have e0 : s₁.heap = h0 := by rw [← hh, Bd.state]; rfl
  have N0 := Fr.nil n0
  show own_G p.tables e below s (Q_rmK51L Z o0 o2 w0 k0 k2 h0 n0) ({ frames := 0, cells := 0, slots := 0, locals := 0 } : Room).cells ({ frames := 0, cells := 0, slots := 0, locals := 0 } : Room).slots _
  refine own_thr (a := s₁.setTop (mkF m 0 #[.val (.ref o0), .val (.int 0), .val (.ref o2), .val (.int 0), .val (.int 1), .unset, .unset] [])) (fun t kt => castTop (ef_rmK51L m o0 o2) kt) ?_
  refine own_thr (a := s₁.setTop (mkF m 12 #[.val (.ref o0), .val (.int 0), .val (.ref o2), .val (.int 0), .val (.int 1), .val (.int 0), .unset] [(.int 0), (.ref o0)])) (fun t kt => ?_) ?_
  · refine XS.iconst X0.here hx rfl (hb hby d14_0) ?_
    refine XS.istore X0.here hx rfl (hb hby d14_1) rfl (l' := #[.val (.ref o0), .val (.int 0), .val (.ref o2), .val (.int 0), .val (.int 1), .val (.int 0), .unset]) rfl ?_
    refine XS.iload X0.here hx rfl (hb hby d14_3) rfl ?_
    refine XS.iload X0.here hx rfl (hb hby d14_5) rfl ?_
    refine XS.icmpNo X0.here hx rfl (hb hby d14_7) rfl (tlt (by decide)).2.1 ?_
    refine XS.aloadN X0.here hx rfl (hb hby d14_10) rfl rfl ?_
    refine XS.iloadN X0.here hx rfl (hb hby d14_11) rfl ?_
    exact kt
  obtain ⟨cl1, Ar1, -, S1, M1, H1, -⟩ := id V_o0
  have hin1 : ¬ ((0 : Int32) < 0 ∨ cl1.slots.size ≤ ((0 : Int32)).toNatClampNeg) := inb_of S1 ⟨by decide, by decide⟩
  have hat1 : cl1.slots[((0 : Int32)).toNatClampNeg]? = some (.int w0) := Has.at H1 hin1 rfl
  refine own_thr (a := s₁.setTop (mkF m 31 #[.val (.ref o0), .val (.int 0), .val (.ref o2), .val (.int 0), .val (.int 1), .val (.int 0), .val (.int w0)] [(.int (w0.toInt8.toInt32)), (.int 0), (.ref o2)])) (fun t kt => ?_) ?_
  · refine X0.caload hx (j := (0 : Int32)) (v := (.int w0)) (by rw [e0]; exact Ar1.1) (State.isArrayOf_alike hZ.alike Ar1.2.1) Ar1.2.2 hin1 hat1 (g := (mkF m 12 #[.val (.ref o0), .val (.int 0), .val (.ref o2), .val (.int 0), .val (.int 1), .val (.int 0), .unset] [(.int 0), (.ref o0)])) rfl rfl (hb hby d14_12) _ ?_
    refine XS.istore X0.here hx rfl (hb hby d14_13) rfl (l' := #[.val (.ref o0), .val (.int 0), .val (.ref o2), .val (.int 0), .val (.int 1), .val (.int 0), .val (.int w0)]) rfl ?_
    refine XS.iload X0.here hx rfl (hb hby d14_15) rfl ?_
    refine XS.sipush X0.here hx rfl (hb hby d14_17) ?_
    refine XS.icmpYes X0.here hx rfl (pc0 := 20) (pc' := 26) rfl (hb hby d14_20) rfl (flt hl0).2.2.2 (by decide) (by decide) ?_
    refine XS.aloadN X0.here hx rfl (hb hby d14_26) rfl rfl ?_
    refine XS.iloadN X0.here hx rfl (hb hby d14_27) rfl ?_
    refine XS.iload X0.here hx rfl (hb hby d14_28) rfl ?_
    refine XS.i2b X0.here hx rfl (hb hby d14_30) rfl ?_
    exact kt
  obtain ⟨cl2, Ar2, q2, S2, M2, H2, G2⟩ := id V_o2
  have hin2 : ¬ ((0 : Int32) < 0 ∨ cl2.slots.size ≤ ((0 : Int32)).toNatClampNeg) := inb_of S2 ⟨by decide, by decide⟩
  obtain ⟨T2, h2, X2, e2, W2, st2⟩ := stB X0 hx hZ e0 Ar2 (j := (0 : Int32)) hin2 (g := (mkF m 31 #[.val (.ref o0), .val (.int 0), .val (.ref o2), .val (.int 0), .val (.int 1), .val (.int 0), .val (.int w0)] [(.int (w0.toInt8.toInt32)), (.int 0), (.ref o2)])) rfl rfl (hb hby d14_31)
  have Z3 : n0 ≤ h2.size := Nat.le_trans Z0 (Nat.le_of_eq W2.size.symm)
  have Z3h : h0.size ≤ h2.size := Nat.le_trans (Nat.le_refl h0.size) (Nat.le_of_eq W2.size.symm)
  have V2 : Arv Z h2 o2 k2 .byte (1 : Int32) [(.int ((w0.toInt8.toInt32).toInt8.toInt32))] (.int 0) := Arv.set Ar2 q2 S2 M2 H2 G2 (fits_nar_byte _) W2 0 rfl (Nat.le_of_ble_eq_true rfl)
  obtain ⟨lc2, X2, N2⟩ := own_pack1 X2 N0 g_o2
  refine own_thr (a := T2.setTop (mkF m 32 #[.val (.ref o0), .val (.int 0), .val (.ref o2), .val (.int 0), .val (.int 1), .val (.int 0), .val (.int w0)] [])) (fun t kt => st2 t kt) ?_
  refine own_thr (a := T2.setTop (mkF m 46 #[.val (.ref o0), .val (.int 1), .val (.ref o2), .val (.int 1), .val (.int 1), .val (.int 1), .val (.int w0)] [(.int 1)])) (fun t kt => ?_) ?_
  · refine XS.iinc X2.here hx rfl (hb hby d14_32) rfl (l' := #[.val (.ref o0), .val (.int 1), .val (.ref o2), .val (.int 0), .val (.int 1), .val (.int 0), .val (.int w0)]) rfl ?_
    refine XS.iinc X2.here hx rfl (hb hby d14_35) rfl (l' := #[.val (.ref o0), .val (.int 1), .val (.ref o2), .val (.int 1), .val (.int 1), .val (.int 0), .val (.int w0)]) rfl ?_
    refine XS.iinc X2.here hx rfl (hb hby d14_38) rfl (l' := #[.val (.ref o0), .val (.int 1), .val (.ref o2), .val (.int 1), .val (.int 1), .val (.int 1), .val (.int w0)]) rfl ?_
    refine XS.goto X2.here hx rfl (pc0 := 41) (pc' := 3) rfl (hb hby d14_41) (by decide) (by decide) ?_
    refine XS.iload X2.here hx rfl (hb hby d14_3) rfl ?_
    refine XS.iload X2.here hx rfl (hb hby d14_5) rfl ?_
    refine XS.icmpYes X2.here hx rfl (pc0 := 7) (pc' := 44) rfl (hb hby d14_7) rfl (flt (by decide)).2.1 (by decide) (by decide) ?_
    refine XS.iload X2.here hx rfl (hb hby d14_44) rfl ?_
    exact kt
  exact own_end X2 hlk (v := some (.int 1)) (fun h => by rw [Bd.returns] at h; cases h) (fun fs hr => retI X2 hx Bd.returns (hb hby d14_46) hr) (by rw [e2]; exact ⟨rfl, N2, ((Keep.refl h0 [o2]).wr W2 (Or.inl (own_i 0 rfl))), V2⟩) (by decide : 0 ≤ _) (by decide : 0 ≤ _)
theorem d13_0 : decode jdk_52_method_16_code 0 = .ok (.iload_n 2, 1) := by decide +kernel
theorem d13_1 : decode jdk_52_method_16_code 1 = .ok (.newarray .byte, 2) := by decide +kernel
theorem d13_3 : decode jdk_52_method_16_code 3 = .ok (.astore_n 3, 1) := by decide +kernel
theorem d13_4 : decode jdk_52_method_16_code 4 = .ok (.aload_n 0, 1) := by decide +kernel
theorem d13_5 : decode jdk_52_method_16_code 5 = .ok (.iload_n 1, 1) := by decide +kernel
theorem d13_6 : decode jdk_52_method_16_code 6 = .ok (.aload_n 3, 1) := by decide +kernel
theorem d13_7 : decode jdk_52_method_16_code 7 = .ok (.iconst 0, 1) := by decide +kernel
theorem d13_8 : decode jdk_52_method_16_code 8 = .ok (.iload_n 2, 1) := by decide +kernel
theorem pd__28_5bCI_5bBII_29I : parseMethodDescriptor "([CI[BII)I" = some ⟨[(.array .char), .int, (.array .byte), .int, .int], some .int⟩ := by decide +kernel
theorem d13_9 : decode jdk_52_method_16_code 9 = .ok (.invokestatic 115, 3) := by decide +kernel
theorem d13_12 : decode jdk_52_method_16_code 12 = .ok (.istore 4, 2) := by decide +kernel
theorem d13_14 : decode jdk_52_method_16_code 14 = .ok (.iload 4, 2) := by decide +kernel
theorem d13_16 : decode jdk_52_method_16_code 16 = .ok (.iload_n 2, 1) := by decide +kernel
theorem d13_17 : decode jdk_52_method_16_code 17 = .ok (.if_icmp .eq 40, 3) := by decide +kernel
theorem d13_57 : decode jdk_52_method_16_code 57 = .ok (.aload_n 3, 1) := by decide +kernel
theorem d13_58 : decode jdk_52_method_16_code 58 = .ok (.areturn, 1) := by decide +kernel
theorem ef_rmK31L (m : MethodId) (o0 : Addr)  : entryFrame m #[(.ref o0), (.int 0), (.int 1)] 6 = mkF m 0 #[.val (.ref o0), .val (.int 0), .val (.int 1), .unset, .unset, .unset] [] := by first |  (simp [entryFrame, mkF, argsToLocals, Value.category]; done) | rfl
def Q_rmK31L (Z : State) (o0 : Addr) (w0 : Int32) (k0 : ClassId) (cs : Int32) (fm : Value) (h0 : Heap) (n0 : Nat) (v : Option Value) (h : Heap) (L : List Loc) : Prop := ∃ r : Addr, v = some (.ref r) ∧ Fr n0 L ∧ Keep h0 h [] ∧ (∃ k : ClassId, Arv Z h r k .byte (1 : Int32) [(.int ((w0.toInt8.toInt32).toInt8.toInt32))] (.int 0)) ∧ h0.size ≤ r
theorem rmK31L (l : Launch) (Z : State) (a0 : Array Value) (hw : ∀ d ∈ tables_1, d.before a0 Z = true) (ws : List Jvm.Cond) (o0 : Addr) (w0 : Int32) (k0 : ClassId) (cs : Int32) (fm : Value) (h0 : Heap) (n0 : Nat) (Z0 : n0 ≤ h0.size) (V_o0 : Arv Z h0 o0 k0 .char (1 : Int32) [(.int w0)] (.int 0)) (hl0 : ¬ (255 : Int32) < w0) (hr0 : own_R w0) (hKs : own_K Z cs fm) (hO : Old Z n0 h0) :
    MetFree l own_m8 (head1 (Jvm.Cond.code own_m8 jdk_52_method_16_code 6 (some (.array .byte)) :: ws) ({ frames := 1, cells := 1, slots := 1, locals := 18 } : Room)) (fun a U => a = #[(.ref o0), (.int 0), (.int 1)] ∧ Z.Warmed39 U.vm ∧ U.heap = h0) (fun _ _ _ _ _ => True) (fun _ U o U' => ∃ v L, o = .returned v ∧ Q_rmK31L Z o0 w0 k0 cs fm h0 n0 v U'.heap L ∧ FrameEnd U o U' L ({ frames := 1, cells := 1, slots := 1, locals := 18 } : Room).cells ({ frames := 1, cells := 1, slots := 1, locals := 18 } : Room).slots) := by
  refine MetFree.of_bodySF (plainFor_of_name pn_java_lang_StringUTF16) hisR ?_
  intro p e s m args below meth c s₁ Bd hml0 hP hK
  obtain ⟨rfl, hZ, hh⟩ := hP
  have hx := Bd.exec
  have hby := Bd.bytes
  have hml : c.maxLocals = 6 := hml0
  have hown : s.vm.findClass "java/lang/StringUTF16" = some m.cls := findClass_of_methodNamed Bd.named
  have hnm := (name_of_methodNamed Bd.named Bd.method).1
  have hlk := Bd.notSynchronized
  have X0 : Stand p l e ({ frames := 1, cells := 1, slots := 1, locals := 18 } : Room) s m #[(.ref o0), (.int 0), (.int 1)] below meth c s₁ [] 0 0 := Stand.of_body Bd
  have e0 : s₁.heap = h0 := by rw [← hh, Bd.state]; rfl
  have N0 := Fr.nil n0
  show own_G p.tables e below s (Q_rmK31L Z o0 w0 k0 cs fm h0 n0) ({ frames := 1, cells := 1, slots := 1, locals := 18 } : Room).cells ({ frames := 1, cells := 1, slots := 1, locals := 18 } : Room).slots _
  refine own_thr (a := s₁.setTop (mkF m 0 #[.val (.ref o0), .val (.int 0), .val (.int 1), .unset, .unset, .unset] [])) (fun t kt => castTop (ef_rmK31L m o0) kt) ?_
  refine own_thr (a := s₁.setTop (mkF m 1 #[.val (.ref o0), .val (.int 0), .val (.int 1), .unset, .unset, .unset] [(.int 1)])) (fun t kt => ?_) ?_
  · refine XS.iloadN X0.here hx rfl (hb hby d13_0) rfl ?_
    exact kt
  obtain ⟨T1, h1, k1, X1, e1, E1, A1, st1⟩ := newP X0 hx hZ (hw _ (own_i 26 rfl)) e0 (g := (mkF m 1 #[.val (.ref o0), .val (.int 0), .val (.int 1), .unset, .unset, .unset] [(.int 1)])) rfl (hb hby d13_1) rfl (by decide) (cap := 1) (by decide) (by decide) (by decide : 0 + 1 ≤ _) (by decide : 0 + 1 ≤ _)
  obtain ⟨b1, g1⟩ : ∃ z, z = h0.size := ⟨_, rfl⟩
  rw [← g1] at A1 st1
  have g_b1 : n0 ≤ b1 := Nat.le_trans Z0 (Nat.le_of_eq g1.symm)
  have sz_b1 : h0.size ≤ b1 := Nat.le_trans (Nat.le_refl h0.size) (Nat.le_of_eq g1.symm)
  have lt_o0_b1 : o0 < b1 := Nat.lt_of_lt_of_le V_o0.lt (Nat.le_of_eq g1.symm)
  have ne_o0_b1 : o0 ≠ b1 := Nat.ne_of_lt lt_o0_b1
  have V_b1 : Arv Z h1 b1 k1 .byte (1 : Int32) [(.int 0)] (.int 0) := (Arv.new A1 (by decide)).pad (pad_rep [] (.int 0) 1)
  have Z2 : n0 ≤ h1.size := Nat.le_trans Z0 E1.1
  have Z2h : h0.size ≤ h1.size := Nat.le_trans (Nat.le_refl h0.size) E1.1
  refine own_thr (a := T1.setTop (mkF m 3 #[.val (.ref o0), .val (.int 0), .val (.int 1), .unset, .unset, .unset] [(.ref b1)])) (fun t kt => st1 t kt) ?_
  refine own_thr (a := T1.setTop (mkF m 9 #[.val (.ref o0), .val (.int 0), .val (.int 1), .val (.ref b1), .unset, .unset] [(.int 1), (.int 0), (.ref b1), (.int 0), (.ref o0)])) (fun t kt => ?_) ?_
  · refine XS.astoreN X1.here hx rfl (hb hby d13_3) rfl rfl (l' := #[.val (.ref o0), .val (.int 0), .val (.int 1), .val (.ref b1), .unset, .unset]) rfl ?_
    refine XS.aloadN X1.here hx rfl (hb hby d13_4) rfl rfl ?_
    refine XS.iloadN X1.here hx rfl (hb hby d13_5) rfl ?_
    refine XS.aloadN X1.here hx rfl (hb hby d13_6) rfl rfl ?_
    refine XS.iconst X1.here hx rfl (hb hby d13_7) ?_
    refine XS.iloadN X1.here hx rfl (hb hby d13_8) rfl ?_
    exact kt
  obtain ⟨_, _, ⟨T3, L3, k3, n3⟩, -, X3, ⟨Lc3, hQ3, l3, y3, z3⟩, st3⟩ := Jvm.LawKit.callS X1 hx (y := own_m7) hown (mvT hZ (hw _ (own_i 65 rfl))) (mvT hZ (hw _ (own_i 66 rfl))) (mvT hZ (hw _ (own_i 63 rfl))) (mvT hZ (hw _ (own_i 67 rfl))) (by decide) (backOf (W := 0) (rmK51L l Z a0 hw [] o0 b1 w0 k0 k1 h1 n0 Z2 (V_o0.ext E1) V_b1 g_b1 ne_o0_b1 hl0) hZ (hw _ (own_i 67 rfl)) (hw _ (own_i 63 rfl)) (by decide) (by decide)) (g := (mkF m 9 #[.val (.ref o0), .val (.int 0), .val (.int 1), .val (.ref b1), .unset, .unset] [(.int 1), (.int 0), (.ref b1), (.int 0), (.ref o0)])) rfl (by rw [hml]; rfl) (argsL := [(.ref o0), (.int 0), (.ref b1), (.int 0), (.int 1)]) (rest := []) (lenOf pd__28_5bCI_5bBII_29I rfl) rfl (own_q rfl) (hb hby d13_9) (fun _ _ => ⟨rfl, e1, (by decide : 1 + 0 ≤ _), (by decide : 1 + 0 ≤ _)⟩)
  dsimp only [Pt.U, Pt.locs, Pt.cells, Pt.slots] at X3 l3 y3 z3 st3 hQ3
  obtain ⟨rfl, N3q, K3, o3_0⟩ := hQ3
  have Z4 : n0 ≤ T3.heap.size := Nat.le_trans Z2 K3.1
  have Z4h : h0.size ≤ T3.heap.size := Nat.le_trans Z2h K3.1
  obtain ⟨lc3, X3, N3⟩ := own_pack X3 l3 y3 z3 N0 N3q (C := 1) (S' := 1) rfl rfl
  refine own_thr (a := T3.setTop (mkF m 12 #[.val (.ref o0), .val (.int 0), .val (.int 1), .val (.ref b1), .unset, .unset] [(.int 1)])) (fun t kt => st3 t kt) ?_
  refine own_thr (a := T3.setTop (mkF m 58 #[.val (.ref o0), .val (.int 0), .val (.int 1), .val (.ref b1), .val (.int 1), .unset] [(.ref b1)])) (fun t kt => ?_) ?_
  · refine XS.istore X3.here hx rfl (hb hby d13_12) rfl (l' := #[.val (.ref o0), .val (.int 0), .val (.int 1), .val (.ref b1), .val (.int 1), .unset]) rfl ?_
    refine XS.iload X3.here hx rfl (hb hby d13_14) rfl ?_
    refine XS.iloadN X3.here hx rfl (hb hby d13_16) rfl ?_
    refine XS.icmpYes X3.here hx rfl (pc0 := 17) (pc' := 57) rfl (hb hby d13_17) rfl (teq rfl).1 (by decide) (by decide) ?_
    refine XS.aloadN X3.here hx rfl (hb hby d13_57) rfl rfl ?_
    exact kt
  exact own_end X3 hlk (v := some (.ref b1)) (fun h => by rw [Bd.returns] at h; cases h) (fun fs hr => retA X3 hx Bd.returns rfl rfl (hb hby d13_58) hr) ⟨b1, rfl, N3, (((Keep.refl h0 []).ext E1).trans K3 (allS (Or.inr sz_b1) all0)), ⟨_, o3_0⟩, sz_b1⟩ (by decide : 1 ≤ _) (by decide : 1 ≤ _)
theorem d4_0 : decode jdk_42_method_149_code 0 = .ok (.aload_n 0, 1) := by decide +kernel
theorem d4_1 : decode jdk_42_method_149_code 1 = .ok (.invokespecial 1, 3) := by decide +kernel
theorem d4_4 : decode jdk_42_method_149_code 4 = .ok (.iload_n 3, 1) := by decide +kernel
theorem d4_5 : decode jdk_42_method_149_code 5 = .ok (.ifCond .ne 22, 3) := by decide +kernel
theorem d4_27 : decode jdk_42_method_149_code 27 = .ok (.getstatic 38, 3) := by decide +kernel
theorem d4_30 : decode jdk_42_method_149_code 30 = .ok (.ifCond .eq 28, 3) := by decide +kernel
theorem d4_33 : decode jdk_42_method_149_code 33 = .ok (.aload_n 1, 1) := by decide +kernel
theorem d4_34 : decode jdk_42_method_149_code 34 = .ok (.iload_n 2, 1) := by decide +kernel
theorem d4_35 : decode jdk_42_method_149_code 35 = .ok (.iload_n 3, 1) := by decide +kernel
theorem pd__28_5bCII_29_5bB : parseMethodDescriptor "([CII)[B" = some ⟨[(.array .char), .int, .int], some (.array .byte)⟩ := by decide +kernel
theorem d4_36 : decode jdk_42_method_149_code 36 = .ok (.invokestatic 177, 3) := by decide +kernel
theorem d4_39 : decode jdk_42_method_149_code 39 = .ok (.astore 5, 2) := by decide +kernel
theorem d4_41 : decode jdk_42_method_149_code 41 = .ok (.aload_n 0, 1) := by decide +kernel
theorem d4_42 : decode jdk_42_method_149_code 42 = .ok (.aload 5, 2) := by decide +kernel
theorem d4_44 : decode jdk_42_method_149_code 44 = .ok (.iload_n 3, 1) := by decide +kernel
theorem pd__28_5bBI_29B : parseMethodDescriptor "([BI)B" = some ⟨[(.array .byte), .int], some .byte⟩ := by decide +kernel
theorem d4_45 : decode jdk_42_method_149_code 45 = .ok (.invokestatic 47, 3) := by decide +kernel
theorem d4_48 : decode jdk_42_method_149_code 48 = .ok (.putfield 15, 3) := by decide +kernel
theorem d4_51 : decode jdk_42_method_149_code 51 = .ok (.aload_n 0, 1) := by decide +kernel
theorem d4_52 : decode jdk_42_method_149_code 52 = .ok (.aload 5, 2) := by decide +kernel
theorem d4_54 : decode jdk_42_method_149_code 54 = .ok (.putfield 9, 3) := by decide +kernel
theorem d4_57 : decode jdk_42_method_149_code 57 = .ok (.return_, 1) := by decide +kernel
theorem pn_java_lang_String : plainName "java/lang/String" = true := by first | (simp [plainName, overriddenIn]; done) | decide +kernel
theorem ef_rmS1L (m : MethodId) (o0 : Addr) (o1 : Addr)  : entryFrame m #[(.ref o0), (.ref o1), (.int 0), (.int 1), .null] 6 = mkF m 0 #[.val (.ref o0), .val (.ref o1), .val (.int 0), .val (.int 1), .val .null, .unset] [] := by first |  (simp [entryFrame, mkF, argsToLocals, Value.category]; done) | rfl
def Q_rmS1L (Z : State) (o0 : Addr) (o1 : Addr) (w0 : Int32) (k0 : ClassId) (cs : Int32) (fm : Value) (h0 : Heap) (n0 : Nat) (v : Option Value) (h : Heap) (L : List Loc) : Prop := v = none ∧ Fr n0 L ∧ Keep h0 h [o0] ∧ Exa Z h o0 "java/lang/String" ∧ Fld Z h o0 "java/lang/String" "coder" "B" (.int 0) ∧ ∃ (b : Addr) (k : ClassId), Fld Z h o0 "java/lang/String" "value" "[B" (.ref b) ∧ Arv Z h b k .byte (1 : Int32) [(.int ((w0.toInt8.toInt32).toInt8.toInt32))] (.int 0)
theorem rmS1L (l : Launch) (Z : State) (a0 : Array Value) (hw : ∀ d ∈ tables_1, d.before a0 Z = true) (ws : List Jvm.Cond) (o0 : Addr) (o1 : Addr) (w0 : Int32) (k0 : ClassId) (cs : Int32) (fm : Value) (h0 : Heap) (n0 : Nat) (Z0 : n0 ≤ h0.size) (E_o0 : Exa Z h0 o0 "java/lang/String") (F_v : Fld Z h0 o0 "java/lang/String" "value" "[B" .null) (F_c : Fld Z h0 o0 "java/lang/String" "coder" "B" (.int 0)) (V_o1 : Arv Z h0 o1 k0 .char (1 : Int32) [(.int w0)] (.int 0)) (g_o0 : n0 ≤ o0) (ne_o0_o1 : o0 ≠ o1) (hl0 : ¬ (255 : Int32) < w0) (hr0 : own_R w0) (hKs : own_K Z cs fm) (hO : Old Z n0 h0) :
    MetFree l own_m9 (head1 (Jvm.Cond.code own_m9 jdk_42_method_149_code 6 none :: ws) ({ frames := 2, cells := 1, slots := 1, locals := 35 } : Room)) (fun a U => a = #[(.ref o0), (.ref o1), (.int 0), (.int 1), .null] ∧ Z.Warmed39 U.vm ∧ U.heap = h0) (fun _ _ _ _ _ => True) (fun _ U o U' => ∃ v L, o = .returned v ∧ Q_rmS1L Z o0 o1 w0 k0 cs fm h0 n0 v U'.heap L ∧ FrameEnd U o U' L ({ frames := 2, cells := 1, slots := 1, locals := 35 } : Room).cells ({ frames := 2, cells := 1, slots := 1, locals := 35 } : Room).slots) := by
  refine MetFree.of_bodySF (plainFor_of_name pn_java_lang_String) hisR ?_
  intro p e s m args below meth c s₁ Bd hml0 hP hK
  obtain ⟨rfl, hZ, hh⟩ := hP
  have hx := Bd.exec
  have hby := Bd.bytes
  have hml : c.maxLocals = 6 := hml0
  have hown : s.vm.findClass "java/lang/String" = some m.cls := findClass_of_methodNamed Bd.named
  have hnm := (name_of_methodNamed Bd.named Bd.method).1
  have hlk := Bd.notSynchronized
  have X0 : Stand p l e ({ frames := 2, cells := 1, slots := 1, locals := 35 } : Room) s m #[(.ref o0), (.ref o1), (.int 0), (.int 1), .null] below meth c s₁ [] 0 0 := Stand.of_body Bd
  have e0 : s₁.heap = h0 := by rw [← hh, Bd.state]; rfl
  have N0 := Fr.nil n0
  show own_G p.tables e below s (Q_rmS1L Z o0 o1 w0 k0 cs fm h0 n0) ({ frames := 2, cells := 1, slots := 1, locals := 35 } : Room).cells ({ frames := 2, cells := 1, slots := 1, locals := 35 } : Room).slots _
  refine own_thr (a := s₁.setTop (mkF m 0 #[.val (.ref o0), .val (.ref o1), .val (.int 0), .val (.int 1), .val .null, .unset] [])) (fun t kt => castTop (ef_rmS1L m o0 o1) kt) ?_
  refine own_thr (a := s₁.setTop (mkF m 1 #[.val (.ref o0), .val (.ref o1), .val (.int 0), .val (.int 1), .val .null, .unset] [(.ref o0)])) (fun t kt => ?_) ?_
  · refine XS.aloadN X0.here hx rfl (hb hby d4_0) rfl rfl ?_
    exact kt
  obtain ⟨T1, X1, e1, st1⟩ := initO X0 hx hZ hown (hw _ (own_i 22 rfl)) (hw _ (own_i 23 rfl)) (hw _ (own_i 24 rfl)) e0 (g := (mkF m 1 #[.val (.ref o0), .val (.ref o1), .val (.int 0), .val (.int 1), .val .null, .unset] [(.ref o0)])) rfl (by rw [hml]; rfl) rfl (hb hby d4_1) (by decide) (W := 0) (own_q rfl) (by decide)
  refine own_thr (a := T1.setTop (mkF m 4 #[.val (.ref o0), .val (.ref o1), .val (.int 0), .val (.int 1), .val .null, .unset] [])) (fun t kt => st1 t kt) ?_
  refine own_thr (a := T1.setTop (mkF m 27 #[.val (.ref o0), .val (.ref o1), .val (.int 0), .val (.int 1), .val .null, .unset] [])) (fun t kt => ?_) ?_
  · refine XS.iloadN X1.here hx rfl (hb hby d4_4) rfl ?_
    refine XS.ifYes X1.here hx rfl (pc0 := 5) (pc' := 27) rfl (hb hby d4_5) rfl ((if0 _ _).trans (feq (by decide)).2) (by decide) (by decide) ?_
    exact kt
  obtain ⟨T2, X2, e2, st2⟩ := getS2 X1 hx hZ hown (host := "") (Or.inl (hw _ (own_i 47 rfl))) Via.refl e1 (hKs.1.ext hO.2) (g := (mkF m 27 #[.val (.ref o0), .val (.ref o1), .val (.int 0), .val (.int 1), .val .null, .unset] [])) rfl (hb hby d4_27)
  refine own_thr (a := T2.setTop (mkF m 30 #[.val (.ref o0), .val (.ref o1), .val (.int 0), .val (.int 1), .val .null, .unset] [(.int cs)])) (fun t kt => st2 t kt) ?_
  refine own_thr (a := T2.setTop (mkF m 36 #[.val (.ref o0), .val (.ref o1), .val (.int 0), .val (.int 1), .val .null, .unset] [(.int 1), (.int 0), (.ref o1)])) (fun t kt => ?_) ?_
  · refine XS.ifNo X2.here hx rfl (hb hby d4_30) rfl ((if0 _ _).trans (feq hKs.2.1).1) ?_
    refine XS.aloadN X2.here hx rfl (hb hby d4_33) rfl rfl ?_
    refine XS.iloadN X2.here hx rfl (hb hby d4_34) rfl ?_
    refine XS.iloadN X2.here hx rfl (hb hby d4_35) rfl ?_
    exact kt
  obtain ⟨_, _, ⟨T3, L3, k3, n3⟩, -, X3, ⟨Lc3, hQ3, l3, y3, z3⟩, st3⟩ := Jvm.LawKit.callS X2 hx (y := own_m8) hown (mvT hZ (hw _ (own_i 61 rfl))) (mvT hZ (hw _ (own_i 62 rfl))) (mvT hZ (hw _ (own_i 63 rfl))) (mvT hZ (hw _ (own_i 64 rfl))) (by decide) (backOf (W := 0) (rmK31L l Z a0 hw [] o1 w0 k0 cs fm h0 n0 Z0 V_o1 hl0 hr0 hKs hO) hZ (hw _ (own_i 64 rfl)) (hw _ (own_i 63 rfl)) (by decide) (by decide)) (g := (mkF m 36 #[.val (.ref o0), .val (.ref o1), .val (.int 0), .val (.int 1), .val .null, .unset] [(.int 1), (.int 0), (.ref o1)])) rfl (by rw [hml]; rfl) (argsL := [(.ref o1), (.int 0), (.int 1)]) (rest := []) (lenOf pd__28_5bCII_29_5bB rfl) rfl (own_q rfl) (hb hby d4_36) (fun _ _ => ⟨rfl, e2, (by decide : 0 + 1 ≤ _), (by decide : 0 + 1 ≤ _)⟩)
  dsimp only [Pt.U, Pt.locs, Pt.cells, Pt.slots] at X3 l3 y3 z3 st3 hQ3
  obtain ⟨r3, rfl, N3q, K3, o3_0, o3_1⟩ := hQ3
  have Z4 : n0 ≤ T3.heap.size := Nat.le_trans Z0 K3.1
  have Z4h : h0.size ≤ T3.heap.size := Nat.le_trans (Nat.le_refl h0.size) K3.1
  obtain ⟨lc3, X3, N3⟩ := own_pack X3 l3 y3 z3 N0 N3q (C := 1) (S' := 1) rfl rfl
  refine own_thr (a := T3.setTop (mkF m 39 #[.val (.ref o0), .val (.ref o1), .val (.int 0), .val (.int 1), .val .null, .unset] [(.ref r3)])) (fun t kt => st3 t kt) ?_
  obtain ⟨kq3, Vq3⟩ := o3_0
  have ne_o0_r3 : o0 ≠ r3 := Nat.ne_of_lt (Nat.lt_of_lt_of_le E_o0.lt o3_1)
  have ne_o1_r3 : o1 ≠ r3 := Nat.ne_of_lt (Nat.lt_of_lt_of_le V_o1.lt o3_1)
  have g_r3 : n0 ≤ r3 := Nat.le_trans Z0 o3_1
  have sz_r3 : h0.size ≤ r3 := Nat.le_trans (Nat.le_refl h0.size) o3_1
  refine own_thr (a := T3.setTop (mkF m 45 #[.val (.ref o0), .val (.ref o1), .val (.int 0), .val (.int 1), .val .null, .val (.ref r3)] [(.int 1), (.ref r3), (.ref o0)])) (fun t kt => ?_) ?_
  · refine XS.astore X3.here hx rfl (hb hby d4_39) rfl rfl (l' := #[.val (.ref o0), .val (.ref o1), .val (.int 0), .val (.int 1), .val .null, .val (.ref r3)]) rfl ?_
    refine XS.aloadN X3.here hx rfl (hb hby d4_41) rfl rfl ?_
    refine XS.aload X3.here hx rfl (hb hby d4_42) rfl rfl ?_
    refine XS.iloadN X3.here hx rfl (hb hby d4_44) rfl ?_
    exact kt
  obtain ⟨_, _, ⟨T5, L5, k5, n5⟩, -, X5, ⟨Lc5, hQ5, l5, y5, z5⟩, st5⟩ := Jvm.LawKit.callS X3 hx (y := own_m6) hown (mvT hZ (hw _ (own_i 87 rfl))) (mvT hZ (hw _ (own_i 88 rfl))) (mvT hZ (hw _ (own_i 63 rfl))) (mvT hZ (hw _ (own_i 89 rfl))) (by decide) (backOf (W := 1) (rmCL11 l Z a0 hw [] r3 [(.int ((w0.toInt8.toInt32).toInt8.toInt32))] kq3 T3.heap n0 Z4 Vq3) hZ (hw _ (own_i 89 rfl)) (hw _ (own_i 63 rfl)) (by decide) (by decide)) (g := (mkF m 45 #[.val (.ref o0), .val (.ref o1), .val (.int 0), .val (.int 1), .val .null, .val (.ref r3)] [(.int 1), (.ref r3), (.ref o0)])) rfl (by rw [hml]; rfl) (argsL := [(.ref r3), (.int 1)]) (rest := [(.ref o0)]) (lenOf pd__28_5bBI_29B rfl) rfl (own_q rfl) (hb hby d4_45) (fun _ _ => ⟨rfl, rfl, (by decide : 1 + 0 ≤ _), (by decide : 1 + 0 ≤ _)⟩)
  dsimp only [Pt.U, Pt.locs, Pt.cells, Pt.slots] at X5 l5 y5 z5 st5 hQ5
  obtain ⟨rfl, N5q, e5⟩ := hQ5
  obtain ⟨lc5, X5, N5⟩ := own_pack X5 l5 y5 z5 N3 N5q (C := 1) (S' := 1) rfl rfl
  refine own_thr (a := T5.setTop (mkF m 48 #[.val (.ref o0), .val (.ref o1), .val (.int 0), .val (.int 1), .val .null, .val (.ref r3)] [(.int (nar .byte ((((0 : Int32).toUInt32 >>> ((31 : Int32) &&& 31).toUInt32).toInt32).toInt8.toInt32))), (.ref o0)])) (fun t kt => st5 t kt) ?_
  rw [show (nar .byte ((((0 : Int32).toUInt32 >>> ((31 : Int32) &&& 31).toUInt32).toInt32).toInt8.toInt32)) = (0 : Int32) from by decide]
  obtain ⟨T6, h6, X6, e6, W6, st6⟩ := putFN X5 hx hZ hown (hw _ (own_i 32 rfl)) Via.refl e5 (F_c.keep K3 nin0) (E_o0.keep K3) (Or.inr ⟨(hw _ (own_i 28 rfl)), rfl, hnm⟩) (hw _ (own_i 12 rfl)) (ty := .byte) (v' := (.int 0)) (by decide) rfl rfl (g := (mkF m 48 #[.val (.ref o0), .val (.ref o1), .val (.int 0), .val (.int 1), .val .null, .val (.ref r3)] [(.int 0), (.ref o0)])) rfl rfl (hb hby d4_48)
  have Fw6 := (F_c.keep K3 nin0).same W6
  have Z7 : n0 ≤ h6.size := Nat.le_trans Z4 (Nat.le_of_eq W6.size.symm)
  have Z7h : h0.size ≤ h6.size := Nat.le_trans Z4h (Nat.le_of_eq W6.size.symm)
  obtain ⟨lc6, X6, N6⟩ := own_pack1 X6 N5 g_o0
  refine own_thr (a := T6.setTop (mkF m 51 #[.val (.ref o0), .val (.ref o1), .val (.int 0), .val (.int 1), .val .null, .val (.ref r3)] [])) (fun t kt => st6 t kt) ?_
  refine own_thr (a := T6.setTop (mkF m 54 #[.val (.ref o0), .val (.ref o1), .val (.int 0), .val (.int 1), .val .null, .val (.ref r3)] [(.ref r3), (.ref o0)])) (fun t kt => ?_) ?_
  · refine XS.aloadN X6.here hx rfl (hb hby d4_51) rfl rfl ?_
    refine XS.aload X6.here hx rfl (hb hby d4_52) rfl rfl ?_
    exact kt
  have c8 := ((F_v.keep K3 nin0).other W6 (Or.inr (slot_ne (Or.inr (hw _ (own_i 27 rfl))) (Or.inr (hw _ (own_i 28 rfl))) (by decide) (t := (.array .byte)) (t' := .byte) (by decide) (by decide))))
  obtain ⟨T9, h9, X9, e9, W9, st9⟩ := putF X6 hx hZ hown (host := "") (Or.inl (hw _ (own_i 31 rfl))) Via.refl e6 c8 ((E_o0.keep K3).wr W6) (Or.inr ⟨(hw _ (own_i 27 rfl)), rfl, hnm⟩) (hw _ (own_i 12 rfl)) (ty := (.array .byte)) (by decide) rfl rfl (g := (mkF m 54 #[.val (.ref o0), .val (.ref o1), .val (.int 0), .val (.int 1), .val .null, .val (.ref r3)] [(.ref r3), (.ref o0)])) rfl rfl (hb hby d4_54)
  have Fw9 := c8.same W9
  have Z10 : n0 ≤ h9.size := Nat.le_trans Z7 (Nat.le_of_eq W9.size.symm)
  have Z10h : h0.size ≤ h9.size := Nat.le_trans Z7h (Nat.le_of_eq W9.size.symm)
  obtain ⟨lc9, X9, N9⟩ := own_pack1 X9 N6 g_o0
  refine own_thr (a := T9.setTop (mkF m 57 #[.val (.ref o0), .val (.ref o1), .val (.int 0), .val (.int 1), .val .null, .val (.ref r3)] [])) (fun t kt => st9 t kt) ?_
  have c11 := (Fw6.other W9 (Or.inr (slot_ne (Or.inr (hw _ (own_i 28 rfl))) (Or.inr (hw _ (own_i 27 rfl))) (by decide) (t := .byte) (t' := (.array .byte)) (by decide) (by decide))))
  have c12 := ((Vq3.other W6 (Ne.symm ne_o0_r3)).other W9 (Ne.symm ne_o0_r3))
  exact own_end X9 hlk (v := none) (fun _ => rfl) (fun fs hr => X9.returnOut hx Bd.returns (hb hby d4_57) hr) (by rw [e9]; exact ⟨rfl, N9, ((((Keep.refl h0 [o0]).trans K3 all0).wr W6 (Or.inl (own_i 0 rfl))).wr W9 (Or.inl (own_i 0 rfl))), (((E_o0.keep K3).wr W6).wr W9), c11, r3, _, Fw9, c12⟩) (by decide : 1 ≤ _) (by decide : 1 ≤ _)
theorem d3_0 : decode jdk_42_method_3_code 0 = .ok (.aload_n 0, 1) := by decide +kernel
theorem d3_1 : decode jdk_42_method_3_code 1 = .ok (.aload_n 1, 1) := by decide +kernel
theorem d3_2 : decode jdk_42_method_3_code 2 = .ok (.iconst 0, 1) := by decide +kernel
theorem d3_3 : decode jdk_42_method_3_code 3 = .ok (.aload_n 1, 1) := by decide +kernel
theorem d3_4 : decode jdk_42_method_3_code 4 = .ok (.arraylength, 1) := by decide +kernel
theorem d3_5 : decode jdk_42_method_3_code 5 = .ok (.aconst_null, 1) := by decide +kernel
theorem pd__28_5bCIILjava_2flang_2fVoid_3b_29V : parseMethodDescriptor "([CIILjava/lang/Void;)V" = some ⟨[(.array .char), .int, .int, (.object "java/lang/Void")], none⟩ := by decide +kernel
theorem d3_6 : decode jdk_42_method_3_code 6 = .ok (.invokespecial 27, 3) := by decide +kernel
theorem d3_9 : decode jdk_42_method_3_code 9 = .ok (.return_, 1) := by decide +kernel
theorem ef_rmC1L (m : MethodId) (o0 : Addr) (o1 : Addr)  : entryFrame m #[(.ref o0), (.ref o1)] 2 = mkF m 0 #[.val (.ref o0), .val (.ref o1)] [] := by first |  (simp [entryFrame, mkF, argsToLocals, Value.category]; done) | rfl
def Q_rmC1L (Z : State) (o0 : Addr) (o1 : Addr) (w0 : Int32) (k0 : ClassId) (cs : Int32) (fm : Value) (h0 : Heap) (n0 : Nat) (v : Option Value) (h : Heap) (L : List Loc) : Prop := v = none ∧ Fr n0 L ∧ Keep h0 h [o0] ∧ Exa Z h o0 "java/lang/String" ∧ Fld Z h o0 "java/lang/String" "coder" "B" (.int 0) ∧ ∃ (b : Addr) (k : ClassId), Fld Z h o0 "java/lang/String" "value" "[B" (.ref b) ∧ Arv Z h b k .byte (1 : Int32) [(.int ((w0.toInt8.toInt32).toInt8.toInt32))] (.int 0)
theorem rmC1L (l : Launch) (Z : State) (a0 : Array Value) (hw : ∀ d ∈ tables_1, d.before a0 Z = true) (ws : List Jvm.Cond) (o0 : Addr) (o1 : Addr) (w0 : Int32) (k0 : ClassId) (cs : Int32) (fm : Value) (h0 : Heap) (n0 : Nat) (Z0 : n0 ≤ h0.size) (E_o0 : Exa Z h0 o0 "java/lang/String") (F_v : Fld Z h0 o0 "java/lang/String" "value" "[B" .null) (F_c : Fld Z h0 o0 "java/lang/String" "coder" "B" (.int 0)) (V_o1 : Arv Z h0 o1 k0 .char (1 : Int32) [(.int w0)] (.int 0)) (g_o0 : n0 ≤ o0) (ne_o0_o1 : o0 ≠ o1) (hl0 : ¬ (255 : Int32) < w0) (hr0 : own_R w0) (hKs : own_K Z cs fm) (hO : Old Z n0 h0) :
    MetFree l own_m10 (head1 (Jvm.Cond.code own_m10 jdk_42_method_3_code 2 none :: ws) ({ frames := 3, cells := 1, slots := 1, locals := 52 } : Room)) (fun a U => a = #[(.ref o0), (.ref o1)] ∧ Z.Warmed39 U.vm ∧ U.heap = h0) (fun _ _ _ _ _ => True) (fun _ U o U' => ∃ v L, o = .returned v ∧ Q_rmC1L Z o0 o1 w0 k0 cs fm h0 n0 v U'.heap L ∧ FrameEnd U o U' L ({ frames := 3, cells := 1, slots := 1, locals := 52 } : Room).cells ({ frames := 3, cells := 1, slots := 1, locals := 52 } : Room).slots) := by
  refine MetFree.of_bodySF (plainFor_of_name pn_java_lang_String) hisR ?_
  intro p e s m args below meth c s₁ Bd hml0 hP hK
  obtain ⟨rfl, hZ, hh⟩ := hP
  have hx := Bd.exec
  have hby := Bd.bytes
  have hml : c.maxLocals = 2 := hml0
  have hown : s.vm.findClass "java/lang/String" = some m.cls := findClass_of_methodNamed Bd.named
  have hnm := (name_of_methodNamed Bd.named Bd.method).1
  have hlk := Bd.notSynchronized
  have X0 : Stand p l e ({ frames := 3, cells := 1, slots := 1, locals := 52 } : Room) s m #[(.ref o0), (.ref o1)] below meth c s₁ [] 0 0 := Stand.of_body Bd
  have e0 : s₁.heap = h0 := by rw [← hh, Bd.state]; rfl
  have N0 := Fr.nil n0
  show own_G p.tables e below s (Q_rmC1L Z o0 o1 w0 k0 cs fm h0 n0) ({ frames := 3, cells := 1, slots := 1, locals := 52 } : Room).cells ({ frames := 3, cells := 1, slots := 1, locals := 52 } : Room).slots _
  refine own_thr (a := s₁.setTop (mkF m 0 #[.val (.ref o0), .val (.ref o1)] [])) (fun t kt => castTop (ef_rmC1L m o0 o1) kt) ?_
  refine own_thr (a := s₁.setTop (mkF m 4 #[.val (.ref o0), .val (.ref o1)] [(.ref o1), (.int 0), (.ref o1), (.ref o0)])) (fun t kt => ?_) ?_
  · refine XS.aloadN X0.here hx rfl (hb hby d3_0) rfl rfl ?_
    refine XS.aloadN X0.here hx rfl (hb hby d3_1) rfl rfl ?_
    refine XS.iconst X0.here hx rfl (hb hby d3_2) ?_
    refine XS.aloadN X0.here hx rfl (hb hby d3_3) rfl rfl ?_
    exact kt
  obtain ⟨cl1, Ar1, -, S1, M1, -, -⟩ := id V_o1
  refine own_thr (a := s₁.setTop (mkF m 6 #[.val (.ref o0), .val (.ref o1)] [.null, (.int 1), (.int 0), (.ref o1), (.ref o0)])) (fun t kt => ?_) ?_
  · refine X0.arraylength hx (by rw [e0]; exact Ar1.1) (State.isArrayOf_alike hZ.alike Ar1.2.1) (g := (mkF m 4 #[.val (.ref o0), .val (.ref o1)] [(.ref o1), (.int 0), (.ref o1), (.ref o0)])) rfl rfl (hb hby d3_4) _ ?_
    rw [len_of S1 M1]
    refine XS.aconstNull X0.here hx rfl (hb hby d3_5) ?_
    exact kt
  obtain ⟨_, _, ⟨T2, L2, k2, n2⟩, -, X2, ⟨Lc2, hQ2, l2, y2, z2⟩, st2⟩ := X0.specialBack hx (y := own_m9) rfl hown (mvT hZ (hw _ (own_i 18 rfl))) (mvT hZ (hw _ (own_i 19 rfl))) (mvT hZ (hw _ (own_i 21 rfl))) (by decide) (backOf (W := 0) (rmS1L l Z a0 hw [] o0 o1 w0 k0 cs fm h0 n0 Z0 E_o0 F_v F_c V_o1 g_o0 ne_o0_o1 hl0 hr0 hKs hO) hZ (hw _ (own_i 21 rfl)) (hw _ (own_i 13 rfl)) (by decide) (by decide)) (g := (mkF m 6 #[.val (.ref o0), .val (.ref o1)] [.null, (.int 1), (.int 0), (.ref o1), (.ref o0)])) rfl (by rw [hml]; rfl) (Steps.refl _) (a := o0) (argsL := [(.ref o1), (.int 0), (.int 1), .null]) (rest := []) (lenOf pd__28_5bCIILjava_2flang_2fVoid_3b_29V rfl) rfl (own_q rfl) (hb hby d3_6) (fun _ _ => ⟨rfl, e0, (by decide : 0 + 1 ≤ _), (by decide : 0 + 1 ≤ _)⟩)
  dsimp only [Pt.U, Pt.locs, Pt.cells, Pt.slots] at X2 l2 y2 z2 st2 hQ2
  obtain ⟨rfl, N2q, K2, o2_e, o2_c, sv2, ks2, o2_v, o2_a⟩ := hQ2
  have Z3 : n0 ≤ T2.heap.size := Nat.le_trans Z0 K2.1
  have Z3h : h0.size ≤ T2.heap.size := Nat.le_trans (Nat.le_refl h0.size) K2.1
  obtain ⟨lc2, X2, N2⟩ := own_pack X2 l2 y2 z2 N0 N2q (C := 1) (S' := 1) rfl rfl
  refine own_thr (a := T2.setTop (mkF m 9 #[.val (.ref o0), .val (.ref o1)] [])) (fun t kt => st2.trans kt) ?_
  exact own_end X2 hlk (v := none) (fun _ => rfl) (fun fs hr => X2.returnOut hx Bd.returns (hb hby d3_9) hr) ⟨rfl, N2, ((Keep.refl h0 [o0]).trans K2 (allS (Or.inl (own_i 0 rfl)) all0)), o2_e, o2_c, sv2, _, o2_v, o2_a⟩ (by decide : 1 ≤ _) (by decide : 1 ≤ _)
theorem d14_23 : decode jdk_52_method_21_code 23 = .ok (.iload 5, 2) := by decide +kernel
theorem d14_25 : decode jdk_52_method_21_code 25 = .ok (.ireturn, 1) := by decide +kernel
theorem ef_rmK51U (m : MethodId) (o0 : Addr) (o2 : Addr)  : entryFrame m #[(.ref o0), (.int 0), (.ref o2), (.int 0), (.int 1)] 7 = mkF m 0 #[.val (.ref o0), .val (.int 0), .val (.ref o2), .val (.int 0), .val (.int 1), .unset, .unset] [] := by first |  (simp [entryFrame, mkF, argsToLocals, Value.category]; done) | rfl
def Q_rmK51U (Z : State) (o0 : Addr) (o2 : Addr) (w0 : Int32) (k0 : ClassId) (k2 : ClassId) (h0 : Heap) (n0 : Nat) (v : Option Value) (h : Heap) (L : List Loc) : Prop := v = some (.int 0) ∧ Fr n0 L ∧ Keep h0 h [o2] ∧ Arv Z h o2 k2 .byte (1 : Int32) [(.int 0)] (.int 0)
theorem rmK51U (l : Launch) (Z : State) (a0 : Array Value) (hw : ∀ d ∈ tables_1, d.before a0 Z = true) (ws : List Jvm.Cond) (o0 : Addr) (o2 : Addr) (w0 : Int32) (k0 : ClassId) (k2 : ClassId) (h0 : Heap) (n0 : Nat) (Z0 : n0 ≤ h0.size) (V_o0 : Arv Z h0 o0 k0 .char (1 : Int32) [(.int w0)] (.int 0)) (V_o2 : Arv Z h0 o2 k2 .byte (1 : Int32) [(.int 0)] (.int 0)) (g_o2 : n0 ≤ o2) (ne_o0_o2 : o0 ≠ o2) (hl0 : (255 : Int32) < w0) :
    MetFree l own_m7 (head1 (Jvm.Cond.code own_m7 jdk_52_method_21_code 7 (some .int) :: ws) ({ frames := 0, cells := 0, slots := 0, locals := 0 } : Room)) (fun a U => a = #[(.ref o0), (.int 0), (.ref o2), (.int 0), (.int 1)] ∧ Z.Warmed39 U.vm ∧ U.heap = h0) (fun _ _ _ _ _ => True) (fun _ U o U' => ∃ v L, o = .returned v ∧ Q_rmK51U Z o0 o2 w0 k0 k2 h0 n0 v U'.heap L ∧ FrameEnd U o U' L ({ frames := 0, cells := 0, slots := 0, locals := 0 } : Room).cells ({ frames := 0, cells := 0, slots := 0, locals := 0 } : Room).slots) := by
  refine MetFree.of_bodySF (plainFor_of_name pn_java_lang_StringUTF16) hisR ?_
  intro p e s m args below meth c s₁ Bd hml0 hP hK
  obtain ⟨rfl, hZ, hh⟩ := hP
  have hx := Bd.exec
  have hby := Bd.bytes
  have hml : c.maxLocals = 7 := hml0
  have hown : s.vm.findClass "java/lang/StringUTF16" = some m.cls := findClass_of_methodNamed Bd.named
  have hnm := (name_of_methodNamed Bd.named Bd.method).1
  have hlk := Bd.notSynchronized
  have X0 : Stand p l e ({ frames := 0, cells := 0, slots := 0, locals := 0 } : Room) s m #[(.ref o0), (.int 0), (.ref o2), (.int 0), (.int 1)] below meth c s₁ [] 0 0 := Stand.of_body Bd
  have e0 : s₁.heap = h0 := by rw [← hh, Bd.state]; rfl
  have N0 := Fr.nil n0
  show own_G p.tables e below s (Q_rmK51U Z o0 o2 w0 k0 k2 h0 n0) ({ frames := 0, cells := 0, slots := 0, locals := 0 } : Room).cells ({ frames := 0, cells := 0, slots := 0, locals := 0 } : Room).slots _
  refine own_thr (a := s₁.setTop (mkF m 0 #[.val (.ref o0), .val (.int 0), .val (.ref o2), .val (.int 0), .val (.int 1), .unset, .unset] [])) (fun t kt => castTop (ef_rmK51U m o0 o2) kt) ?_
  refine own_thr (a := s₁.setTop (mkF m 12 #[.val (.ref o0), .val (.int 0), .val (.ref o2), .val (.int 0), .val (.int 1), .val (.int 0), .unset] [(.int 0), (.ref o0)])) (fun t kt => ?_) ?_
  · refine XS.iconst X0.here hx rfl (hb hby d14_0) ?_
    refine XS.istore X0.here hx rfl (hb hby d14_1) rfl (l' := #[.val (.ref o0), .val (.int 0), .val (.ref o2), .val (.int 0), .val (.int 1), .val (.int 0), .unset]) rfl ?_
    refine XS.iload X0.here hx rfl (hb hby d14_3) rfl ?_
    refine XS.iload X0.here hx rfl (hb hby d14_5) rfl ?_
    refine XS.icmpNo X0.here hx rfl (hb hby d14_7) rfl (tlt (by decide)).2.1 ?_
    refine XS.aloadN X0.here hx rfl (hb hby d14_10) rfl rfl ?_
    refine XS.iloadN X0.here hx rfl (hb hby d14_11) rfl ?_
    exact kt
  obtain ⟨cl1, Ar1, -, S1, M1, H1, -⟩ := id V_o0
  have hin1 : ¬ ((0 : Int32) < 0 ∨ cl1.slots.size ≤ ((0 : Int32)).toNatClampNeg) := inb_of S1 ⟨by decide, by decide⟩
  have hat1 : cl1.slots[((0 : Int32)).toNatClampNeg]? = some (.int w0) := Has.at H1 hin1 rfl
  refine own_thr (a := s₁.setTop (mkF m 25 #[.val (.ref o0), .val (.int 0), .val (.ref o2), .val (.int 0), .val (.int 1), .val (.int 0), .val (.int w0)] [(.int 0)])) (fun t kt => ?_) ?_
  · refine X0.caload hx (j := (0 : Int32)) (v := (.int w0)) (by rw [e0]; exact Ar1.1) (State.isArrayOf_alike hZ.alike Ar1.2.1) Ar1.2.2 hin1 hat1 (g := (mkF m 12 #[.val (.ref o0), .val (.int 0), .val (.ref o2), .val (.int 0), .val (.int 1), .val (.int 0), .unset] [(.int 0), (.ref o0)])) rfl rfl (hb hby d14_12) _ ?_
    refine XS.istore X0.here hx rfl (hb hby d14_13) rfl (l' := #[.val (.ref o0), .val (.int 0), .val (.ref o2), .val (.int 0), .val (.int 1), .val (.int 0), .val (.int w0)]) rfl ?_
    refine XS.iload X0.here hx rfl (hb hby d14_15) rfl ?_
    refine XS.sipush X0.here hx rfl (hb hby d14_17) ?_
    refine XS.icmpNo X0.here hx rfl (hb hby d14_20) rfl (tlt hl0).2.2.2 ?_
    refine XS.iload X0.here hx rfl (hb hby d14_23) rfl ?_
    exact kt
  exact own_end X0 hlk (v := some (.int 0)) (fun h => by rw [Bd.returns] at h; cases h) (fun fs hr => retI X0 hx Bd.returns (hb hby d14_25) hr) (by rw [e0]; exact ⟨rfl, N0, (Keep.refl h0 [o2]), V_o2⟩) (by decide : 0 ≤ _) (by decide : 0 ≤ _)
theorem d13_20 : decode jdk_52_method_16_code 20 = .ok (.aload_n 0, 1) := by decide +kernel
theorem d13_21 : decode jdk_52_method_16_code 21 = .ok (.iload_n 1, 1) := by decide +kernel
theorem d13_22 : decode jdk_52_method_16_code 22 = .ok (.iload_n 2, 1) := by decide +kernel
theorem d13_23 : decode jdk_52_method_16_code 23 = .ok (.invokestatic 119, 3) := by decide +kernel
theorem d13_26 : decode jdk_52_method_16_code 26 = .ok (.astore 5, 2) := by decide +kernel
theorem d13_28 : decode jdk_52_method_16_code 28 = .ok (.aload 5, 2) := by decide +kernel
theorem d13_30 : decode jdk_52_method_16_code 30 = .ok (.iload 4, 2) := by decide +kernel
theorem pd__28_5bBI_29C : parseMethodDescriptor "([BI)C" = some ⟨[(.array .byte), .int], some .char⟩ := by decide +kernel
theorem d13_32 : decode jdk_52_method_16_code 32 = .ok (.invokestatic 71, 3) := by decide +kernel
theorem d13_35 : decode jdk_52_method_16_code 35 = .ok (.sipush 255, 3) := by decide +kernel
theorem d13_38 : decode jdk_52_method_16_code 38 = .ok (.if_icmp .gt 16, 3) := by decide +kernel
theorem d13_54 : decode jdk_52_method_16_code 54 = .ok (.aload 5, 2) := by decide +kernel
theorem d13_56 : decode jdk_52_method_16_code 56 = .ok (.areturn, 1) := by decide +kernel
theorem ef_rmK31U (m : MethodId) (o0 : Addr)  : entryFrame m #[(.ref o0), (.int 0), (.int 1)] 6 = mkF m 0 #[.val (.ref o0), .val (.int 0), .val (.int 1), .unset, .unset, .unset] [] := by first |  (simp [entryFrame, mkF, argsToLocals, Value.category]; done) | rfl
def Q_rmK31U (Z : State) (o0 : Addr) (w0 : Int32) (k0 : ClassId) (cs : Int32) (fm : Value) (h0 : Heap) (n0 : Nat) (v : Option Value) (h : Heap) (L : List Loc) : Prop := ∃ r : Addr, v = some (.ref r) ∧ Fr n0 L ∧ Keep h0 h [] ∧ (∃ k : ClassId, Arv Z h r k .byte (2 : Int32) [(.int (((w0 >>> ((0 : Int32) &&& 31)).toInt8.toInt32).toInt8.toInt32)), (.int (((w0 >>> ((8 : Int32) &&& 31)).toInt8.toInt32).toInt8.toInt32))] (.int 0)) ∧ h0.size ≤ r
theorem rmK31U (l : Launch) (Z : State) (a0 : Array Value) (hw : ∀ d ∈ tables_1, d.before a0 Z = true) (ws : List Jvm.Cond) (o0 : Addr) (w0 : Int32) (k0 : ClassId) (cs : Int32) (fm : Value) (h0 : Heap) (n0 : Nat) (Z0 : n0 ≤ h0.size) (V_o0 : Arv Z h0 o0 k0 .char (1 : Int32) [(.int w0)] (.int 0)) (hl0 : (255 : Int32) < w0) (hr0 : own_R w0) (hKs : own_K Z cs fm) (hO : Old Z n0 h0) :
    MetFree l own_m8 (head1 (Jvm.Cond.code own_m8 jdk_52_method_16_code 6 (some (.array .byte)) :: ws) ({ frames := 3, cells := 2, slots := 3, locals := 40 } : Room)) (fun a U => a = #[(.ref o0), (.int 0), (.int 1)] ∧ Z.Warmed39 U.vm ∧ U.heap = h0) (fun _ _ _ _ _ => True) (fun _ U o U' => ∃ v L, o = .returned v ∧ Q_rmK31U Z o0 w0 k0 cs fm h0 n0 v U'.heap L ∧ FrameEnd U o U' L ({ frames := 3, cells := 2, slots := 3, locals := 40 } : Room).cells ({ frames := 3, cells := 2, slots := 3, locals := 40 } : Room).slots) := by
  refine MetFree.of_bodySF (plainFor_of_name pn_java_lang_StringUTF16) hisR ?_
  intro p e s m args below meth c s₁ Bd hml0 hP hK
  obtain ⟨rfl, hZ, hh⟩ := hP
  have hx := Bd.exec
  have hby := Bd.bytes
  have hml : c.maxLocals = 6 := hml0
  have hown : s.vm.findClass "java/lang/StringUTF16" = some m.cls := findClass_of_methodNamed Bd.named
  have hnm := (name_of_methodNamed Bd.named Bd.method).1
  have hlk := Bd.notSynchronized
  have X0 : Stand p l e ({ frames := 3, cells := 2, slots := 3, locals := 40 } : Room) s m #[(.ref o0), (.int 0), (.int 1)] below meth c s₁ [] 0 0 := Stand.of_body Bd
  have e0 : s₁.heap = h0 := by rw [← hh, Bd.state]; rfl
  have N0 := Fr.nil n0
  show own_G p.tables e below s (Q_rmK31U Z o0 w0 k0 cs fm h0 n0) ({ frames := 3, cells := 2, slots := 3, locals := 40 } : Room).cells ({ frames := 3, cells := 2, slots := 3, locals := 40 } : Room).slots _
  refine own_thr (a := s₁.setTop (mkF m 0 #[.val (.ref o0), .val (.int 0), .val (.int 1), .unset, .unset, .unset] [])) (fun t kt => castTop (ef_rmK31U m o0) kt) ?_
  refine own_thr (a := s₁.setTop (mkF m 1 #[.val (.ref o0), .val (.int 0), .val (.int 1), .unset, .unset, .unset] [(.int 1)])) (fun t kt => ?_) ?_
  · refine XS.iloadN X0.here hx rfl (hb hby d13_0) rfl ?_
    exact kt
  obtain ⟨T1, h1, k1, X1, e1, E1, A1, st1⟩ := newP X0 hx hZ (hw _ (own_i 26 rfl)) e0 (g := (mkF m 1 #[.val (.ref o0), .val (.int 0), .val (.int 1), .unset, .unset, .unset] [(.int 1)])) rfl (hb hby d13_1) rfl (by decide) (cap := 1) (by decide) (by decide) (by decide : 0 + 1 ≤ _) (by decide : 0 + 1 ≤ _)
  obtain ⟨b1, g1⟩ : ∃ z, z = h0.size := ⟨_, rfl⟩
  rw [← g1] at A1 st1
  have g_b1 : n0 ≤ b1 := Nat.le_trans Z0 (Nat.le_of_eq g1.symm)
  have sz_b1 : h0.size ≤ b1 := Nat.le_trans (Nat.le_refl h0.size) (Nat.le_of_eq g1.symm)
  have lt_o0_b1 : o0 < b1 := Nat.lt_of_lt_of_le V_o0.lt (Nat.le_of_eq g1.symm)
  have ne_o0_b1 : o0 ≠ b1 := Nat.ne_of_lt lt_o0_b1
  have V_b1 : Arv Z h1 b1 k1 .byte (1 : Int32) [(.int 0)] (.int 0) := (Arv.new A1 (by decide)).pad (pad_rep [] (.int 0) 1)
  have Z2 : n0 ≤ h1.size := Nat.le_trans Z0 E1.1
  have Z2h : h0.size ≤ h1.size := Nat.le_trans (Nat.le_refl h0.size) E1.1
  refine own_thr (a := T1.setTop (mkF m 3 #[.val (.ref o0), .val (.int 0), .val (.int 1), .unset, .unset, .unset] [(.ref b1)])) (fun t kt => st1 t kt) ?_
  refine own_thr (a := T1.setTop (mkF m 9 #[.val (.ref o0), .val (.int 0), .val (.int 1), .val (.ref b1), .unset, .unset] [(.int 1), (.int 0), (.ref b1), (.int 0), (.ref o0)])) (fun t kt => ?_) ?_
  · refine XS.astoreN X1.here hx rfl (hb hby d13_3) rfl rfl (l' := #[.val (.ref o0), .val (.int 0), .val (.int 1), .val (.ref b1), .unset, .unset]) rfl ?_
    refine XS.aloadN X1.here hx rfl (hb hby d13_4) rfl rfl ?_
    refine XS.iloadN X1.here hx rfl (hb hby d13_5) rfl ?_
    refine XS.aloadN X1.here hx rfl (hb hby d13_6) rfl rfl ?_
    refine XS.iconst X1.here hx rfl (hb hby d13_7) ?_
    refine XS.iloadN X1.here hx rfl (hb hby d13_8) rfl ?_
    exact kt
  obtain ⟨_, _, ⟨T3, L3, k3, n3⟩, -, X3, ⟨Lc3, hQ3, l3, y3, z3⟩, st3⟩ := Jvm.LawKit.callS X1 hx (y := own_m7) hown (mvT hZ (hw _ (own_i 65 rfl))) (mvT hZ (hw _ (own_i 66 rfl))) (mvT hZ (hw _ (own_i 63 rfl))) (mvT hZ (hw _ (own_i 67 rfl))) (by decide) (backOf (W := 0) (rmK51U l Z a0 hw [] o0 b1 w0 k0 k1 h1 n0 Z2 (V_o0.ext E1) V_b1 g_b1 ne_o0_b1 hl0) hZ (hw _ (own_i 67 rfl)) (hw _ (own_i 63 rfl)) (by decide) (by decide)) (g := (mkF m 9 #[.val (.ref o0), .val (.int 0), .val (.int 1), .val (.ref b1), .unset, .unset] [(.int 1), (.int 0), (.ref b1), (.int 0), (.ref o0)])) rfl (by rw [hml]; rfl) (argsL := [(.ref o0), (.int 0), (.ref b1), (.int 0), (.int 1)]) (rest := []) (lenOf pd__28_5bCI_5bBII_29I rfl) rfl (own_q rfl) (hb hby d13_9) (fun _ _ => ⟨rfl, e1, (by decide : 1 + 0 ≤ _), (by decide : 1 + 0 ≤ _)⟩)
  dsimp only [Pt.U, Pt.locs, Pt.cells, Pt.slots] at X3 l3 y3 z3 st3 hQ3
  obtain ⟨rfl, N3q, K3, o3_0⟩ := hQ3
  have Z4 : n0 ≤ T3.heap.size := Nat.le_trans Z2 K3.1
  have Z4h : h0.size ≤ T3.heap.size := Nat.le_trans Z2h K3.1
  obtain ⟨lc3, X3, N3⟩ := own_pack X3 l3 y3 z3 N0 N3q (C := 1) (S' := 1) rfl rfl
  refine own_thr (a := T3.setTop (mkF m 12 #[.val (.ref o0), .val (.int 0), .val (.int 1), .val (.ref b1), .unset, .unset] [(.int 0)])) (fun t kt => st3 t kt) ?_
  refine own_thr (a := T3.setTop (mkF m 23 #[.val (.ref o0), .val (.int 0), .val (.int 1), .val (.ref b1), .val (.int 0), .unset] [(.int 1), (.int 0), (.ref o0)])) (fun t kt => ?_) ?_
  · refine XS.istore X3.here hx rfl (hb hby d13_12) rfl (l' := #[.val (.ref o0), .val (.int 0), .val (.int 1), .val (.ref b1), .val (.int 0), .unset]) rfl ?_
    refine XS.iload X3.here hx rfl (hb hby d13_14) rfl ?_
    refine XS.iloadN X3.here hx rfl (hb hby d13_16) rfl ?_
    refine XS.icmpNo X3.here hx rfl (hb hby d13_17) rfl (feq (by decide)).1 ?_
    refine XS.aloadN X3.here hx rfl (hb hby d13_20) rfl rfl ?_
    refine XS.iloadN X3.here hx rfl (hb hby d13_21) rfl ?_
    refine XS.iloadN X3.here hx rfl (hb hby d13_22) rfl ?_
    exact kt
  obtain ⟨_, _, ⟨T5, L5, k5, n5⟩, -, X5, ⟨Lc5, hQ5, l5, y5, z5⟩, st5⟩ := Jvm.LawKit.callS X3 hx (y := own_m5) hown (mvT hZ (hw _ (own_i 68 rfl))) (mvT hZ (hw _ (own_i 69 rfl))) (mvT hZ (hw _ (own_i 63 rfl))) (mvT hZ (hw _ (own_i 70 rfl))) (by decide) (backOf (W := 0) (rmTB1 l Z a0 hw [] o0 w0 k0 cs fm T3.heap n0 Z4 ((V_o0.ext E1).keep K3 (ninS ne_o0_b1 nin0)) hKs ((hO.ext E1).keep K3 (allS g_b1 all0))) hZ (hw _ (own_i 70 rfl)) (hw _ (own_i 63 rfl)) (by decide) (by decide)) (g := (mkF m 23 #[.val (.ref o0), .val (.int 0), .val (.int 1), .val (.ref b1), .val (.int 0), .unset] [(.int 1), (.int 0), (.ref o0)])) rfl (by rw [hml]; rfl) (argsL := [(.ref o0), (.int 0), (.int 1)]) (rest := []) (lenOf pd__28_5bCII_29_5bB rfl) rfl (own_q rfl) (hb hby d13_23) (fun _ _ => ⟨rfl, rfl, (by decide : 1 + 1 ≤ _), (by decide : 1 + 2 ≤ _)⟩)
  dsimp only [Pt.U, Pt.locs, Pt.cells, Pt.slots] at X5 l5 y5 z5 st5 hQ5
  obtain ⟨r5, rfl, N5q, K5, o5_0, o5_1⟩ := hQ5
  have Z6 : n0 ≤ T5.heap.size := Nat.le_trans Z4 K5.1
  have Z6h : h0.size ≤ T5.heap.size := Nat.le_trans Z4h K5.1
  obtain ⟨lc5, X5, N5⟩ := own_pack X5 l5 y5 z5 N3 N5q (C := 2) (S' := 3) rfl rfl
  refine own_thr (a := T5.setTop (mkF m 26 #[.val (.ref o0), .val (.int 0), .val (.int 1), .val (.ref b1), .val (.int 0), .unset] [(.ref r5)])) (fun t kt => st5 t kt) ?_
  obtain ⟨kq5, Vq5⟩ := o5_0
  have ne_o0_r5 : o0 ≠ r5 := Nat.ne_of_lt (Nat.lt_of_lt_of_le ((V_o0.ext E1).keep K3 (ninS ne_o0_b1 nin0)).lt o5_1)
  have ne_b1_r5 : b1 ≠ r5 := Nat.ne_of_lt (Nat.lt_of_lt_of_le o3_0.lt o5_1)
  have g_r5 : n0 ≤ r5 := Nat.le_trans Z4 o5_1
  have sz_r5 : h0.size ≤ r5 := Nat.le_trans Z4h o5_1
  refine own_thr (a := T5.setTop (mkF m 32 #[.val (.ref o0), .val (.int 0), .val (.int 1), .val (.ref b1), .val (.int 0), .val (.ref r5)] [(.int 0), (.ref r5)])) (fun t kt => ?_) ?_
  · refine XS.astore X5.here hx rfl (hb hby d13_26) rfl rfl (l' := #[.val (.ref o0), .val (.int 0), .val (.int 1), .val (.ref b1), .val (.int 0), .val (.ref r5)]) rfl ?_
    refine XS.aload X5.here hx rfl (hb hby d13_28) rfl rfl ?_
    refine XS.iload X5.here hx rfl (hb hby d13_30) rfl ?_
    exact kt
  obtain ⟨_, _, ⟨T7, L7, k7, n7⟩, -, X7, ⟨Lc7, hQ7, l7, y7, z7⟩, st7⟩ := Jvm.LawKit.callS X5 hx (y := own_m1) hown (mvT hZ (hw _ (own_i 84 rfl))) (mvT hZ (hw _ (own_i 85 rfl))) (mvT hZ (hw _ (own_i 63 rfl))) (mvT hZ (hw _ (own_i 86 rfl))) (by decide) (backOf (W := 0) (rmG10 l Z a0 hw [] r5 (((w0 >>> ((0 : Int32) &&& 31)).toInt8.toInt32).toInt8.toInt32) (((w0 >>> ((8 : Int32) &&& 31)).toInt8.toInt32).toInt8.toInt32) kq5 cs fm T5.heap n0 Z6 Vq5 hKs (((hO.ext E1).keep K3 (allS g_b1 all0)).keep K5 all0)) hZ (hw _ (own_i 86 rfl)) (hw _ (own_i 63 rfl)) (by decide) (by decide)) (g := (mkF m 32 #[.val (.ref o0), .val (.int 0), .val (.int 1), .val (.ref b1), .val (.int 0), .val (.ref r5)] [(.int 0), (.ref r5)])) rfl (by rw [hml]; rfl) (argsL := [(.ref r5), (.int 0)]) (rest := []) (lenOf pd__28_5bBI_29C rfl) rfl (own_q rfl) (hb hby d13_32) (fun _ _ => ⟨rfl, rfl, (by decide : 2 + 0 ≤ _), (by decide : 3 + 0 ≤ _)⟩)
  dsimp only [Pt.U, Pt.locs, Pt.cells, Pt.slots] at X7 l7 y7 z7 st7 hQ7
  obtain ⟨rfl, N7q, e7⟩ := hQ7
  obtain ⟨lc7, X7, N7⟩ := own_pack X7 l7 y7 z7 N5 N7q (C := 2) (S' := 3) rfl rfl
  refine own_thr (a := T7.setTop (mkF m 35 #[.val (.ref o0), .val (.int 0), .val (.int 1), .val (.ref b1), .val (.int 0), .val (.ref r5)] [(.int (own_gc (((w0 >>> ((0 : Int32) &&& 31)).toInt8.toInt32).toInt8.toInt32) (((w0 >>> ((8 : Int32) &&& 31)).toInt8.toInt32).toInt8.toInt32)))])) (fun t kt => st7 t kt) ?_
  refine own_thr (a := T7.setTop (mkF m 56 #[.val (.ref o0), .val (.int 0), .val (.int 1), .val (.ref b1), .val (.int 0), .val (.ref r5)] [(.ref r5)])) (fun t kt => ?_) ?_
  · refine XS.sipush X7.here hx rfl (hb hby d13_35) ?_
    refine XS.icmpYes X7.here hx rfl (pc0 := 38) (pc' := 54) rfl (hb hby d13_38) rfl (tlt (by rw [own_gp hr0]; exact hl0)).2.2.1 (by decide) (by decide) ?_
    refine XS.aload X7.here hx rfl (hb hby d13_54) rfl rfl ?_
    exact kt
  exact own_end X7 hlk (v := some (.ref r5)) (fun h => by rw [Bd.returns] at h; cases h) (fun fs hr => retA X7 hx Bd.returns rfl rfl (hb hby d13_56) hr) (by rw [e7]; exact ⟨r5, rfl, N7, ((((Keep.refl h0 []).ext E1).trans K3 (allS (Or.inr sz_b1) all0)).trans K5 all0), ⟨_, Vq5⟩, sz_r5⟩) (by decide : 2 ≤ _) (by decide : 3 ≤ _)
theorem ef_rmS1U (m : MethodId) (o0 : Addr) (o1 : Addr)  : entryFrame m #[(.ref o0), (.ref o1), (.int 0), (.int 1), .null] 6 = mkF m 0 #[.val (.ref o0), .val (.ref o1), .val (.int 0), .val (.int 1), .val .null, .unset] [] := by first |  (simp [entryFrame, mkF, argsToLocals, Value.category]; done) | rfl
def Q_rmS1U (Z : State) (o0 : Addr) (o1 : Addr) (w0 : Int32) (k0 : ClassId) (cs : Int32) (fm : Value) (h0 : Heap) (n0 : Nat) (v : Option Value) (h : Heap) (L : List Loc) : Prop := v = none ∧ Fr n0 L ∧ Keep h0 h [o0] ∧ Exa Z h o0 "java/lang/String" ∧ Fld Z h o0 "java/lang/String" "coder" "B" (.int 1) ∧ ∃ (b : Addr) (k : ClassId), Fld Z h o0 "java/lang/String" "value" "[B" (.ref b) ∧ Arv Z h b k .byte (2 : Int32) [(.int (((w0 >>> ((0 : Int32) &&& 31)).toInt8.toInt32).toInt8.toInt32)), (.int (((w0 >>> ((8 : Int32) &&& 31)).toInt8.toInt32).toInt8.toInt32))] (.int 0)
theorem rmS1U (l : Launch) (Z : State) (a0 : Array Value) (hw : ∀ d ∈ tables_1, d.before a0 Z = true) (ws : List Jvm.Cond) (o0 : Addr) (o1 : Addr) (w0 : Int32) (k0 : ClassId) (cs : Int32) (fm : Value) (h0 : Heap) (n0 : Nat) (Z0 : n0 ≤ h0.size) (E_o0 : Exa Z h0 o0 "java/lang/String") (F_v : Fld Z h0 o0 "java/lang/String" "value" "[B" .null) (F_c : Fld Z h0 o0 "java/lang/String" "coder" "B" (.int 0)) (V_o1 : Arv Z h0 o1 k0 .char (1 : Int32) [(.int w0)] (.int 0)) (g_o0 : n0 ≤ o0) (ne_o0_o1 : o0 ≠ o1) (hl0 : (255 : Int32) < w0) (hr0 : own_R w0) (hKs : own_K Z cs fm) (hO : Old Z n0 h0) :
    MetFree l own_m9 (head1 (Jvm.Cond.code own_m9 jdk_42_method_149_code 6 none :: ws) ({ frames := 4, cells := 2, slots := 3, locals := 57 } : Room)) (fun a U => a = #[(.ref o0), (.ref o1), (.int 0), (.int 1), .null] ∧ Z.Warmed39 U.vm ∧ U.heap = h0) (fun _ _ _ _ _ => True) (fun _ U o U' => ∃ v L, o = .returned v ∧ Q_rmS1U Z o0 o1 w0 k0 cs fm h0 n0 v U'.heap L ∧ FrameEnd U o U' L ({ frames := 4, cells := 2, slots := 3, locals := 57 } : Room).cells ({ frames := 4, cells := 2, slots := 3, locals := 57 } : Room).slots) := by
  refine MetFree.of_bodySF (plainFor_of_name pn_java_lang_String) hisR ?_
  intro p e s m args below meth c s₁ Bd hml0 hP hK
  obtain ⟨rfl, hZ, hh⟩ := hP
  have hx := Bd.exec
  have hby := Bd.bytes
  have hml : c.maxLocals = 6 := hml0
  have hown : s.vm.findClass "java/lang/String" = some m.cls := findClass_of_methodNamed Bd.named
  have hnm := (name_of_methodNamed Bd.named Bd.method).1
  have hlk := Bd.notSynchronized
  have X0 : Stand p l e ({ frames := 4, cells := 2, slots := 3, locals := 57 } : Room) s m #[(.ref o0), (.ref o1), (.int 0), (.int 1), .null] below meth c s₁ [] 0 0 := Stand.of_body Bd
  have e0 : s₁.heap = h0 := by rw [← hh, Bd.state]; rfl
  have N0 := Fr.nil n0
  show own_G p.tables e below s (Q_rmS1U Z o0 o1 w0 k0 cs fm h0 n0) ({ frames := 4, cells := 2, slots := 3, locals := 57 } : Room).cells ({ frames := 4, cells := 2, slots := 3, locals := 57 } : Room).slots _
  refine own_thr (a := s₁.setTop (mkF m 0 #[.val (.ref o0), .val (.ref o1), .val (.int 0), .val (.int 1), .val .null, .unset] [])) (fun t kt => castTop (ef_rmS1U m o0 o1) kt) ?_
  refine own_thr (a := s₁.setTop (mkF m 1 #[.val (.ref o0), .val (.ref o1), .val (.int 0), .val (.int 1), .val .null, .unset] [(.ref o0)])) (fun t kt => ?_) ?_
  · refine XS.aloadN X0.here hx rfl (hb hby d4_0) rfl rfl ?_
    exact kt
  obtain ⟨T1, X1, e1, st1⟩ := initO X0 hx hZ hown (hw _ (own_i 22 rfl)) (hw _ (own_i 23 rfl)) (hw _ (own_i 24 rfl)) e0 (g := (mkF m 1 #[.val (.ref o0), .val (.ref o1), .val (.int 0), .val (.int 1), .val .null, .unset] [(.ref o0)])) rfl (by rw [hml]; rfl) rfl (hb hby d4_1) (by decide) (W := 0) (own_q rfl) (by decide)
  refine own_thr (a := T1.setTop (mkF m 4 #[.val (.ref o0), .val (.ref o1), .val (.int 0), .val (.int 1), .val .null, .unset] [])) (fun t kt => st1 t kt) ?_
  refine own_thr (a := T1.setTop (mkF m 27 #[.val (.ref o0), .val (.ref o1), .val (.int 0), .val (.int 1), .val .null, .unset] [])) (fun t kt => ?_) ?_
  · refine XS.iloadN X1.here hx rfl (hb hby d4_4) rfl ?_
    refine XS.ifYes X1.here hx rfl (pc0 := 5) (pc' := 27) rfl (hb hby d4_5) rfl ((if0 _ _).trans (feq (by decide)).2) (by decide) (by decide) ?_
    exact kt
  obtain ⟨T2, X2, e2, st2⟩ := getS2 X1 hx hZ hown (host := "") (Or.inl (hw _ (own_i 47 rfl))) Via.refl e1 (hKs.1.ext hO.2) (g := (mkF m 27 #[.val (.ref o0), .val (.ref o1), .val (.int 0), .val (.int 1), .val .null, .unset] [])) rfl (hb hby d4_27)
  refine own_thr (a := T2.setTop (mkF m 30 #[.val (.ref o0), .val (.ref o1), .val (.int 0), .val (.int 1), .val .null, .unset] [(.int cs)])) (fun t kt => st2 t kt) ?_
  refine own_thr (a := T2.setTop (mkF m 36 #[.val (.ref o0), .val (.ref o1), .val (.int 0), .val (.int 1), .val .null, .unset] [(.int 1), (.int 0), (.ref o1)])) (fun t kt => ?_) ?_
  · refine XS.ifNo X2.here hx rfl (hb hby d4_30) rfl ((if0 _ _).trans (feq hKs.2.1).1) ?_
    refine XS.aloadN X2.here hx rfl (hb hby d4_33) rfl rfl ?_
    refine XS.iloadN X2.here hx rfl (hb hby d4_34) rfl ?_
    refine XS.iloadN X2.here hx rfl (hb hby d4_35) rfl ?_
    exact kt
  obtain ⟨_, _, ⟨T3, L3, k3, n3⟩, -, X3, ⟨Lc3, hQ3, l3, y3, z3⟩, st3⟩ := Jvm.LawKit.callS X2 hx (y := own_m8) hown (mvT hZ (hw _ (own_i 61 rfl))) (mvT hZ (hw _ (own_i 62 rfl))) (mvT hZ (hw _ (own_i 63 rfl))) (mvT hZ (hw _ (own_i 64 rfl))) (by decide) (backOf (W := 0) (rmK31U l Z a0 hw [] o1 w0 k0 cs fm h0 n0 Z0 V_o1 hl0 hr0 hKs hO) hZ (hw _ (own_i 64 rfl)) (hw _ (own_i 63 rfl)) (by decide) (by decide)) (g := (mkF m 36 #[.val (.ref o0), .val (.ref o1), .val (.int 0), .val (.int 1), .val .null, .unset] [(.int 1), (.int 0), (.ref o1)])) rfl (by rw [hml]; rfl) (argsL := [(.ref o1), (.int 0), (.int 1)]) (rest := []) (lenOf pd__28_5bCII_29_5bB rfl) rfl (own_q rfl) (hb hby d4_36) (fun _ _ => ⟨rfl, e2, (by decide : 0 + 2 ≤ _), (by decide : 0 + 3 ≤ _)⟩)
  dsimp only [Pt.U, Pt.locs, Pt.cells, Pt.slots] at X3 l3 y3 z3 st3 hQ3
  obtain ⟨r3, rfl, N3q, K3, o3_0, o3_1⟩ := hQ3
  have Z4 : n0 ≤ T3.heap.size := Nat.le_trans Z0 K3.1
  have Z4h : h0.size ≤ T3.heap.size := Nat.le_trans (Nat.le_refl h0.size) K3.1
  obtain ⟨lc3, X3, N3⟩ := own_pack X3 l3 y3 z3 N0 N3q (C := 2) (S' := 3) rfl rfl
  refine own_thr (a := T3.setTop (mkF m 39 #[.val (.ref o0), .val (.ref o1), .val (.int 0), .val (.int 1), .val .null, .unset] [(.ref r3)])) (fun t kt => st3 t kt) ?_
  obtain ⟨kq3, Vq3⟩ := o3_0
  have ne_o0_r3 : o0 ≠ r3 := Nat.ne_of_lt (Nat.lt_of_lt_of_le E_o0.lt o3_1)
  have ne_o1_r3 : o1 ≠ r3 := Nat.ne_of_lt (Nat.lt_of_lt_of_le V_o1.lt o3_1)
  have g_r3 : n0 ≤ r3 := Nat.le_trans Z0 o3_1
  have sz_r3 : h0.size ≤ r3 := Nat.le_trans (Nat.le_refl h0.size) o3_1
  refine own_thr (a := T3.setTop (mkF m 45 #[.val (.ref o0), .val (.ref o1), .val (.int 0), .val (.int 1), .val .null, .val (.ref r3)] [(.int 1), (.ref r3), (.ref o0)])) (fun t kt => ?_) ?_
  · refine XS.astore X3.here hx rfl (hb hby d4_39) rfl rfl (l' := #[.val (.ref o0), .val (.ref o1), .val (.int 0), .val (.int 1), .val .null, .val (.ref r3)]) rfl ?_
    refine XS.aloadN X3.here hx rfl (hb hby d4_41) rfl rfl ?_
    refine XS.aload X3.here hx rfl (hb hby d4_42) rfl rfl ?_
    refine XS.iloadN X3.here hx rfl (hb hby d4_44) rfl ?_
    exact kt
  obtain ⟨_, _, ⟨T5, L5, k5, n5⟩, -, X5, ⟨Lc5, hQ5, l5, y5, z5⟩, st5⟩ := Jvm.LawKit.callS X3 hx (y := own_m6) hown (mvT hZ (hw _ (own_i 87 rfl))) (mvT hZ (hw _ (own_i 88 rfl))) (mvT hZ (hw _ (own_i 63 rfl))) (mvT hZ (hw _ (own_i 89 rfl))) (by decide) (backOf (W := 1) (rmCL12 l Z a0 hw [] r3 [(.int (((w0 >>> ((0 : Int32) &&& 31)).toInt8.toInt32).toInt8.toInt32)), (.int (((w0 >>> ((8 : Int32) &&& 31)).toInt8.toInt32).toInt8.toInt32))] kq3 T3.heap n0 Z4 Vq3) hZ (hw _ (own_i 89 rfl)) (hw _ (own_i 63 rfl)) (by decide) (by decide)) (g := (mkF m 45 #[.val (.ref o0), .val (.ref o1), .val (.int 0), .val (.int 1), .val .null, .val (.ref r3)] [(.int 1), (.ref r3), (.ref o0)])) rfl (by rw [hml]; rfl) (argsL := [(.ref r3), (.int 1)]) (rest := [(.ref o0)]) (lenOf pd__28_5bBI_29B rfl) rfl (own_q rfl) (hb hby d4_45) (fun _ _ => ⟨rfl, rfl, (by decide : 2 + 0 ≤ _), (by decide : 3 + 0 ≤ _)⟩)
  dsimp only [Pt.U, Pt.locs, Pt.cells, Pt.slots] at X5 l5 y5 z5 st5 hQ5
  obtain ⟨rfl, N5q, e5⟩ := hQ5
  obtain ⟨lc5, X5, N5⟩ := own_pack X5 l5 y5 z5 N3 N5q (C := 2) (S' := 3) rfl rfl
  refine own_thr (a := T5.setTop (mkF m 48 #[.val (.ref o0), .val (.ref o1), .val (.int 0), .val (.int 1), .val .null, .val (.ref r3)] [(.int (nar .byte ((((-1 : Int32).toUInt32 >>> ((31 : Int32) &&& 31).toUInt32).toInt32).toInt8.toInt32))), (.ref o0)])) (fun t kt => st5 t kt) ?_
  rw [show (nar .byte ((((-1 : Int32).toUInt32 >>> ((31 : Int32) &&& 31).toUInt32).toInt32).toInt8.toInt32)) = (1 : Int32) from by decide]
  obtain ⟨T6, h6, X6, e6, W6, st6⟩ := putFN X5 hx hZ hown (hw _ (own_i 32 rfl)) Via.refl e5 (F_c.keep K3 nin0) (E_o0.keep K3) (Or.inr ⟨(hw _ (own_i 28 rfl)), rfl, hnm⟩) (hw _ (own_i 12 rfl)) (ty := .byte) (v' := (.int 1)) (by decide) rfl rfl (g := (mkF m 48 #[.val (.ref o0), .val (.ref o1), .val (.int 0), .val (.int 1), .val .null, .val (.ref r3)] [(.int 1), (.ref o0)])) rfl rfl (hb hby d4_48)
  have Fw6 := (F_c.keep K3 nin0).same W6
  have Z7 : n0 ≤ h6.size := Nat.le_trans Z4 (Nat.le_of_eq W6.size.symm)
  have Z7h : h0.size ≤ h6.size := Nat.le_trans Z4h (Nat.le_of_eq W6.size.symm)
  obtain ⟨lc6, X6, N6⟩ := own_pack1 X6 N5 g_o0
  refine own_thr (a := T6.setTop (mkF m 51 #[.val (.ref o0), .val (.ref o1), .val (.int 0), .val (.int 1), .val .null, .val (.ref r3)] [])) (fun t kt => st6 t kt) ?_
  refine own_thr (a := T6.setTop (mkF m 54 #[.val (.ref o0), .val (.ref o1), .val (.int 0), .val (.int 1), .val .null, .val (.ref r3)] [(.ref r3), (.ref o0)])) (fun t kt => ?_) ?_
  · refine XS.aloadN X6.here hx rfl (hb hby d4_51) rfl rfl ?_
    refine XS.aload X6.here hx rfl (hb hby d4_52) rfl rfl ?_
    exact kt
  have c8 := ((F_v.keep K3 nin0).other W6 (Or.inr (slot_ne (Or.inr (hw _ (own_i 27 rfl))) (Or.inr (hw _ (own_i 28 rfl))) (by decide) (t := (.array .byte)) (t' := .byte) (by decide) (by decide))))
  obtain ⟨T9, h9, X9, e9, W9, st9⟩ := putF X6 hx hZ hown (host := "") (Or.inl (hw _ (own_i 31 rfl))) Via.refl e6 c8 ((E_o0.keep K3).wr W6) (Or.inr ⟨(hw _ (own_i 27 rfl)), rfl, hnm⟩) (hw _ (own_i 12 rfl)) (ty := (.array .byte)) (by decide) rfl rfl (g := (mkF m 54 #[.val (.ref o0), .val (.ref o1), .val (.int 0), .val (.int 1), .val .null, .val (.ref r3)] [(.ref r3), (.ref o0)])) rfl rfl (hb hby d4_54)
  have Fw9 := c8.same W9
  have Z10 : n0 ≤ h9.size := Nat.le_trans Z7 (Nat.le_of_eq W9.size.symm)
  have Z10h : h0.size ≤ h9.size := Nat.le_trans Z7h (Nat.le_of_eq W9.size.symm)
  obtain ⟨lc9, X9, N9⟩ := own_pack1 X9 N6 g_o0
  refine own_thr (a := T9.setTop (mkF m 57 #[.val (.ref o0), .val (.ref o1), .val (.int 0), .val (.int 1), .val .null, .val (.ref r3)] [])) (fun t kt => st9 t kt) ?_
  have c11 := (Fw6.other W9 (Or.inr (slot_ne (Or.inr (hw _ (own_i 28 rfl))) (Or.inr (hw _ (own_i 27 rfl))) (by decide) (t := .byte) (t' := (.array .byte)) (by decide) (by decide))))
  have c12 := ((Vq3.other W6 (Ne.symm ne_o0_r3)).other W9 (Ne.symm ne_o0_r3))
  exact own_end X9 hlk (v := none) (fun _ => rfl) (fun fs hr => X9.returnOut hx Bd.returns (hb hby d4_57) hr) (by rw [e9]; exact ⟨rfl, N9, ((((Keep.refl h0 [o0]).trans K3 all0).wr W6 (Or.inl (own_i 0 rfl))).wr W9 (Or.inl (own_i 0 rfl))), (((E_o0.keep K3).wr W6).wr W9), c11, r3, _, Fw9, c12⟩) (by decide : 2 ≤ _) (by decide : 3 ≤ _)
theorem ef_rmC1U (m : MethodId) (o0 : Addr) (o1 : Addr)  : entryFrame m #[(.ref o0), (.ref o1)] 2 = mkF m 0 #[.val (.ref o0), .val (.ref o1)] [] := by first |  (simp [entryFrame, mkF, argsToLocals, Value.category]; done) | rfl
def Q_rmC1U (Z : State) (o0 : Addr) (o1 : Addr) (w0 : Int32) (k0 : ClassId) (cs : Int32) (fm : Value) (h0 : Heap) (n0 : Nat) (v : Option Value) (h : Heap) (L : List Loc) : Prop := v = none ∧ Fr n0 L ∧ Keep h0 h [o0] ∧ Exa Z h o0 "java/lang/String" ∧ Fld Z h o0 "java/lang/String" "coder" "B" (.int 1) ∧ ∃ (b : Addr) (k : ClassId), Fld Z h o0 "java/lang/String" "value" "[B" (.ref b) ∧ Arv Z h b k .byte (2 : Int32) [(.int (((w0 >>> ((0 : Int32) &&& 31)).toInt8.toInt32).toInt8.toInt32)), (.int (((w0 >>> ((8 : Int32) &&& 31)).toInt8.toInt32).toInt8.toInt32))] (.int 0)
theorem rmC1U (l : Launch) (Z : State) (a0 : Array Value) (hw : ∀ d ∈ tables_1, d.before a0 Z = true) (ws : List Jvm.Cond) (o0 : Addr) (o1 : Addr) (w0 : Int32) (k0 : ClassId) (cs : Int32) (fm : Value) (h0 : Heap) (n0 : Nat) (Z0 : n0 ≤ h0.size) (E_o0 : Exa Z h0 o0 "java/lang/String") (F_v : Fld Z h0 o0 "java/lang/String" "value" "[B" .null) (F_c : Fld Z h0 o0 "java/lang/String" "coder" "B" (.int 0)) (V_o1 : Arv Z h0 o1 k0 .char (1 : Int32) [(.int w0)] (.int 0)) (g_o0 : n0 ≤ o0) (ne_o0_o1 : o0 ≠ o1) (hl0 : (255 : Int32) < w0) (hr0 : own_R w0) (hKs : own_K Z cs fm) (hO : Old Z n0 h0) :
    MetFree l own_m10 (head1 (Jvm.Cond.code own_m10 jdk_42_method_3_code 2 none :: ws) ({ frames := 5, cells := 2, slots := 3, locals := 74 } : Room)) (fun a U => a = #[(.ref o0), (.ref o1)] ∧ Z.Warmed39 U.vm ∧ U.heap = h0) (fun _ _ _ _ _ => True) (fun _ U o U' => ∃ v L, o = .returned v ∧ Q_rmC1U Z o0 o1 w0 k0 cs fm h0 n0 v U'.heap L ∧ FrameEnd U o U' L ({ frames := 5, cells := 2, slots := 3, locals := 74 } : Room).cells ({ frames := 5, cells := 2, slots := 3, locals := 74 } : Room).slots) := by
  refine MetFree.of_bodySF (plainFor_of_name pn_java_lang_String) hisR ?_
  intro p e s m args below meth c s₁ Bd hml0 hP hK
  obtain ⟨rfl, hZ, hh⟩ := hP
  have hx := Bd.exec
  have hby := Bd.bytes
  have hml : c.maxLocals = 2 := hml0
  have hown : s.vm.findClass "java/lang/String" = some m.cls := findClass_of_methodNamed Bd.named
  have hnm := (name_of_methodNamed Bd.named Bd.method).1
  have hlk := Bd.notSynchronized
  have X0 : Stand p l e ({ frames := 5, cells := 2, slots := 3, locals := 74 } : Room) s m #[(.ref o0), (.ref o1)] below meth c s₁ [] 0 0 := Stand.of_body Bd
  have e0 : s₁.heap = h0 := by rw [← hh, Bd.state]; rfl
  have N0 := Fr.nil n0
  show own_G p.tables e below s (Q_rmC1U Z o0 o1 w0 k0 cs fm h0 n0) ({ frames := 5, cells := 2, slots := 3, locals := 74 } : Room).cells ({ frames := 5, cells := 2, slots := 3, locals := 74 } : Room).slots _
  refine own_thr (a := s₁.setTop (mkF m 0 #[.val (.ref o0), .val (.ref o1)] [])) (fun t kt => castTop (ef_rmC1U m o0 o1) kt) ?_
  refine own_thr (a := s₁.setTop (mkF m 4 #[.val (.ref o0), .val (.ref o1)] [(.ref o1), (.int 0), (.ref o1), (.ref o0)])) (fun t kt => ?_) ?_
  · refine XS.aloadN X0.here hx rfl (hb hby d3_0) rfl rfl ?_
    refine XS.aloadN X0.here hx rfl (hb hby d3_1) rfl rfl ?_
    refine XS.iconst X0.here hx rfl (hb hby d3_2) ?_
    refine XS.aloadN X0.here hx rfl (hb hby d3_3) rfl rfl ?_
    exact kt
  obtain ⟨cl1, Ar1, -, S1, M1, -, -⟩ := id V_o1
  refine own_thr (a := s₁.setTop (mkF m 6 #[.val (.ref o0), .val (.ref o1)] [.null, (.int 1), (.int 0), (.ref o1), (.ref o0)])) (fun t kt => ?_) ?_
  · refine X0.arraylength hx (by rw [e0]; exact Ar1.1) (State.isArrayOf_alike hZ.alike Ar1.2.1) (g := (mkF m 4 #[.val (.ref o0), .val (.ref o1)] [(.ref o1), (.int 0), (.ref o1), (.ref o0)])) rfl rfl (hb hby d3_4) _ ?_
    rw [len_of S1 M1]
    refine XS.aconstNull X0.here hx rfl (hb hby d3_5) ?_
    exact kt
  obtain ⟨_, _, ⟨T2, L2, k2, n2⟩, -, X2, ⟨Lc2, hQ2, l2, y2, z2⟩, st2⟩ := X0.specialBack hx (y := own_m9) rfl hown (mvT hZ (hw _ (own_i 18 rfl))) (mvT hZ (hw _ (own_i 19 rfl))) (mvT hZ (hw _ (own_i 21 rfl))) (by decide) (backOf (W := 0) (rmS1U l Z a0 hw [] o0 o1 w0 k0 cs fm h0 n0 Z0 E_o0 F_v F_c V_o1 g_o0 ne_o0_o1 hl0 hr0 hKs hO) hZ (hw _ (own_i 21 rfl)) (hw _ (own_i 13 rfl)) (by decide) (by decide)) (g := (mkF m 6 #[.val (.ref o0), .val (.ref o1)] [.null, (.int 1), (.int 0), (.ref o1), (.ref o0)])) rfl (by rw [hml]; rfl) (Steps.refl _) (a := o0) (argsL := [(.ref o1), (.int 0), (.int 1), .null]) (rest := []) (lenOf pd__28_5bCIILjava_2flang_2fVoid_3b_29V rfl) rfl (own_q rfl) (hb hby d3_6) (fun _ _ => ⟨rfl, e0, (by decide : 0 + 2 ≤ _), (by decide : 0 + 3 ≤ _)⟩)
  dsimp only [Pt.U, Pt.locs, Pt.cells, Pt.slots] at X2 l2 y2 z2 st2 hQ2
  obtain ⟨rfl, N2q, K2, o2_e, o2_c, sv2, ks2, o2_v, o2_a⟩ := hQ2
  have Z3 : n0 ≤ T2.heap.size := Nat.le_trans Z0 K2.1
  have Z3h : h0.size ≤ T2.heap.size := Nat.le_trans (Nat.le_refl h0.size) K2.1
  obtain ⟨lc2, X2, N2⟩ := own_pack X2 l2 y2 z2 N0 N2q (C := 2) (S' := 3) rfl rfl
  refine own_thr (a := T2.setTop (mkF m 9 #[.val (.ref o0), .val (.ref o1)] [])) (fun t kt => st2.trans kt) ?_
  exact own_end X2 hlk (v := none) (fun _ => rfl) (fun fs hr => X2.returnOut hx Bd.returns (hb hby d3_9) hr) ⟨rfl, N2, ((Keep.refl h0 [o0]).trans K2 (allS (Or.inl (own_i 0 rfl)) all0)), o2_e, o2_c, sv2, _, o2_v, o2_a⟩ (by decide : 2 ≤ _) (by decide : 3 ≤ _)
theorem ef_rmNL2 (m : MethodId)   : entryFrame m #[(.int 2)] 1 = mkF m 0 #[.val (.int 2)] [] := by first |  (simp [entryFrame, mkF, argsToLocals, Value.category]; done) | rfl
def Q_rmNL2 (Z : State)  (h0 : Heap) (n0 : Nat) (v : Option Value) (h : Heap) (L : List Loc) : Prop := v = some (.int 4) ∧ Fr n0 L ∧ h = h0
theorem rmNL2 (l : Launch) (Z : State) (a0 : Array Value) (hw : ∀ d ∈ tables_1, d.before a0 Z = true) (ws : List Jvm.Cond)  (h0 : Heap) (n0 : Nat) (Z0 : n0 ≤ h0.size) :
    MetFree l own_m3 (head1 (Jvm.Cond.code own_m3 jdk_52_method_3_code 1 (some .int) :: ws) ({ frames := 0, cells := 0, slots := 0, locals := 0 } : Room)) (fun a U => a = #[(.int 2)] ∧ Z.Warmed39 U.vm ∧ U.heap = h0) (fun _ _ _ _ _ => True) (fun _ U o U' => ∃ v L, o = .returned v ∧ Q_rmNL2 Z  h0 n0 v U'.heap L ∧ FrameEnd U o U' L ({ frames := 0, cells := 0, slots := 0, locals := 0 } : Room).cells ({ frames := 0, cells := 0, slots := 0, locals := 0 } : Room).slots) := by
  refine MetFree.of_bodySF (plainFor_of_name pn_java_lang_StringUTF16) hisR ?_
  intro p e s m args below meth c s₁ Bd hml0 hP hK
  obtain ⟨rfl, hZ, hh⟩ := hP
  have hx := Bd.exec
  have hby := Bd.bytes
  have hml : c.maxLocals = 1 := hml0
  have hown : s.vm.findClass "java/lang/StringUTF16" = some m.cls := findClass_of_methodNamed Bd.named
  have hnm := (name_of_methodNamed Bd.named Bd.method).1
  have hlk := Bd.notSynchronized
  have X0 : Stand p l e ({ frames := 0, cells := 0, slots := 0, locals := 0 } : Room) s m #[(.int 2)] below meth c s₁ [] 0 0 := Stand.of_body Bd
  have e0 : s₁.heap = h0 := by rw [← hh, Bd.state]; rfl
  have N0 := Fr.nil n0
  show own_G p.tables e below s (Q_rmNL2 Z  h0 n0) ({ frames := 0, cells := 0, slots := 0, locals := 0 } : Room).cells ({ frames := 0, cells := 0, slots := 0, locals := 0 } : Room).slots _
  refine own_thr (a := s₁.setTop (mkF m 0 #[.val (.int 2)] [])) (fun t kt => castTop (ef_rmNL2 m ) kt) ?_
  refine own_thr (a := s₁.setTop (mkF m 58 #[.val (.int 2)] [(.int 4)])) (fun t kt => ?_) ?_
  · refine XS.iloadN X0.here hx rfl (hb hby d17_0) rfl ?_
    refine XS.ifYes X0.here hx rfl (pc0 := 1) (pc' := 12) rfl (hb hby d17_1) rfl ((if0 _ _).trans (flt (by decide)).2.1) (by decide) (by decide) ?_
    refine XS.iloadN X0.here hx rfl (hb hby d17_12) rfl ?_
    refine X0.ldcInt hx hown (mvT hZ (hw _ (own_i 77 rfl))) (g := (mkF m 13 #[.val (.int 2)] [(.int 2)])) rfl (hb hby d17_13) _ ?_
    refine XS.icmpYes X0.here hx rfl (pc0 := 15) (pc' := 55) rfl (hb hby d17_15) rfl (tlt (by decide)).1 (by decide) (by decide) ?_
    refine XS.iloadN X0.here hx rfl (hb hby d17_55) rfl ?_
    refine XS.iconst X0.here hx rfl (hb hby d17_56) ?_
    refine XS.ishl X0.here hx rfl (hb hby d17_57) rfl ?_
    exact kt
  exact own_end X0 hlk (v := some (.int 4)) (fun h => by rw [Bd.returns] at h; cases h) (fun fs hr => retI X0 hx Bd.returns (hb hby d17_58) hr) (by rw [e0]; exact ⟨rfl, N0, rfl⟩) (by decide : 0 ≤ _) (by decide : 0 ≤ _)
theorem ef_rmNB2 (m : MethodId)   : entryFrame m #[(.int 2)] 1 = mkF m 0 #[.val (.int 2)] [] := by first |  (simp [entryFrame, mkF, argsToLocals, Value.category]; done) | rfl
def Q_rmNB2 (Z : State)  (h0 : Heap) (n0 : Nat) (v : Option Value) (h : Heap) (L : List Loc) : Prop := ∃ r : Addr, v = some (.ref r) ∧ Fr n0 L ∧ Keep h0 h [] ∧ (∃ k : ClassId, Arv Z h r k .byte (4 : Int32) [(.int 0), (.int 0), (.int 0), (.int 0)] (.int 0)) ∧ h0.size ≤ r
theorem rmNB2 (l : Launch) (Z : State) (a0 : Array Value) (hw : ∀ d ∈ tables_1, d.before a0 Z = true) (ws : List Jvm.Cond)  (h0 : Heap) (n0 : Nat) (Z0 : n0 ≤ h0.size) :
    MetFree l own_m4 (head1 (Jvm.Cond.code own_m4 jdk_52_method_2_code 1 (some (.array .byte)) :: ws) ({ frames := 1, cells := 1, slots := 4, locals := 12 } : Room)) (fun a U => a = #[(.int 2)] ∧ Z.Warmed39 U.vm ∧ U.heap = h0) (fun _ _ _ _ _ => True) (fun _ U o U' => ∃ v L, o = .returned v ∧ Q_rmNB2 Z  h0 n0 v U'.heap L ∧ FrameEnd U o U' L ({ frames := 1, cells := 1, slots := 4, locals := 12 } : Room).cells ({ frames := 1, cells := 1, slots := 4, locals := 12 } : Room).slots) := by
  refine MetFree.of_bodySF (plainFor_of_name pn_java_lang_StringUTF16) hisR ?_
  intro p e s m args below meth c s₁ Bd hml0 hP hK
  obtain ⟨rfl, hZ, hh⟩ := hP
  have hx := Bd.exec
  have hby := Bd.bytes
  have hml : c.maxLocals = 1 := hml0
  have hown : s.vm.findClass "java/lang/StringUTF16" = some m.cls := findClass_of_methodNamed Bd.named
  have hnm := (name_of_methodNamed Bd.named Bd.method).1
  have hlk := Bd.notSynchronized
  have X0 : Stand p l e ({ frames := 1, cells := 1, slots := 4, locals := 12 } : Room) s m #[(.int 2)] below meth c s₁ [] 0 0 := Stand.of_body Bd
  have e0 : s₁.heap = h0 := by rw [← hh, Bd.state]; rfl
  have N0 := Fr.nil n0
  show own_G p.tables e below s (Q_rmNB2 Z  h0 n0) ({ frames := 1, cells := 1, slots := 4, locals := 12 } : Room).cells ({ frames := 1, cells := 1, slots := 4, locals := 12 } : Room).slots _
  refine own_thr (a := s₁.setTop (mkF m 0 #[.val (.int 2)] [])) (fun t kt => castTop (ef_rmNB2 m ) kt) ?_
  refine own_thr (a := s₁.setTop (mkF m 1 #[.val (.int 2)] [(.int 2)])) (fun t kt => ?_) ?_
  · refine XS.iloadN X0.here hx rfl (hb hby d16_0) rfl ?_
    exact kt
  obtain ⟨_, _, ⟨T1, L1, k1, n1⟩, -, X1, ⟨Lc1, hQ1, l1, y1, z1⟩, st1⟩ := Jvm.LawKit.callS X0 hx (y := own_m3) hown (mvT hZ (hw _ (own_i 74 rfl))) (mvT hZ (hw _ (own_i 75 rfl))) (mvT hZ (hw _ (own_i 63 rfl))) (mvT hZ (hw _ (own_i 76 rfl))) (by decide) (backOf (W := 0) (rmNL2 l Z a0 hw []  h0 n0 Z0) hZ (hw _ (own_i 76 rfl)) (hw _ (own_i 63 rfl)) (by decide) (by decide)) (g := (mkF m 1 #[.val (.int 2)] [(.int 2)])) rfl (by rw [hml]; rfl) (argsL := [(.int 2)]) (rest := []) (lenOf pd__28I_29I rfl) rfl (own_q rfl) (hb hby d16_1) (fun _ _ => ⟨rfl, e0, (by decide : 0 + 0 ≤ _), (by decide : 0 + 0 ≤ _)⟩)
  dsimp only [Pt.U, Pt.locs, Pt.cells, Pt.slots] at X1 l1 y1 z1 st1 hQ1
  obtain ⟨rfl, N1q, e1⟩ := hQ1
  obtain ⟨lc1, X1, N1⟩ := own_pack X1 l1 y1 z1 N0 N1q (C := 0) (S' := 0) rfl rfl
  refine own_thr (a := T1.setTop (mkF m 4 #[.val (.int 2)] [(.int 4)])) (fun t kt => st1 t kt) ?_
  obtain ⟨T2, h2, k2, X2, e2, E2, A2, st2⟩ := newP X1 hx hZ (hw _ (own_i 26 rfl)) e1 (g := (mkF m 4 #[.val (.int 2)] [(.int 4)])) rfl (hb hby d16_4) rfl (by decide) (cap := 4) (by decide) (by decide) (by decide : 0 + 1 ≤ _) (by decide : 0 + 4 ≤ _)
  obtain ⟨b2, g2⟩ : ∃ z, z = h0.size := ⟨_, rfl⟩
  rw [← g2] at A2 st2
  have g_b2 : n0 ≤ b2 := Nat.le_trans Z0 (Nat.le_of_eq g2.symm)
  have sz_b2 : h0.size ≤ b2 := Nat.le_trans (Nat.le_refl h0.size) (Nat.le_of_eq g2.symm)
  have V_b2 : Arv Z h2 b2 k2 .byte (4 : Int32) [(.int 0), (.int 0), (.int 0), (.int 0)] (.int 0) := (Arv.new A2 (by decide)).pad (pad_rep [] (.int 0) 4)
  have Z3 : n0 ≤ h2.size := Nat.le_trans Z0 E2.1
  have Z3h : h0.size ≤ h2.size := Nat.le_trans (Nat.le_refl h0.size) E2.1
  refine own_thr (a := T2.setTop (mkF m 6 #[.val (.int 2)] [(.ref b2)])) (fun t kt => st2 t kt) ?_
  exact own_end X2 hlk (v := some (.ref b2)) (fun h => by rw [Bd.returns] at h; cases h) (fun fs hr => retA X2 hx Bd.returns rfl rfl (hb hby d16_6) hr) (by rw [e2]; exact ⟨b2, rfl, N1, ((Keep.refl h0 []).ext E2), ⟨_, V_b2⟩, sz_b2⟩) (by decide : 1 ≤ _) (by decide : 4 ≤ _)
theorem ef_rmTB2 (m : MethodId) (o0 : Addr)  : entryFrame m #[(.ref o0), (.int 0), (.int 2)] 5 = mkF m 0 #[.val (.ref o0), .val (.int 0), .val (.int 2), .unset, .unset] [] := by first |  (simp [entryFrame, mkF, argsToLocals, Value.category]; done) | rfl
def Q_rmTB2 (Z : State) (o0 : Addr) (w0 : Int32) (w1 : Int32) (k0 : ClassId) (cs : Int32) (fm : Value) (h0 : Heap) (n0 : Nat) (v : Option Value) (h : Heap) (L : List Loc) : Prop := ∃ r : Addr, v = some (.ref r) ∧ Fr n0 L ∧ Keep h0 h [] ∧ (∃ k : ClassId, Arv Z h r k .byte (4 : Int32) [(.int (((w0 >>> ((0 : Int32) &&& 31)).toInt8.toInt32).toInt8.toInt32)), (.int (((w0 >>> ((8 : Int32) &&& 31)).toInt8.toInt32).toInt8.toInt32)), (.int (((w1 >>> ((0 : Int32) &&& 31)).toInt8.toInt32).toInt8.toInt32)), (.int (((w1 >>> ((8 : Int32) &&& 31)).toInt8.toInt32).toInt8.toInt32))] (.int 0)) ∧ h0.size ≤ r
theorem rmTB2 (l : Launch) (Z : State) (a0 : Array Value) (hw : ∀ d ∈ tables_1, d.before a0 Z = true) (ws : List Jvm.Cond) (o0 : Addr) (w0 : Int32) (w1 : Int32) (k0 : ClassId) (cs : Int32) (fm : Value) (h0 : Heap) (n0 : Nat) (Z0 : n0 ≤ h0.size) (V_o0 : Arv Z h0 o0 k0 .char (2 : Int32) [(.int w0), (.int w1)] (.int 0)) (hKs : own_K Z cs fm) (hO : Old Z n0 h0) :
    MetFree l own_m5 (head1 (Jvm.Cond.code own_m5 jdk_52_method_14_code 5 (some (.array .byte)) :: ws) ({ frames := 2, cells := 1, slots := 4, locals := 24 } : Room)) (fun a U => a = #[(.ref o0), (.int 0), (.int 2)] ∧ Z.Warmed39 U.vm ∧ U.heap = h0) (fun _ _ _ _ _ => True) (fun _ U o U' => ∃ v L, o = .returned v ∧ Q_rmTB2 Z o0 w0 w1 k0 cs fm h0 n0 v U'.heap L ∧ FrameEnd U o U' L ({ frames := 2, cells := 1, slots := 4, locals := 24 } : Room).cells ({ frames := 2, cells := 1, slots := 4, locals := 24 } : Room).slots) := by
  refine MetFree.of_bodySF (plainFor_of_name pn_java_lang_StringUTF16) hisR ?_
  intro p e s m args below meth c s₁ Bd hml0 hP hK
  obtain ⟨rfl, hZ, hh⟩ := hP
  have hx := Bd.exec
  have hby := Bd.bytes
  have hml : c.maxLocals = 5 := hml0
  have hown : s.vm.findClass "java/lang/StringUTF16" = some m.cls := findClass_of_methodNamed Bd.named
  have hnm := (name_of_methodNamed Bd.named Bd.method).1
  have hlk := Bd.notSynchronized
  have X0 : Stand p l e ({ frames := 2, cells := 1, slots := 4, locals := 24 } : Room) s m #[(.ref o0), (.int 0), (.int 2)] below meth c s₁ [] 0 0 := Stand.of_body Bd
  have e0 : s₁.heap = h0 := by rw [← hh, Bd.state]; rfl
  have N0 := Fr.nil n0
  show own_G p.tables e below s (Q_rmTB2 Z o0 w0 w1 k0 cs fm h0 n0) ({ frames := 2, cells := 1, slots := 4, locals := 24 } : Room).cells ({ frames := 2, cells := 1, slots := 4, locals := 24 } : Room).slots _
  refine own_thr (a := s₁.setTop (mkF m 0 #[.val (.ref o0), .val (.int 0), .val (.int 2), .unset, .unset] [])) (fun t kt => castTop (ef_rmTB2 m o0) kt) ?_
  refine own_thr (a := s₁.setTop (mkF m 1 #[.val (.ref o0), .val (.int 0), .val (.int 2), .unset, .unset] [(.int 2)])) (fun t kt => ?_) ?_
  · refine XS.iloadN X0.here hx rfl (hb hby d15_0) rfl ?_
    exact kt
  obtain ⟨_, _, ⟨T1, L1, k1, n1⟩, -, X1, ⟨Lc1, hQ1, l1, y1, z1⟩, st1⟩ := Jvm.LawKit.callS X0 hx (y := own_m4) hown (mvT hZ (hw _ (own_i 71 rfl))) (mvT hZ (hw _ (own_i 72 rfl))) (mvT hZ (hw _ (own_i 63 rfl))) (mvT hZ (hw _ (own_i 73 rfl))) (by decide) (backOf (W := 0) (rmNB2 l Z a0 hw []  h0 n0 Z0) hZ (hw _ (own_i 73 rfl)) (hw _ (own_i 63 rfl)) (by decide) (by decide)) (g := (mkF m 1 #[.val (.ref o0), .val (.int 0), .val (.int 2), .unset, .unset] [(.int 2)])) rfl (by rw [hml]; rfl) (argsL := [(.int 2)]) (rest := []) (lenOf pd__28I_29_5bB rfl) rfl (own_q rfl) (hb hby d15_1) (fun _ _ => ⟨rfl, e0, (by decide : 0 + 1 ≤ _), (by decide : 0 + 4 ≤ _)⟩)
  dsimp only [Pt.U, Pt.locs, Pt.cells, Pt.slots] at X1 l1 y1 z1 st1 hQ1
  obtain ⟨r1, rfl, N1q, K1, o1_0, o1_1⟩ := hQ1
  have Z2 : n0 ≤ T1.heap.size := Nat.le_trans Z0 K1.1
  have Z2h : h0.size ≤ T1.heap.size := Nat.le_trans (Nat.le_refl h0.size) K1.1
  obtain ⟨lc1, X1, N1⟩ := own_pack X1 l1 y1 z1 N0 N1q (C := 1) (S' := 4) rfl rfl
  refine own_thr (a := T1.setTop (mkF m 4 #[.val (.ref o0), .val (.int 0), .val (.int 2), .unset, .unset] [(.ref r1)])) (fun t kt => st1 t kt) ?_
  obtain ⟨kq1, Vq1⟩ := o1_0
  have ne_o0_r1 : o0 ≠ r1 := Nat.ne_of_lt (Nat.lt_of_lt_of_le V_o0.lt o1_1)
  have g_r1 : n0 ≤ r1 := Nat.le_trans Z0 o1_1
  have sz_r1 : h0.size ≤ r1 := Nat.le_trans (Nat.le_refl h0.size) o1_1
  refine own_thr (a := T1.setTop (mkF m 19 #[.val (.ref o0), .val (.int 0), .val (.int 2), .val (.ref r1), .val (.int 0)] [(.int 0), (.ref o0), (.int 0), (.ref r1)])) (fun t kt => ?_) ?_
  · refine XS.astoreN X1.here hx rfl (hb hby d15_4) rfl rfl (l' := #[.val (.ref o0), .val (.int 0), .val (.int 2), .val (.ref r1), .unset]) rfl ?_
    refine XS.iconst X1.here hx rfl (hb hby d15_5) ?_
    refine XS.istore X1.here hx rfl (hb hby d15_6) rfl (l' := #[.val (.ref o0), .val (.int 0), .val (.int 2), .val (.ref r1), .val (.int 0)]) rfl ?_
    refine XS.iload X1.here hx rfl (hb hby d15_8) rfl ?_
    refine XS.iloadN X1.here hx rfl (hb hby d15_10) rfl ?_
    refine XS.icmpNo X1.here hx rfl (hb hby d15_11) rfl (tlt (by decide)).2.1 ?_
    refine XS.aloadN X1.here hx rfl (hb hby d15_14) rfl rfl ?_
    refine XS.iload X1.here hx rfl (hb hby d15_15) rfl ?_
    refine XS.aloadN X1.here hx rfl (hb hby d15_17) rfl rfl ?_
    refine XS.iloadN X1.here hx rfl (hb hby d15_18) rfl ?_
    exact kt
  obtain ⟨cl3, Ar3, -, S3, M3, H3, -⟩ := id (V_o0.keep K1 nin0)
  have hin3 : ¬ ((0 : Int32) < 0 ∨ cl3.slots.size ≤ ((0 : Int32)).toNatClampNeg) := inb_of S3 ⟨by decide, by decide⟩
  have hat3 : cl3.slots[((0 : Int32)).toNatClampNeg]? = some (.int w0) := Has.at H3 hin3 rfl
  refine own_thr (a := T1.setTop (mkF m 20 #[.val (.ref o0), .val (.int 0), .val (.int 2), .val (.ref r1), .val (.int 0)] [(.int w0), (.int 0), (.ref r1)])) (fun t kt => ?_) ?_
  · refine X1.caload hx (j := (0 : Int32)) (v := (.int w0)) Ar3.1 (State.isArrayOf_alike hZ.alike Ar3.2.1) Ar3.2.2 hin3 hat3 (g := (mkF m 19 #[.val (.ref o0), .val (.int 0), .val (.int 2), .val (.ref r1), .val (.int 0)] [(.int 0), (.ref o0), (.int 0), (.ref r1)])) rfl rfl (hb hby d15_19) _ ?_
    exact kt
  obtain ⟨_, _, ⟨T4, L4, k4, n4⟩, -, X4, ⟨Lc4, hQ4, l4, y4, z4⟩, st4⟩ := Jvm.LawKit.callS X1 hx (y := own_m2) hown (mvT hZ (hw _ (own_i 78 rfl))) (mvT hZ (hw _ (own_i 79 rfl))) (mvT hZ (hw _ (own_i 63 rfl))) (mvT hZ (hw _ (own_i 80 rfl))) (by decide) (backOf (W := 0) (rmPC20 l Z a0 hw [] r1 w0 (0 : Int32) (0 : Int32) (0 : Int32) (0 : Int32) kq1 cs fm T1.heap n0 Z2 Vq1 g_r1 hKs (hO.keep K1 all0)) hZ (hw _ (own_i 80 rfl)) (hw _ (own_i 63 rfl)) (by decide) (by decide)) (g := (mkF m 20 #[.val (.ref o0), .val (.int 0), .val (.int 2), .val (.ref r1), .val (.int 0)] [(.int w0), (.int 0), (.ref r1)])) rfl (by rw [hml]; rfl) (argsL := [(.ref r1), (.int 0), (.int w0)]) (rest := []) (lenOf pd__28_5bBII_29V rfl) rfl (own_q rfl) (hb hby d15_20) (fun _ _ => ⟨rfl, rfl, (by decide : 1 + 0 ≤ _), (by decide : 4 + 0 ≤ _)⟩)
  dsimp only [Pt.U, Pt.locs, Pt.cells, Pt.slots] at X4 l4 y4 z4 st4 hQ4
  obtain ⟨rfl, N4q, K4, o4_0⟩ := hQ4
  have Z5 : n0 ≤ T4.heap.size := Nat.le_trans Z2 K4.1
  have Z5h : h0.size ≤ T4.heap.size := Nat.le_trans Z2h K4.1
  obtain ⟨lc4, X4, N4⟩ := own_pack X4 l4 y4 z4 N1 N4q (C := 1) (S' := 4) rfl rfl
  refine own_thr (a := T4.setTop (mkF m 23 #[.val (.ref o0), .val (.int 0), .val (.int 2), .val (.ref r1), .val (.int 0)] [])) (fun t kt => st4 t kt) ?_
  refine own_thr (a := T4.setTop (mkF m 19 #[.val (.ref o0), .val (.int 1), .val (.int 2), .val (.ref r1), .val (.int 1)] [(.int 1), (.ref o0), (.int 1), (.ref r1)])) (fun t kt => ?_) ?_
  · refine XS.iinc X4.here hx rfl (hb hby d15_23) rfl (l' := #[.val (.ref o0), .val (.int 1), .val (.int 2), .val (.ref r1), .val (.int 0)]) rfl ?_
    refine XS.iinc X4.here hx rfl (hb hby d15_26) rfl (l' := #[.val (.ref o0), .val (.int 1), .val (.int 2), .val (.ref r1), .val (.int 1)]) rfl ?_
    refine XS.goto X4.here hx rfl (pc0 := 29) (pc' := 8) rfl (hb hby d15_29) (by decide) (by decide) ?_
    refine XS.iload X4.here hx rfl (hb hby d15_8) rfl ?_
    refine XS.iloadN X4.here hx rfl (hb hby d15_10) rfl ?_
    refine XS.icmpNo X4.here hx rfl (hb hby d15_11) rfl (tlt (by decide)).2.1 ?_
    refine XS.aloadN X4.here hx rfl (hb hby d15_14) rfl rfl ?_
    refine XS.iload X4.here hx rfl (hb hby d15_15) rfl ?_
    refine XS.aloadN X4.here hx rfl (hb hby d15_17) rfl rfl ?_
    refine XS.iloadN X4.here hx rfl (hb hby d15_18) rfl ?_
    exact kt
  obtain ⟨cl6, Ar6, -, S6, M6, H6, -⟩ := id ((V_o0.keep K1 nin0).keep K4 (ninS ne_o0_r1 nin0))
  have hin6 : ¬ ((1 : Int32) < 0 ∨ cl6.slots.size ≤ ((1 : Int32)).toNatClampNeg) := inb_of S6 ⟨by decide, by decide⟩
  have hat6 : cl6.slots[((1 : Int32)).toNatClampNeg]? = some (.int w1) := Has.at H6 hin6 rfl
  refine own_thr (a := T4.setTop (mkF m 20 #[.val (.ref o0), .val (.int 1), .val (.int 2), .val (.ref r1), .val (.int 1)] [(.int w1), (.int 1), (.ref r1)])) (fun t kt => ?_) ?_
  · refine X4.caload hx (j := (1 : Int32)) (v := (.int w1)) Ar6.1 (State.isArrayOf_alike hZ.alike Ar6.2.1) Ar6.2.2 hin6 hat6 (g := (mkF m 19 #[.val (.ref o0), .val (.int 1), .val (.int 2), .val (.ref r1), .val (.int 1)] [(.int 1), (.ref o0), (.int 1), (.ref r1)])) rfl rfl (hb hby d15_19) _ ?_
    exact kt
  obtain ⟨_, _, ⟨T7, L7, k7, n7⟩, -, X7, ⟨Lc7, hQ7, l7, y7, z7⟩, st7⟩ := Jvm.LawKit.callS X4 hx (y := own_m2) hown (mvT hZ (hw _ (own_i 78 rfl))) (mvT hZ (hw _ (own_i 79 rfl))) (mvT hZ (hw _ (own_i 63 rfl))) (mvT hZ (hw _ (own_i 80 rfl))) (by decide) (backOf (W := 0) (rmPC21 l Z a0 hw [] r1 w1 (((w0 >>> ((0 : Int32) &&& 31)).toInt8.toInt32).toInt8.toInt32) (((w0 >>> ((8 : Int32) &&& 31)).toInt8.toInt32).toInt8.toInt32) (0 : Int32) (0 : Int32) kq1 cs fm T4.heap n0 Z5 o4_0 g_r1 hKs ((hO.keep K1 all0).keep K4 (allS g_r1 all0))) hZ (hw _ (own_i 80 rfl)) (hw _ (own_i 63 rfl)) (by decide) (by decide)) (g := (mkF m 20 #[.val (.ref o0), .val (.int 1), .val (.int 2), .val (.ref r1), .val (.int 1)] [(.int w1), (.int 1), (.ref r1)])) rfl (by rw [hml]; rfl) (argsL := [(.ref r1), (.int 1), (.int w1)]) (rest := []) (lenOf pd__28_5bBII_29V rfl) rfl (own_q rfl) (hb hby d15_20) (fun _ _ => ⟨rfl, rfl, (by decide : 1 + 0 ≤ _), (by decide : 4 + 0 ≤ _)⟩)
  dsimp only [Pt.U, Pt.locs, Pt.cells, Pt.slots] at X7 l7 y7 z7 st7 hQ7
  obtain ⟨rfl, N7q, K7, o7_0⟩ := hQ7
  have Z8 : n0 ≤ T7.heap.size := Nat.le_trans Z5 K7.1
  have Z8h : h0.size ≤ T7.heap.size := Nat.le_trans Z5h K7.1
  obtain ⟨lc7, X7, N7⟩ := own_pack X7 l7 y7 z7 N4 N7q (C := 1) (S' := 4) rfl rfl
  refine own_thr (a := T7.setTop (mkF m 23 #[.val (.ref o0), .val (.int 1), .val (.int 2), .val (.ref r1), .val (.int 1)] [])) (fun t kt => st7 t kt) ?_
  refine own_thr (a := T7.setTop (mkF m 33 #[.val (.ref o0), .val (.int 2), .val (.int 2), .val (.ref r1), .val (.int 2)] [(.ref r1)])) (fun t kt => ?_) ?_
  · refine XS.iinc X7.here hx rfl (hb hby d15_23) rfl (l' := #[.val (.ref o0), .val (.int 2), .val (.int 2), .val (.ref r1), .val (.int 1)]) rfl ?_
    refine XS.iinc X7.here hx rfl (hb hby d15_26) rfl (l' := #[.val (.ref o0), .val (.int 2), .val (.int 2), .val (.ref r1), .val (.int 2)]) rfl ?_
    refine XS.goto X7.here hx rfl (pc0 := 29) (pc' := 8) rfl (hb hby d15_29) (by decide) (by decide) ?_
    refine XS.iload X7.here hx rfl (hb hby d15_8) rfl ?_
    refine XS.iloadN X7.here hx rfl (hb hby d15_10) rfl ?_
    refine XS.icmpYes X7.here hx rfl (pc0 := 11) (pc' := 32) rfl (hb hby d15_11) rfl (flt (by decide)).2.1 (by decide) (by decide) ?_
    refine XS.aloadN X7.here hx rfl (hb hby d15_32) rfl rfl ?_
    exact kt
  exact own_end X7 hlk (v := some (.ref r1)) (fun h => by rw [Bd.returns] at h; cases h) (fun fs hr => retA X7 hx Bd.returns rfl rfl (hb hby d15_33) hr) ⟨r1, rfl, N7, ((((Keep.refl h0 []).trans K1 all0).trans K4 (allS (Or.inr sz_r1) all0)).trans K7 (allS (Or.inr sz_r1) all0)), ⟨_, o7_0⟩, sz_r1⟩ (by decide : 1 ≤ _) (by decide : 4 ≤ _)
theorem ef_rmCL22 (m : MethodId) (o0 : Addr)  : entryFrame m #[(.ref o0), (.int 2)] 2 = mkF m 0 #[.val (.ref o0), .val (.int 2)] [] := by first |  (simp [entryFrame, mkF, argsToLocals, Value.category]; done) | rfl
def Q_rmCL22 (Z : State) (o0 : Addr) (vs : List Value) (k0 : ClassId) (h0 : Heap) (n0 : Nat) (v : Option Value) (h : Heap) (L : List Loc) : Prop := v = some (.int (nar .byte ((((0 : Int32).toUInt32 >>> ((31 : Int32) &&& 31).toUInt32).toInt32).toInt8.toInt32))) ∧ Fr n0 L ∧ h = h0
theorem rmCL22 (l : Launch) (Z : State) (a0 : Array Value) (hw : ∀ d ∈ tables_1, d.before a0 Z = true) (ws : List Jvm.Cond) (o0 : Addr) (vs : List Value) (k0 : ClassId) (h0 : Heap) (n0 : Nat) (Z0 : n0 ≤ h0.size) (V_o0 : Arv Z h0 o0 k0 .byte (2 : Int32) vs (.int 0)) :
    MetFree l own_m6 (head1 (Jvm.Cond.code own_m6 jdk_52_method_15_code 2 (some .byte) :: ws) ({ frames := 0, cells := 0, slots := 0, locals := 0 } : Room)) (fun a U => a = #[(.ref o0), (.int 2)] ∧ Z.Warmed39 U.vm ∧ U.heap = h0) (fun _ _ _ _ _ => True) (fun _ U o U' => ∃ v L, o = .returned v ∧ Q_rmCL22 Z o0 vs k0 h0 n0 v U'.heap L ∧ FrameEnd U o U' L ({ frames := 0, cells := 0, slots := 0, locals := 0 } : Room).cells ({ frames := 0, cells := 0, slots := 0, locals := 0 } : Room).slots) := by
  refine MetFree.of_bodySF (plainFor_of_name pn_java_lang_StringUTF16) hisR ?_
  intro p e s m args below meth c s₁ Bd hml0 hP hK
  obtain ⟨rfl, hZ, hh⟩ := hP
  have hx := Bd.exec
  have hby := Bd.bytes
  have hml : c.maxLocals = 2 := hml0
  have hown : s.vm.findClass "java/lang/StringUTF16" = some m.cls := findClass_of_methodNamed Bd.named
  have hnm := (name_of_methodNamed Bd.named Bd.method).1
  have hlk := Bd.notSynchronized
  have X0 : Stand p l e ({ frames := 0, cells := 0, slots := 0, locals := 0 } : Room) s m #[(.ref o0), (.int 2)] below meth c s₁ [] 0 0 := Stand.of_body Bd
  have e0 : s₁.heap = h0 := by rw [← hh, Bd.state]; rfl
  have N0 := Fr.nil n0
  show own_G p.tables e below s (Q_rmCL22 Z o0 vs k0 h0 n0) ({ frames := 0, cells := 0, slots := 0, locals := 0 } : Room).cells ({ frames := 0, cells := 0, slots := 0, locals := 0 } : Room).slots _
  refine own_thr (a := s₁.setTop (mkF m 0 #[.val (.ref o0), .val (.int 2)] [])) (fun t kt => castTop (ef_rmCL22 m o0) kt) ?_
  refine own_thr (a := s₁.setTop (mkF m 2 #[.val (.ref o0), .val (.int 2)] [(.ref o0), (.int 2)])) (fun t kt => ?_) ?_
  · refine XS.iloadN X0.here hx rfl (hb hby d20_0) rfl ?_
    refine XS.aloadN X0.here hx rfl (hb hby d20_1) rfl rfl ?_
    exact kt
  obtain ⟨cl1, Ar1, -, S1, M1, -, -⟩ := id V_o0
  refine own_thr (a := s₁.setTop (mkF m 8 #[.val (.ref o0), .val (.int 2)] [(.int ((((0 : Int32).toUInt32 >>> ((31 : Int32) &&& 31).toUInt32).toInt32).toInt8.toInt32))])) (fun t kt => ?_) ?_
  · refine X0.arraylength hx (by rw [e0]; exact Ar1.1) (State.isArrayOf_alike hZ.alike Ar1.2.1) (g := (mkF m 2 #[.val (.ref o0), .val (.int 2)] [(.ref o0), (.int 2)])) rfl rfl (hb hby d20_2) _ ?_
    rw [len_of S1 M1]
    refine XS.isub X0.here hx rfl (hb hby d20_3) rfl ?_
    refine XS.bipush X0.here hx rfl (hb hby d20_4) ?_
    refine XS.iushr X0.here hx rfl (hb hby d20_6) rfl ?_
    refine XS.i2b X0.here hx rfl (hb hby d20_7) rfl ?_
    exact kt
  exact own_end X0 hlk (v := some (.int (nar .byte ((((0 : Int32).toUInt32 >>> ((31 : Int32) &&& 31).toUInt32).toInt32).toInt8.toInt32)))) (fun h => by rw [Bd.returns] at h; cases h) (fun fs hr => retN X0 hx (t := .byte) Bd.returns (by simp) (hb hby d20_8) hr) (by rw [e0]; exact ⟨rfl, N0, rfl⟩) (by decide : 0 ≤ _) (by decide : 0 ≤ _)
theorem ef_rmCL24 (m : MethodId) (o0 : Addr)  : entryFrame m #[(.ref o0), (.int 2)] 2 = mkF m 0 #[.val (.ref o0), .val (.int 2)] [] := by first |  (simp [entryFrame, mkF, argsToLocals, Value.category]; done) | rfl
def Q_rmCL24 (Z : State) (o0 : Addr) (vs : List Value) (k0 : ClassId) (h0 : Heap) (n0 : Nat) (v : Option Value) (h : Heap) (L : List Loc) : Prop := v = some (.int (nar .byte ((((-2 : Int32).toUInt32 >>> ((31 : Int32) &&& 31).toUInt32).toInt32).toInt8.toInt32))) ∧ Fr n0 L ∧ h = h0
theorem rmCL24 (l : Launch) (Z : State) (a0 : Array Value) (hw : ∀ d ∈ tables_1, d.before a0 Z = true) (ws : List Jvm.Cond) (o0 : Addr) (vs : List Value) (k0 : ClassId) (h0 : Heap) (n0 : Nat) (Z0 : n0 ≤ h0.size) (V_o0 : Arv Z h0 o0 k0 .byte (4 : Int32) vs (.int 0)) :
    MetFree l own_m6 (head1 (Jvm.Cond.code own_m6 jdk_52_method_15_code 2 (some .byte) :: ws) ({ frames := 0, cells := 0, slots := 0, locals := 0 } : Room)) (fun a U => a = #[(.ref o0), (.int 2)] ∧ Z.Warmed39 U.vm ∧ U.heap = h0) (fun _ _ _ _ _ => True) (fun _ U o U' => ∃ v L, o = .returned v ∧ Q_rmCL24 Z o0 vs k0 h0 n0 v U'.heap L ∧ FrameEnd U o U' L ({ frames := 0, cells := 0, slots := 0, locals := 0 } : Room).cells ({ frames := 0, cells := 0, slots := 0, locals := 0 } : Room).slots) := by
  refine MetFree.of_bodySF (plainFor_of_name pn_java_lang_StringUTF16) hisR ?_
  intro p e s m args below meth c s₁ Bd hml0 hP hK
  obtain ⟨rfl, hZ, hh⟩ := hP
  have hx := Bd.exec
  have hby := Bd.bytes
  have hml : c.maxLocals = 2 := hml0
  have hown : s.vm.findClass "java/lang/StringUTF16" = some m.cls := findClass_of_methodNamed Bd.named
  have hnm := (name_of_methodNamed Bd.named Bd.method).1
  have hlk := Bd.notSynchronized
  have X0 : Stand p l e ({ frames := 0, cells := 0, slots := 0, locals := 0 } : Room) s m #[(.ref o0), (.int 2)] below meth c s₁ [] 0 0 := Stand.of_body Bd
  have e0 : s₁.heap = h0 := by rw [← hh, Bd.state]; rfl
  have N0 := Fr.nil n0
  show own_G p.tables e below s (Q_rmCL24 Z o0 vs k0 h0 n0) ({ frames := 0, cells := 0, slots := 0, locals := 0 } : Room).cells ({ frames := 0, cells := 0, slots := 0, locals := 0 } : Room).slots _
  refine own_thr (a := s₁.setTop (mkF m 0 #[.val (.ref o0), .val (.int 2)] [])) (fun t kt => castTop (ef_rmCL24 m o0) kt) ?_
  refine own_thr (a := s₁.setTop (mkF m 2 #[.val (.ref o0), .val (.int 2)] [(.ref o0), (.int 2)])) (fun t kt => ?_) ?_
  · refine XS.iloadN X0.here hx rfl (hb hby d20_0) rfl ?_
    refine XS.aloadN X0.here hx rfl (hb hby d20_1) rfl rfl ?_
    exact kt
  obtain ⟨cl1, Ar1, -, S1, M1, -, -⟩ := id V_o0
  refine own_thr (a := s₁.setTop (mkF m 8 #[.val (.ref o0), .val (.int 2)] [(.int ((((-2 : Int32).toUInt32 >>> ((31 : Int32) &&& 31).toUInt32).toInt32).toInt8.toInt32))])) (fun t kt => ?_) ?_
  · refine X0.arraylength hx (by rw [e0]; exact Ar1.1) (State.isArrayOf_alike hZ.alike Ar1.2.1) (g := (mkF m 2 #[.val (.ref o0), .val (.int 2)] [(.ref o0), (.int 2)])) rfl rfl (hb hby d20_2) _ ?_
    rw [len_of S1 M1]
    refine XS.isub X0.here hx rfl (hb hby d20_3) rfl ?_
    refine XS.bipush X0.here hx rfl (hb hby d20_4) ?_
    refine XS.iushr X0.here hx rfl (hb hby d20_6) rfl ?_
    refine XS.i2b X0.here hx rfl (hb hby d20_7) rfl ?_
    exact kt
  exact own_end X0 hlk (v := some (.int (nar .byte ((((-2 : Int32).toUInt32 >>> ((31 : Int32) &&& 31).toUInt32).toInt32).toInt8.toInt32)))) (fun h => by rw [Bd.returns] at h; cases h) (fun fs hr => retN X0 hx (t := .byte) Bd.returns (by simp) (hb hby d20_8) hr) (by rw [e0]; exact ⟨rfl, N0, rfl⟩) (by decide : 0 ≤ _) (by decide : 0 ≤ _)
theorem ef_rmK52LL (m : MethodId) (o0 : Addr) (o2 : Addr)  : entryFrame m #[(.ref o0), (.int 0), (.ref o2), (.int 0), (.int 2)] 7 = mkF m 0 #[.val (.ref o0), .val (.int 0), .val (.ref o2), .val (.int 0), .val (.int 2), .unset, .unset] [] := by first |  (simp [entryFrame, mkF, argsToLocals, Value.category]; done) | rfl
def Q_rmK52LL (Z : State) (o0 : Addr) (o2 : Addr) (w0 : Int32) (w1 : Int32) (k0 : ClassId) (k2 : ClassId) (h0 : Heap) (n0 : Nat) (v : Option Value) (h : Heap) (L : List Loc) : Prop := v = some (.int 2) ∧ Fr n0 L ∧ Keep h0 h [o2] ∧ Arv Z h o2 k2 .byte (2 : Int32) [(.int ((w0.toInt8.toInt32).toInt8.toInt32)), (.int ((w1.toInt8.toInt32).toInt8.toInt32))] (.int 0)
theorem rmK52LL (l : Launch) (Z : State) (a0 : Array Value) (hw : ∀ d ∈ tables_1, d.before a0 Z = true) (ws : List Jvm.Cond) (o0 : Addr) (o2 : Addr) (w0 : Int32) (w1 : Int32) (k0 : ClassId) (k2 : ClassId) (h0 : Heap) (n0 : Nat) (Z0 : n0 ≤ h0.size) (V_o0 : Arv Z h0 o0 k0 .char (2 : Int32) [(.int w0), (.int w1)] (.int 0)) (V_o2 : Arv Z h0 o2 k2 .byte (2 : Int32) [(.int 0), (.int 0)] (.int 0)) (g_o2 : n0 ≤ o2) (ne_o0_o2 : o0 ≠ o2) (hl0 : ¬ (255 : Int32) < w0) (hl1 : ¬ (255 : Int32) < w1) :
    MetFree l own_m7 (head1 (Jvm.Cond.code own_m7 jdk_52_method_21_code 7 (some .int) :: ws) ({ frames := 0, cells := 0, slots := 0, locals := 0 } : Room)) (fun a U => a = #[(.ref o0), (.int 0), (.ref o2), (.int 0), (.int 2)] ∧ Z.Warmed39 U.vm ∧ U.heap = h0) (fun _ _ _ _ _ => True) (fun _ U o U' => ∃ v L, o = .returned v ∧ Q_rmK52LL Z o0 o2 w0 w1 k0 k2 h0 n0 v U'.heap L ∧ FrameEnd U o U' L ({ frames := 0, cells := 0, slots := 0, locals := 0 } : Room).cells ({ frames := 0, cells := 0, slots := 0, locals := 0 } : Room).slots) := by
  refine MetFree.of_bodySF (plainFor_of_name pn_java_lang_StringUTF16) hisR ?_
  intro p e s m args below meth c s₁ Bd hml0 hP hK
  obtain ⟨rfl, hZ, hh⟩ := hP
  have hx := Bd.exec
  have hby := Bd.bytes
  have hml : c.maxLocals = 7 := hml0
  have hown : s.vm.findClass "java/lang/StringUTF16" = some m.cls := findClass_of_methodNamed Bd.named
  have hnm := (name_of_methodNamed Bd.named Bd.method).1
  have hlk := Bd.notSynchronized
  have X0 : Stand p l e ({ frames := 0, cells := 0, slots := 0, locals := 0 } : Room) s m #[(.ref o0), (.int 0), (.ref o2), (.int 0), (.int 2)] below meth c s₁ [] 0 0 := Stand.of_body Bd
  have e0 : s₁.heap = h0 := by rw [← hh, Bd.state]; rfl
  have N0 := Fr.nil n0
  show own_G p.tables e below s (Q_rmK52LL Z o0 o2 w0 w1 k0 k2 h0 n0) ({ frames := 0, cells := 0, slots := 0, locals := 0 } : Room).cells ({ frames := 0, cells := 0, slots := 0, locals := 0 } : Room).slots _
  refine own_thr (a := s₁.setTop (mkF m 0 #[.val (.ref o0), .val (.int 0), .val (.ref o2), .val (.int 0), .val (.int 2), .unset, .unset] [])) (fun t kt => castTop (ef_rmK52LL m o0 o2) kt) ?_
  refine own_thr (a := s₁.setTop (mkF m 12 #[.val (.ref o0), .val (.int 0), .val (.ref o2), .val (.int 0), .val (.int 2), .val (.int 0), .unset] [(.int 0), (.ref o0)])) (fun t kt => ?_) ?_
  · refine XS.iconst X0.here hx rfl (hb hby d14_0) ?_
    refine XS.istore X0.here hx rfl (hb hby d14_1) rfl (l' := #[.val (.ref o0), .val (.int 0), .val (.ref o2), .val (.int 0), .val (.int 2), .val (.int 0), .unset]) rfl ?_
    refine XS.iload X0.here hx rfl (hb hby d14_3) rfl ?_
    refine XS.iload X0.here hx rfl (hb hby d14_5) rfl ?_
    refine XS.icmpNo X0.here hx rfl (hb hby d14_7) rfl (tlt (by decide)).2.1 ?_
    refine XS.aloadN X0.here hx rfl (hb hby d14_10) rfl rfl ?_
    refine XS.iloadN X0.here hx rfl (hb hby d14_11) rfl ?_
    exact kt
  obtain ⟨cl1, Ar1, -, S1, M1, H1, -⟩ := id V_o0
  have hin1 : ¬ ((0 : Int32) < 0 ∨ cl1.slots.size ≤ ((0 : Int32)).toNatClampNeg) := inb_of S1 ⟨by decide, by decide⟩
  have hat1 : cl1.slots[((0 : Int32)).toNatClampNeg]? = some (.int w0) := Has.at H1 hin1 rfl
  refine own_thr (a := s₁.setTop (mkF m 31 #[.val (.ref o0), .val (.int 0), .val (.ref o2), .val (.int 0), .val (.int 2), .val (.int 0), .val (.int w0)] [(.int (w0.toInt8.toInt32)), (.int 0), (.ref o2)])) (fun t kt => ?_) ?_
  · refine X0.caload hx (j := (0 : Int32)) (v := (.int w0)) (by rw [e0]; exact Ar1.1) (State.isArrayOf_alike hZ.alike Ar1.2.1) Ar1.2.2 hin1 hat1 (g := (mkF m 12 #[.val (.ref o0), .val (.int 0), .val (.ref o2), .val (.int 0), .val (.int 2), .val (.int 0), .unset] [(.int 0), (.ref o0)])) rfl rfl (hb hby d14_12) _ ?_
    refine XS.istore X0.here hx rfl (hb hby d14_13) rfl (l' := #[.val (.ref o0), .val (.int 0), .val (.ref o2), .val (.int 0), .val (.int 2), .val (.int 0), .val (.int w0)]) rfl ?_
    refine XS.iload X0.here hx rfl (hb hby d14_15) rfl ?_
    refine XS.sipush X0.here hx rfl (hb hby d14_17) ?_
    refine XS.icmpYes X0.here hx rfl (pc0 := 20) (pc' := 26) rfl (hb hby d14_20) rfl (flt hl0).2.2.2 (by decide) (by decide) ?_
    refine XS.aloadN X0.here hx rfl (hb hby d14_26) rfl rfl ?_
    refine XS.iloadN X0.here hx rfl (hb hby d14_27) rfl ?_
    refine XS.iload X0.here hx rfl (hb hby d14_28) rfl ?_
    refine XS.i2b X0.here hx rfl (hb hby d14_30) rfl ?_
    exact kt
  obtain ⟨cl2, Ar2, q2, S2, M2, H2, G2⟩ := id V_o2
  have hin2 : ¬ ((0 : Int32) < 0 ∨ cl2.slots.size ≤ ((0 : Int32)).toNatClampNeg) := inb_of S2 ⟨by decide, by decide⟩
  obtain ⟨T2, h2, X2, e2, W2, st2⟩ := stB X0 hx hZ e0 Ar2 (j := (0 : Int32)) hin2 (g := (mkF m 31 #[.val (.ref o0), .val (.int 0), .val (.ref o2), .val (.int 0), .val (.int 2), .val (.int 0), .val (.int w0)] [(.int (w0.toInt8.toInt32)), (.int 0), (.ref o2)])) rfl rfl (hb hby d14_31)
  have Z3 : n0 ≤ h2.size := Nat.le_trans Z0 (Nat.le_of_eq W2.size.symm)
  have Z3h : h0.size ≤ h2.size := Nat.le_trans (Nat.le_refl h0.size) (Nat.le_of_eq W2.size.symm)
  have V2 : Arv Z h2 o2 k2 .byte (2 : Int32) [(.int ((w0.toInt8.toInt32).toInt8.toInt32)), (.int 0)] (.int 0) := Arv.set Ar2 q2 S2 M2 H2 G2 (fits_nar_byte _) W2 0 rfl (Nat.le_of_ble_eq_true rfl)
  obtain ⟨lc2, X2, N2⟩ := own_pack1 X2 N0 g_o2
  refine own_thr (a := T2.setTop (mkF m 32 #[.val (.ref o0), .val (.int 0), .val (.ref o2), .val (.int 0), .val (.int 2), .val (.int 0), .val (.int w0)] [])) (fun t kt => st2 t kt) ?_
  refine own_thr (a := T2.setTop (mkF m 12 #[.val (.ref o0), .val (.int 1), .val (.ref o2), .val (.int 1), .val (.int 2), .val (.int 1), .val (.int w0)] [(.int 1), (.ref o0)])) (fun t kt => ?_) ?_
  · refine XS.iinc X2.here hx rfl (hb hby d14_32) rfl (l' := #[.val (.ref o0), .val (.int 1), .val (.ref o2), .val (.int 0), .val (.int 2), .val (.int 0), .val (.int w0)]) rfl ?_
    refine XS.iinc X2.here hx rfl (hb hby d14_35) rfl (l' := #[.val (.ref o0), .val (.int 1), .val (.ref o2), .val (.int 1), .val (.int 2), .val (.int 0), .val (.int w0)]) rfl ?_
    refine XS.iinc X2.here hx rfl (hb hby d14_38) rfl (l' := #[.val (.ref o0), .val (.int 1), .val (.ref o2), .val (.int 1), .val (.int 2), .val (.int 1), .val (.int w0)]) rfl ?_
    refine XS.goto X2.here hx rfl (pc0 := 41) (pc' := 3) rfl (hb hby d14_41) (by decide) (by decide) ?_
    refine XS.iload X2.here hx rfl (hb hby d14_3) rfl ?_
    refine XS.iload X2.here hx rfl (hb hby d14_5) rfl ?_
    refine XS.icmpNo X2.here hx rfl (hb hby d14_7) rfl (tlt (by decide)).2.1 ?_
    refine XS.aloadN X2.here hx rfl (hb hby d14_10) rfl rfl ?_
    refine XS.iloadN X2.here hx rfl (hb hby d14_11) rfl ?_
    exact kt
  obtain ⟨cl4, Ar4, -, S4, M4, H4, -⟩ := id (V_o0.other W2 ne_o0_o2)
  have hin4 : ¬ ((1 : Int32) < 0 ∨ cl4.slots.size ≤ ((1 : Int32)).toNatClampNeg) := inb_of S4 ⟨by decide, by decide⟩
  have hat4 : cl4.slots[((1 : Int32)).toNatClampNeg]? = some (.int w1) := Has.at H4 hin4 rfl
  refine own_thr (a := T2.setTop (mkF m 31 #[.val (.ref o0), .val (.int 1), .val (.ref o2), .val (.int 1), .val (.int 2), .val (.int 1), .val (.int w1)] [(.int (w1.toInt8.toInt32)), (.int 1), (.ref o2)])) (fun t kt => ?_) ?_
  · refine X2.caload hx (j := (1 : Int32)) (v := (.int w1)) (by rw [e2]; exact Ar4.1) (State.isArrayOf_alike hZ.alike Ar4.2.1) Ar4.2.2 hin4 hat4 (g := (mkF m 12 #[.val (.ref o0), .val (.int 1), .val (.ref o2), .val (.int 1), .val (.int 2), .val (.int 1), .val (.int w0)] [(.int 1), (.ref o0)])) rfl rfl (hb hby d14_12) _ ?_
    refine XS.istore X2.here hx rfl (hb hby d14_13) rfl (l' := #[.val (.ref o0), .val (.int 1), .val (.ref o2), .val (.int 1), .val (.int 2), .val (.int 1), .val (.int w1)]) rfl ?_
    refine XS.iload X2.here hx rfl (hb hby d14_15) rfl ?_
    refine XS.sipush X2.here hx rfl (hb hby d14_17) ?_
    refine XS.icmpYes X2.here hx rfl (pc0 := 20) (pc' := 26) rfl (hb hby d14_20) rfl (flt hl1).2.2.2 (by decide) (by decide) ?_
    refine XS.aloadN X2.here hx rfl (hb hby d14_26) rfl rfl ?_
    refine XS.iloadN X2.here hx rfl (hb hby d14_27) rfl ?_
    refine XS.iload X2.here hx rfl (hb hby d14_28) rfl ?_
    refine XS.i2b X2.here hx rfl (hb hby d14_30) rfl ?_
    exact kt
  obtain ⟨cl5, Ar5, q5, S5, M5, H5, G5⟩ := id V2
  have hin5 : ¬ ((1 : Int32) < 0 ∨ cl5.slots.size ≤ ((1 : Int32)).toNatClampNeg) := inb_of S5 ⟨by decide, by decide⟩
  obtain ⟨T5, h5, X5, e5, W5, st5⟩ := stB X2 hx hZ e2 Ar5 (j := (1 : Int32)) hin5 (g := (mkF m 31 #[.val (.ref o0), .val (.int 1), .val (.ref o2), .val (.int 1), .val (.int 2), .val (.int 1), .val (.int w1)] [(.int (w1.toInt8.toInt32)), (.int 1), (.ref o2)])) rfl rfl (hb hby d14_31)
  have Z6 : n0 ≤ h5.size := Nat.le_trans Z3 (Nat.le_of_eq W5.size.symm)
  have Z6h : h0.size ≤ h5.size := Nat.le_trans Z3h (Nat.le_of_eq W5.size.symm)
  have V5 : Arv Z h5 o2 k2 .byte (2 : Int32) [(.int ((w0.toInt8.toInt32).toInt8.toInt32)), (.int ((w1.toInt8.toInt32).toInt8.toInt32))] (.int 0) := Arv.set Ar5 q5 S5 M5 H5 G5 (fits_nar_byte _) W5 1 rfl (Nat.le_of_ble_eq_true rfl)
  obtain ⟨lc5, X5, N5⟩ := own_pack1 X5 N2 g_o2
  refine own_thr (a := T5.setTop (mkF m 32 #[.val (.ref o0), .val (.int 1), .val (.ref o2), .val (.int 1), .val (.int 2), .val (.int 1), .val (.int w1)] [])) (fun t kt => st5 t kt) ?_
  refine own_thr (a := T5.setTop (mkF m 46 #[.val (.ref o0), .val (.int 2), .val (.ref o2), .val (.int 2), .val (.int 2), .val (.int 2), .val (.int w1)] [(.int 2)])) (fun t kt => ?_) ?_
  · refine XS.iinc X5.here hx rfl (hb hby d14_32) rfl (l' := #[.val (.ref o0), .val (.int 2), .val (.ref o2), .val (.int 1), .val (.int 2), .val (.int 1), .val (.int w1)]) rfl ?_
    refine XS.iinc X5.here hx rfl (hb hby d14_35) rfl (l' := #[.val (.ref o0), .val (.int 2), .val (.ref o2), .val (.int 2), .val (.int 2), .val (.int 1), .val (.int w1)]) rfl ?_
    refine XS.iinc X5.here hx rfl (hb hby d14_38) rfl (l' := #[.val (.ref o0), .val (.int 2), .val (.ref o2), .val (.int 2), .val (.int 2), .val (.int 2), .val (.int w1)]) rfl ?_
    refine XS.goto X5.here hx rfl (pc0 := 41) (pc' := 3) rfl (hb hby d14_41) (by decide) (by decide) ?_
    refine XS.iload X5.here hx rfl (hb hby d14_3) rfl ?_
    refine XS.iload X5.here hx rfl (hb hby d14_5) rfl ?_
    refine XS.icmpYes X5.here hx rfl (pc0 := 7) (pc' := 44) rfl (hb hby d14_7) rfl (flt (by decide)).2.1 (by decide) (by decide) ?_
    refine XS.iload X5.here hx rfl (hb hby d14_44) rfl ?_
    exact kt
  exact own_end X5 hlk (v := some (.int 2)) (fun h => by rw [Bd.returns] at h; cases h) (fun fs hr => retI X5 hx Bd.returns (hb hby d14_46) hr) (by rw [e5]; exact ⟨rfl, N5, (((Keep.refl h0 [o2]).wr W2 (Or.inl (own_i 0 rfl))).wr W5 (Or.inl (own_i 0 rfl))), V5⟩) (by decide : 0 ≤ _) (by decide : 0 ≤ _)
theorem ef_rmK32LL (m : MethodId) (o0 : Addr)  : entryFrame m #[(.ref o0), (.int 0), (.int 2)] 6 = mkF m 0 #[.val (.ref o0), .val (.int 0), .val (.int 2), .unset, .unset, .unset] [] := by first |  (simp [entryFrame, mkF, argsToLocals, Value.category]; done) | rfl
def Q_rmK32LL (Z : State) (o0 : Addr) (w0 : Int32) (w1 : Int32) (k0 : ClassId) (cs : Int32) (fm : Value) (h0 : Heap) (n0 : Nat) (v : Option Value) (h : Heap) (L : List Loc) : Prop := ∃ r : Addr, v = some (.ref r) ∧ Fr n0 L ∧ Keep h0 h [] ∧ (∃ k : ClassId, Arv Z h r k .byte (2 : Int32) [(.int ((w0.toInt8.toInt32).toInt8.toInt32)), (.int ((w1.toInt8.toInt32).toInt8.toInt32))] (.int 0)) ∧ h0.size ≤ r
theorem rmK32LL (l : Launch) (Z : State) (a0 : Array Value) (hw : ∀ d ∈ tables_1, d.before a0 Z = true) (ws : List Jvm.Cond) (o0 : Addr) (w0 : Int32) (w1 : Int32) (k0 : ClassId) (cs : Int32) (fm : Value) (h0 : Heap) (n0 : Nat) (Z0 : n0 ≤ h0.size) (V_o0 : Arv Z h0 o0 k0 .char (2 : Int32) [(.int w0), (.int w1)] (.int 0)) (hl0 : ¬ (255 : Int32) < w0) (hl1 : ¬ (255 : Int32) < w1) (hr0 : own_R w0) (hr1 : own_R w1) (hKs : own_K Z cs fm) (hO : Old Z n0 h0) :
    MetFree l own_m8 (head1 (Jvm.Cond.code own_m8 jdk_52_method_16_code 6 (some (.array .byte)) :: ws) ({ frames := 1, cells := 1, slots := 2, locals := 18 } : Room)) (fun a U => a = #[(.ref o0), (.int 0), (.int 2)] ∧ Z.Warmed39 U.vm ∧ U.heap = h0) (fun _ _ _ _ _ => True) (fun _ U o U' => ∃ v L, o = .returned v ∧ Q_rmK32LL Z o0 w0 w1 k0 cs fm h0 n0 v U'.heap L ∧ FrameEnd U o U' L ({ frames := 1, cells := 1, slots := 2, locals := 18 } : Room).cells ({ frames := 1, cells := 1, slots := 2, locals := 18 } : Room).slots) := by
  refine MetFree.of_bodySF (plainFor_of_name pn_java_lang_StringUTF16) hisR ?_
  intro p e s m args below meth c s₁ Bd hml0 hP hK
  obtain ⟨rfl, hZ, hh⟩ := hP
  have hx := Bd.exec
  have hby := Bd.bytes
  have hml : c.maxLocals = 6 := hml0
  have hown : s.vm.findClass "java/lang/StringUTF16" = some m.cls := findClass_of_methodNamed Bd.named
  have hnm := (name_of_methodNamed Bd.named Bd.method).1
  have hlk := Bd.notSynchronized
  have X0 : Stand p l e ({ frames := 1, cells := 1, slots := 2, locals := 18 } : Room) s m #[(.ref o0), (.int 0), (.int 2)] below meth c s₁ [] 0 0 := Stand.of_body Bd
  have e0 : s₁.heap = h0 := by rw [← hh, Bd.state]; rfl
  have N0 := Fr.nil n0
  show own_G p.tables e below s (Q_rmK32LL Z o0 w0 w1 k0 cs fm h0 n0) ({ frames := 1, cells := 1, slots := 2, locals := 18 } : Room).cells ({ frames := 1, cells := 1, slots := 2, locals := 18 } : Room).slots _
  refine own_thr (a := s₁.setTop (mkF m 0 #[.val (.ref o0), .val (.int 0), .val (.int 2), .unset, .unset, .unset] [])) (fun t kt => castTop (ef_rmK32LL m o0) kt) ?_
  refine own_thr (a := s₁.setTop (mkF m 1 #[.val (.ref o0), .val (.int 0), .val (.int 2), .unset, .unset, .unset] [(.int 2)])) (fun t kt => ?_) ?_
  · refine XS.iloadN X0.here hx rfl (hb hby d13_0) rfl ?_
    exact kt
  obtain ⟨T1, h1, k1, X1, e1, E1, A1, st1⟩ := newP X0 hx hZ (hw _ (own_i 26 rfl)) e0 (g := (mkF m 1 #[.val (.ref o0), .val (.int 0), .val (.int 2), .unset, .unset, .unset] [(.int 2)])) rfl (hb hby d13_1) rfl (by decide) (cap := 2) (by decide) (by decide) (by decide : 0 + 1 ≤ _) (by decide : 0 + 2 ≤ _)
  obtain ⟨b1, g1⟩ : ∃ z, z = h0.size := ⟨_, rfl⟩
  rw [← g1] at A1 st1
  have g_b1 : n0 ≤ b1 := Nat.le_trans Z0 (Nat.le_of_eq g1.symm)
  have sz_b1 : h0.size ≤ b1 := Nat.le_trans (Nat.le_refl h0.size) (Nat.le_of_eq g1.symm)
  have lt_o0_b1 : o0 < b1 := Nat.lt_of_lt_of_le V_o0.lt (Nat.le_of_eq g1.symm)
  have ne_o0_b1 : o0 ≠ b1 := Nat.ne_of_lt lt_o0_b1
  have V_b1 : Arv Z h1 b1 k1 .byte (2 : Int32) [(.int 0), (.int 0)] (.int 0) := (Arv.new A1 (by decide)).pad (pad_rep [] (.int 0) 2)
  have Z2 : n0 ≤ h1.size := Nat.le_trans Z0 E1.1
  have Z2h : h0.size ≤ h1.size := Nat.le_trans (Nat.le_refl h0.size) E1.1
  refine own_thr (a := T1.setTop (mkF m 3 #[.val (.ref o0), .val (.int 0), .val (.int 2), .unset, .unset, .unset] [(.ref b1)])) (fun t kt => st1 t kt) ?_
  refine own_thr (a := T1.setTop (mkF m 9 #[.val (.ref o0), .val (.int 0), .val (.int 2), .val (.ref b1), .unset, .unset] [(.int 2), (.int 0), (.ref b1), (.int 0), (.ref o0)])) (fun t kt => ?_) ?_
  · refine XS.astoreN X1.here hx rfl (hb hby d13_3) rfl rfl (l' := #[.val (.ref o0), .val (.int 0), .val (.int 2), .val (.ref b1), .unset, .unset]) rfl ?_
    refine XS.aloadN X1.here hx rfl (hb hby d13_4) rfl rfl ?_
    refine XS.iloadN X1.here hx rfl (hb hby d13_5) rfl ?_
    refine XS.aloadN X1.here hx rfl (hb hby d13_6) rfl rfl ?_
    refine XS.iconst X1.here hx rfl (hb hby d13_7) ?_
    refine XS.iloadN X1.here hx rfl (hb hby d13_8) rfl ?_
    exact kt
  obtain ⟨_, _, ⟨T3, L3, k3, n3⟩, -, X3, ⟨Lc3, hQ3, l3, y3, z3⟩, st3⟩ := Jvm.LawKit.callS X1 hx (y := own_m7) hown (mvT hZ (hw _ (own_i 65 rfl))) (mvT hZ (hw _ (own_i 66 rfl))) (mvT hZ (hw _ (own_i 63 rfl))) (mvT hZ (hw _ (own_i 67 rfl))) (by decide) (backOf (W := 0) (rmK52LL l Z a0 hw [] o0 b1 w0 w1 k0 k1 h1 n0 Z2 (V_o0.ext E1) V_b1 g_b1 ne_o0_b1 hl0 hl1) hZ (hw _ (own_i 67 rfl)) (hw _ (own_i 63 rfl)) (by decide) (by decide)) (g := (mkF m 9 #[.val (.ref o0), .val (.int 0), .val (.int 2), .val (.ref b1), .unset, .unset] [(.int 2), (.int 0), (.ref b1), (.int 0), (.ref o0)])) rfl (by rw [hml]; rfl) (argsL := [(.ref o0), (.int 0), (.ref b1), (.int 0), (.int 2)]) (rest := []) (lenOf pd__28_5bCI_5bBII_29I rfl) rfl (own_q rfl) (hb hby d13_9) (fun _ _ => ⟨rfl, e1, (by decide : 1 + 0 ≤ _), (by decide : 2 + 0 ≤ _)⟩)
  dsimp only [Pt.U, Pt.locs, Pt.cells, Pt.slots] at X3 l3 y3 z3 st3 hQ3
  obtain ⟨rfl, N3q, K3, o3_0⟩ := hQ3
  have Z4 : n0 ≤ T3.heap.size := Nat.le_trans Z2 K3.1
  have Z4h : h0.size ≤ T3.heap.size := Nat.le_trans Z2h K3.1
  obtain ⟨lc3, X3, N3⟩ := own_pack X3 l3 y3 z3 N0 N3q (C := 1) (S' := 2) rfl rfl
  refine own_thr (a := T3.setTop (mkF m 12 #[.val (.ref o0), .val (.int 0), .val (.int 2), .val (.ref b1), .unset, .unset] [(.int 2)])) (fun t kt => st3 t kt) ?_
  refine own_thr (a := T3.setTop (mkF m 58 #[.val (.ref o0), .val (.int 0), .val (.int 2), .val (.ref b1), .val (.int 2), .unset] [(.ref b1)])) (fun t kt => ?_) ?_
  · refine XS.istore X3.here hx rfl (hb hby d13_12) rfl (l' := #[.val (.ref o0), .val (.int 0), .val (.int 2), .val (.ref b1), .val (.int 2), .unset]) rfl ?_
    refine XS.iload X3.here hx rfl (hb hby d13_14) rfl ?_
    refine XS.iloadN X3.here hx rfl (hb hby d13_16) rfl ?_
    refine XS.icmpYes X3.here hx rfl (pc0 := 17) (pc' := 57) rfl (hb hby d13_17) rfl (teq rfl).1 (by decide) (by decide) ?_
    refine XS.aloadN X3.here hx rfl (hb hby d13_57) rfl rfl ?_
    exact kt
  exact own_end X3 hlk (v := some (.ref b1)) (fun h => by rw [Bd.returns] at h; cases h) (fun fs hr => retA X3 hx Bd.returns rfl rfl (hb hby d13_58) hr) ⟨b1, rfl, N3, (((Keep.refl h0 []).ext E1).trans K3 (allS (Or.inr sz_b1) all0)), ⟨_, o3_0⟩, sz_b1⟩ (by decide : 1 ≤ _) (by decide : 2 ≤ _)
theorem ef_rmS2LL (m : MethodId) (o0 : Addr) (o1 : Addr)  : entryFrame m #[(.ref o0), (.ref o1), (.int 0), (.int 2), .null] 6 = mkF m 0 #[.val (.ref o0), .val (.ref o1), .val (.int 0), .val (.int 2), .val .null, .unset] [] := by first |  (simp [entryFrame, mkF, argsToLocals, Value.category]; done) | rfl
def Q_rmS2LL (Z : State) (o0 : Addr) (o1 : Addr) (w0 : Int32) (w1 : Int32) (k0 : ClassId) (cs : Int32) (fm : Value) (h0 : Heap) (n0 : Nat) (v : Option Value) (h : Heap) (L : List Loc) : Prop := v = none ∧ Fr n0 L ∧ Keep h0 h [o0] ∧ Exa Z h o0 "java/lang/String" ∧ Fld Z h o0 "java/lang/String" "coder" "B" (.int 0) ∧ ∃ (b : Addr) (k : ClassId), Fld Z h o0 "java/lang/String" "value" "[B" (.ref b) ∧ Arv Z h b k .byte (2 : Int32) [(.int ((w0.toInt8.toInt32).toInt8.toInt32)), (.int ((w1.toInt8.toInt32).toInt8.toInt32))] (.int 0)
theorem rmS2LL (l : Launch) (Z : State) (a0 : Array Value) (hw : ∀ d ∈ tables_1, d.before a0 Z = true) (ws : List Jvm.Cond) (o0 : Addr) (o1 : Addr) (w0 : Int32) (w1 : Int32) (k0 : ClassId) (cs : Int32) (fm : Value) (h0 : Heap) (n0 : Nat) (Z0 : n0 ≤ h0.size) (E_o0 : Exa Z h0 o0 "java/lang/String") (F_v : Fld Z h0 o0 "java/lang/String" "value" "[B" .null) (F_c : Fld Z h0 o0 "java/lang/String" "coder" "B" (.int 0)) (V_o1 : Arv Z h0 o1 k0 .char (2 : Int32) [(.int w0), (.int w1)] (.int 0)) (g_o0 : n0 ≤ o0) (ne_o0_o1 : o0 ≠ o1) (hl0 : ¬ (255 : Int32) < w0) (hl1 : ¬ (255 : Int32) < w1) (hr0 : own_R w0) (hr1 : own_R w1) (hKs : own_K Z cs fm) (hO : Old Z n0 h0) :
    MetFree l own_m9 (head1 (Jvm.Cond.code own_m9 jdk_42_method_149_code 6 none :: ws) ({ frames := 2, cells := 1, slots := 2, locals := 35 } : Room)) (fun a U => a = #[(.ref o0), (.ref o1), (.int 0), (.int 2), .null] ∧ Z.Warmed39 U.vm ∧ U.heap = h0) (fun _ _ _ _ _ => True) (fun _ U o U' => ∃ v L, o = .returned v ∧ Q_rmS2LL Z o0 o1 w0 w1 k0 cs fm h0 n0 v U'.heap L ∧ FrameEnd U o U' L ({ frames := 2, cells := 1, slots := 2, locals := 35 } : Room).cells ({ frames := 2, cells := 1, slots := 2, locals := 35 } : Room).slots) := by
  refine MetFree.of_bodySF (plainFor_of_name pn_java_lang_String) hisR ?_
  intro p e s m args below meth c s₁ Bd hml0 hP hK
  obtain ⟨rfl, hZ, hh⟩ := hP
  have hx := Bd.exec
  have hby := Bd.bytes
  have hml : c.maxLocals = 6 := hml0
  have hown : s.vm.findClass "java/lang/String" = some m.cls := findClass_of_methodNamed Bd.named
  have hnm := (name_of_methodNamed Bd.named Bd.method).1
  have hlk := Bd.notSynchronized
  have X0 : Stand p l e ({ frames := 2, cells := 1, slots := 2, locals := 35 } : Room) s m #[(.ref o0), (.ref o1), (.int 0), (.int 2), .null] below meth c s₁ [] 0 0 := Stand.of_body Bd
  have e0 : s₁.heap = h0 := by rw [← hh, Bd.state]; rfl
  have N0 := Fr.nil n0
  show own_G p.tables e below s (Q_rmS2LL Z o0 o1 w0 w1 k0 cs fm h0 n0) ({ frames := 2, cells := 1, slots := 2, locals := 35 } : Room).cells ({ frames := 2, cells := 1, slots := 2, locals := 35 } : Room).slots _
  refine own_thr (a := s₁.setTop (mkF m 0 #[.val (.ref o0), .val (.ref o1), .val (.int 0), .val (.int 2), .val .null, .unset] [])) (fun t kt => castTop (ef_rmS2LL m o0 o1) kt) ?_
  refine own_thr (a := s₁.setTop (mkF m 1 #[.val (.ref o0), .val (.ref o1), .val (.int 0), .val (.int 2), .val .null, .unset] [(.ref o0)])) (fun t kt => ?_) ?_
  · refine XS.aloadN X0.here hx rfl (hb hby d4_0) rfl rfl ?_
    exact kt
  obtain ⟨T1, X1, e1, st1⟩ := initO X0 hx hZ hown (hw _ (own_i 22 rfl)) (hw _ (own_i 23 rfl)) (hw _ (own_i 24 rfl)) e0 (g := (mkF m 1 #[.val (.ref o0), .val (.ref o1), .val (.int 0), .val (.int 2), .val .null, .unset] [(.ref o0)])) rfl (by rw [hml]; rfl) rfl (hb hby d4_1) (by decide) (W := 0) (own_q rfl) (by decide)
  refine own_thr (a := T1.setTop (mkF m 4 #[.val (.ref o0), .val (.ref o1), .val (.int 0), .val (.int 2), .val .null, .unset] [])) (fun t kt => st1 t kt) ?_
  refine own_thr (a := T1.setTop (mkF m 27 #[.val (.ref o0), .val (.ref o1), .val (.int 0), .val (.int 2), .val .null, .unset] [])) (fun t kt => ?_) ?_
  · refine XS.iloadN X1.here hx rfl (hb hby d4_4) rfl ?_
    refine XS.ifYes X1.here hx rfl (pc0 := 5) (pc' := 27) rfl (hb hby d4_5) rfl ((if0 _ _).trans (feq (by decide)).2) (by decide) (by decide) ?_
    exact kt
  obtain ⟨T2, X2, e2, st2⟩ := getS2 X1 hx hZ hown (host := "") (Or.inl (hw _ (own_i 47 rfl))) Via.refl e1 (hKs.1.ext hO.2) (g := (mkF m 27 #[.val (.ref o0), .val (.ref o1), .val (.int 0), .val (.int 2), .val .null, .unset] [])) rfl (hb hby d4_27)
  refine own_thr (a := T2.setTop (mkF m 30 #[.val (.ref o0), .val (.ref o1), .val (.int 0), .val (.int 2), .val .null, .unset] [(.int cs)])) (fun t kt => st2 t kt) ?_
  refine own_thr (a := T2.setTop (mkF m 36 #[.val (.ref o0), .val (.ref o1), .val (.int 0), .val (.int 2), .val .null, .unset] [(.int 2), (.int 0), (.ref o1)])) (fun t kt => ?_) ?_
  · refine XS.ifNo X2.here hx rfl (hb hby d4_30) rfl ((if0 _ _).trans (feq hKs.2.1).1) ?_
    refine XS.aloadN X2.here hx rfl (hb hby d4_33) rfl rfl ?_
    refine XS.iloadN X2.here hx rfl (hb hby d4_34) rfl ?_
    refine XS.iloadN X2.here hx rfl (hb hby d4_35) rfl ?_
    exact kt
  obtain ⟨_, _, ⟨T3, L3, k3, n3⟩, -, X3, ⟨Lc3, hQ3, l3, y3, z3⟩, st3⟩ := Jvm.LawKit.callS X2 hx (y := own_m8) hown (mvT hZ (hw _ (own_i 61 rfl))) (mvT hZ (hw _ (own_i 62 rfl))) (mvT hZ (hw _ (own_i 63 rfl))) (mvT hZ (hw _ (own_i 64 rfl))) (by decide) (backOf (W := 0) (rmK32LL l Z a0 hw [] o1 w0 w1 k0 cs fm h0 n0 Z0 V_o1 hl0 hl1 hr0 hr1 hKs hO) hZ (hw _ (own_i 64 rfl)) (hw _ (own_i 63 rfl)) (by decide) (by decide)) (g := (mkF m 36 #[.val (.ref o0), .val (.ref o1), .val (.int 0), .val (.int 2), .val .null, .unset] [(.int 2), (.int 0), (.ref o1)])) rfl (by rw [hml]; rfl) (argsL := [(.ref o1), (.int 0), (.int 2)]) (rest := []) (lenOf pd__28_5bCII_29_5bB rfl) rfl (own_q rfl) (hb hby d4_36) (fun _ _ => ⟨rfl, e2, (by decide : 0 + 1 ≤ _), (by decide : 0 + 2 ≤ _)⟩)
  dsimp only [Pt.U, Pt.locs, Pt.cells, Pt.slots] at X3 l3 y3 z3 st3 hQ3
  obtain ⟨r3, rfl, N3q, K3, o3_0, o3_1⟩ := hQ3
  have Z4 : n0 ≤ T3.heap.size := Nat.le_trans Z0 K3.1
  have Z4h : h0.size ≤ T3.heap.size := Nat.le_trans (Nat.le_refl h0.size) K3.1
  obtain ⟨lc3, X3, N3⟩ := own_pack X3 l3 y3 z3 N0 N3q (C := 1) (S' := 2) rfl rfl
  refine own_thr (a := T3.setTop (mkF m 39 #[.val (.ref o0), .val (.ref o1), .val (.int 0), .val (.int 2), .val .null, .unset] [(.ref r3)])) (fun t kt => st3 t kt) ?_
  obtain ⟨kq3, Vq3⟩ := o3_0
  have ne_o0_r3 : o0 ≠ r3 := Nat.ne_of_lt (Nat.lt_of_lt_of_le E_o0.lt o3_1)
  have ne_o1_r3 : o1 ≠ r3 := Nat.ne_of_lt (Nat.lt_of_lt_of_le V_o1.lt o3_1)
  have g_r3 : n0 ≤ r3 := Nat.le_trans Z0 o3_1
  have sz_r3 : h0.size ≤ r3 := Nat.le_trans (Nat.le_refl h0.size) o3_1
  refine own_thr (a := T3.setTop (mkF m 45 #[.val (.ref o0), .val (.ref o1), .val (.int 0), .val (.int 2), .val .null, .val (.ref r3)] [(.int 2), (.ref r3), (.ref o0)])) (fun t kt => ?_) ?_
  · refine XS.astore X3.here hx rfl (hb hby d4_39) rfl rfl (l' := #[.val (.ref o0), .val (.ref o1), .val (.int 0), .val (.int 2), .val .null, .val (.ref r3)]) rfl ?_
    refine XS.aloadN X3.here hx rfl (hb hby d4_41) rfl rfl ?_
    refine XS.aload X3.here hx rfl (hb hby d4_42) rfl rfl ?_
    refine XS.iloadN X3.here hx rfl (hb hby d4_44) rfl ?_
    exact kt
  obtain ⟨_, _, ⟨T5, L5, k5, n5⟩, -, X5, ⟨Lc5, hQ5, l5, y5, z5⟩, st5⟩ := Jvm.LawKit.callS X3 hx (y := own_m6) hown (mvT hZ (hw _ (own_i 87 rfl))) (mvT hZ (hw _ (own_i 88 rfl))) (mvT hZ (hw _ (own_i 63 rfl))) (mvT hZ (hw _ (own_i 89 rfl))) (by decide) (backOf (W := 1) (rmCL22 l Z a0 hw [] r3 [(.int ((w0.toInt8.toInt32).toInt8.toInt32)), (.int ((w1.toInt8.toInt32).toInt8.toInt32))] kq3 T3.heap n0 Z4 Vq3) hZ (hw _ (own_i 89 rfl)) (hw _ (own_i 63 rfl)) (by decide) (by decide)) (g := (mkF m 45 #[.val (.ref o0), .val (.ref o1), .val (.int 0), .val (.int 2), .val .null, .val (.ref r3)] [(.int 2), (.ref r3), (.ref o0)])) rfl (by rw [hml]; rfl) (argsL := [(.ref r3), (.int 2)]) (rest := [(.ref o0)]) (lenOf pd__28_5bBI_29B rfl) rfl (own_q rfl) (hb hby d4_45) (fun _ _ => ⟨rfl, rfl, (by decide : 1 + 0 ≤ _), (by decide : 2 + 0 ≤ _)⟩)
  dsimp only [Pt.U, Pt.locs, Pt.cells, Pt.slots] at X5 l5 y5 z5 st5 hQ5
  obtain ⟨rfl, N5q, e5⟩ := hQ5
  obtain ⟨lc5, X5, N5⟩ := own_pack X5 l5 y5 z5 N3 N5q (C := 1) (S' := 2) rfl rfl
  refine own_thr (a := T5.setTop (mkF m 48 #[.val (.ref o0), .val (.ref o1), .val (.int 0), .val (.int 2), .val .null, .val (.ref r3)] [(.int (nar .byte ((((0 : Int32).toUInt32 >>> ((31 : Int32) &&& 31).toUInt32).toInt32).toInt8.toInt32))), (.ref o0)])) (fun t kt => st5 t kt) ?_
  rw [show (nar .byte ((((0 : Int32).toUInt32 >>> ((31 : Int32) &&& 31).toUInt32).toInt32).toInt8.toInt32)) = (0 : Int32) from by decide]
  obtain ⟨T6, h6, X6, e6, W6, st6⟩ := putFN X5 hx hZ hown (hw _ (own_i 32 rfl)) Via.refl e5 (F_c.keep K3 nin0) (E_o0.keep K3) (Or.inr ⟨(hw _ (own_i 28 rfl)), rfl, hnm⟩) (hw _ (own_i 12 rfl)) (ty := .byte) (v' := (.int 0)) (by decide) rfl rfl (g := (mkF m 48 #[.val (.ref o0), .val (.ref o1), .val (.int 0), .val (.int 2), .val .null, .val (.ref r3)] [(.int 0), (.ref o0)])) rfl rfl (hb hby d4_48)
  have Fw6 := (F_c.keep K3 nin0).same W6
  have Z7 : n0 ≤ h6.size := Nat.le_trans Z4 (Nat.le_of_eq W6.size.symm)
  have Z7h : h0.size ≤ h6.size := Nat.le_trans Z4h (Nat.le_of_eq W6.size.symm)
  obtain ⟨lc6, X6, N6⟩ := own_pack1 X6 N5 g_o0
  refine own_thr (a := T6.setTop (mkF m 51 #[.val (.ref o0), .val (.ref o1), .val (.int 0), .val (.int 2), .val .null, .val (.ref r3)] [])) (fun t kt => st6 t kt) ?_
  refine own_thr (a := T6.setTop (mkF m 54 #[.val (.ref o0), .val (.ref o1), .val (.int 0), .val (.int 2), .val .null, .val (.ref r3)] [(.ref r3), (.ref o0)])) (fun t kt => ?_) ?_
  · refine XS.aloadN X6.here hx rfl (hb hby d4_51) rfl rfl ?_
    refine XS.aload X6.here hx rfl (hb hby d4_52) rfl rfl ?_
    exact kt
  have c8 := ((F_v.keep K3 nin0).other W6 (Or.inr (slot_ne (Or.inr (hw _ (own_i 27 rfl))) (Or.inr (hw _ (own_i 28 rfl))) (by decide) (t := (.array .byte)) (t' := .byte) (by decide) (by decide))))
  obtain ⟨T9, h9, X9, e9, W9, st9⟩ := putF X6 hx hZ hown (host := "") (Or.inl (hw _ (own_i 31 rfl))) Via.refl e6 c8 ((E_o0.keep K3).wr W6) (Or.inr ⟨(hw _ (own_i 27 rfl)), rfl, hnm⟩) (hw _ (own_i 12 rfl)) (ty := (.array .byte)) (by decide) rfl rfl (g := (mkF m 54 #[.val (.ref o0), .val (.ref o1), .val (.int 0), .val (.int 2), .val .null, .val (.ref r3)] [(.ref r3), (.ref o0)])) rfl rfl (hb hby d4_54)
  have Fw9 := c8.same W9
  have Z10 : n0 ≤ h9.size := Nat.le_trans Z7 (Nat.le_of_eq W9.size.symm)
  have Z10h : h0.size ≤ h9.size := Nat.le_trans Z7h (Nat.le_of_eq W9.size.symm)
  obtain ⟨lc9, X9, N9⟩ := own_pack1 X9 N6 g_o0
  refine own_thr (a := T9.setTop (mkF m 57 #[.val (.ref o0), .val (.ref o1), .val (.int 0), .val (.int 2), .val .null, .val (.ref r3)] [])) (fun t kt => st9 t kt) ?_
  have c11 := (Fw6.other W9 (Or.inr (slot_ne (Or.inr (hw _ (own_i 28 rfl))) (Or.inr (hw _ (own_i 27 rfl))) (by decide) (t := .byte) (t' := (.array .byte)) (by decide) (by decide))))
  have c12 := ((Vq3.other W6 (Ne.symm ne_o0_r3)).other W9 (Ne.symm ne_o0_r3))
  exact own_end X9 hlk (v := none) (fun _ => rfl) (fun fs hr => X9.returnOut hx Bd.returns (hb hby d4_57) hr) (by rw [e9]; exact ⟨rfl, N9, ((((Keep.refl h0 [o0]).trans K3 all0).wr W6 (Or.inl (own_i 0 rfl))).wr W9 (Or.inl (own_i 0 rfl))), (((E_o0.keep K3).wr W6).wr W9), c11, r3, _, Fw9, c12⟩) (by decide : 1 ≤ _) (by decide : 2 ≤ _)
theorem ef_rmC2LL (m : MethodId) (o0 : Addr) (o1 : Addr)  : entryFrame m #[(.ref o0), (.ref o1)] 2 = mkF m 0 #[.val (.ref o0), .val (.ref o1)] [] := by first |  (simp [entryFrame, mkF, argsToLocals, Value.category]; done) | rfl
def Q_rmC2LL (Z : State) (o0 : Addr) (o1 : Addr) (w0 : Int32) (w1 : Int32) (k0 : ClassId) (cs : Int32) (fm : Value) (h0 : Heap) (n0 : Nat) (v : Option Value) (h : Heap) (L : List Loc) : Prop := v = none ∧ Fr n0 L ∧ Keep h0 h [o0] ∧ Exa Z h o0 "java/lang/String" ∧ Fld Z h o0 "java/lang/String" "coder" "B" (.int 0) ∧ ∃ (b : Addr) (k : ClassId), Fld Z h o0 "java/lang/String" "value" "[B" (.ref b) ∧ Arv Z h b k .byte (2 : Int32) [(.int ((w0.toInt8.toInt32).toInt8.toInt32)), (.int ((w1.toInt8.toInt32).toInt8.toInt32))] (.int 0)
theorem rmC2LL (l : Launch) (Z : State) (a0 : Array Value) (hw : ∀ d ∈ tables_1, d.before a0 Z = true) (ws : List Jvm.Cond) (o0 : Addr) (o1 : Addr) (w0 : Int32) (w1 : Int32) (k0 : ClassId) (cs : Int32) (fm : Value) (h0 : Heap) (n0 : Nat) (Z0 : n0 ≤ h0.size) (E_o0 : Exa Z h0 o0 "java/lang/String") (F_v : Fld Z h0 o0 "java/lang/String" "value" "[B" .null) (F_c : Fld Z h0 o0 "java/lang/String" "coder" "B" (.int 0)) (V_o1 : Arv Z h0 o1 k0 .char (2 : Int32) [(.int w0), (.int w1)] (.int 0)) (g_o0 : n0 ≤ o0) (ne_o0_o1 : o0 ≠ o1) (hl0 : ¬ (255 : Int32) < w0) (hl1 : ¬ (255 : Int32) < w1) (hr0 : own_R w0) (hr1 : own_R w1) (hKs : own_K Z cs fm) (hO : Old Z n0 h0) :
    MetFree l own_m10 (head1 (Jvm.Cond.code own_m10 jdk_42_method_3_code 2 none :: ws) ({ frames := 3, cells := 1, slots := 2, locals := 52 } : Room)) (fun a U => a = #[(.ref o0), (.ref o1)] ∧ Z.Warmed39 U.vm ∧ U.heap = h0) (fun _ _ _ _ _ => True) (fun _ U o U' => ∃ v L, o = .returned v ∧ Q_rmC2LL Z o0 o1 w0 w1 k0 cs fm h0 n0 v U'.heap L ∧ FrameEnd U o U' L ({ frames := 3, cells := 1, slots := 2, locals := 52 } : Room).cells ({ frames := 3, cells := 1, slots := 2, locals := 52 } : Room).slots) := by
  refine MetFree.of_bodySF (plainFor_of_name pn_java_lang_String) hisR ?_
  intro p e s m args below meth c s₁ Bd hml0 hP hK
  obtain ⟨rfl, hZ, hh⟩ := hP
  have hx := Bd.exec
  have hby := Bd.bytes
  have hml : c.maxLocals = 2 := hml0
  have hown : s.vm.findClass "java/lang/String" = some m.cls := findClass_of_methodNamed Bd.named
  have hnm := (name_of_methodNamed Bd.named Bd.method).1
  have hlk := Bd.notSynchronized
  have X0 : Stand p l e ({ frames := 3, cells := 1, slots := 2, locals := 52 } : Room) s m #[(.ref o0), (.ref o1)] below meth c s₁ [] 0 0 := Stand.of_body Bd
  have e0 : s₁.heap = h0 := by rw [← hh, Bd.state]; rfl
  have N0 := Fr.nil n0
  show own_G p.tables e below s (Q_rmC2LL Z o0 o1 w0 w1 k0 cs fm h0 n0) ({ frames := 3, cells := 1, slots := 2, locals := 52 } : Room).cells ({ frames := 3, cells := 1, slots := 2, locals := 52 } : Room).slots _
  refine own_thr (a := s₁.setTop (mkF m 0 #[.val (.ref o0), .val (.ref o1)] [])) (fun t kt => castTop (ef_rmC2LL m o0 o1) kt) ?_
  refine own_thr (a := s₁.setTop (mkF m 4 #[.val (.ref o0), .val (.ref o1)] [(.ref o1), (.int 0), (.ref o1), (.ref o0)])) (fun t kt => ?_) ?_
  · refine XS.aloadN X0.here hx rfl (hb hby d3_0) rfl rfl ?_
    refine XS.aloadN X0.here hx rfl (hb hby d3_1) rfl rfl ?_
    refine XS.iconst X0.here hx rfl (hb hby d3_2) ?_
    refine XS.aloadN X0.here hx rfl (hb hby d3_3) rfl rfl ?_
    exact kt
  obtain ⟨cl1, Ar1, -, S1, M1, -, -⟩ := id V_o1
  refine own_thr (a := s₁.setTop (mkF m 6 #[.val (.ref o0), .val (.ref o1)] [.null, (.int 2), (.int 0), (.ref o1), (.ref o0)])) (fun t kt => ?_) ?_
  · refine X0.arraylength hx (by rw [e0]; exact Ar1.1) (State.isArrayOf_alike hZ.alike Ar1.2.1) (g := (mkF m 4 #[.val (.ref o0), .val (.ref o1)] [(.ref o1), (.int 0), (.ref o1), (.ref o0)])) rfl rfl (hb hby d3_4) _ ?_
    rw [len_of S1 M1]
    refine XS.aconstNull X0.here hx rfl (hb hby d3_5) ?_
    exact kt
  obtain ⟨_, _, ⟨T2, L2, k2, n2⟩, -, X2, ⟨Lc2, hQ2, l2, y2, z2⟩, st2⟩ := X0.specialBack hx (y := own_m9) rfl hown (mvT hZ (hw _ (own_i 18 rfl))) (mvT hZ (hw _ (own_i 19 rfl))) (mvT hZ (hw _ (own_i 21 rfl))) (by decide) (backOf (W := 0) (rmS2LL l Z a0 hw [] o0 o1 w0 w1 k0 cs fm h0 n0 Z0 E_o0 F_v F_c V_o1 g_o0 ne_o0_o1 hl0 hl1 hr0 hr1 hKs hO) hZ (hw _ (own_i 21 rfl)) (hw _ (own_i 13 rfl)) (by decide) (by decide)) (g := (mkF m 6 #[.val (.ref o0), .val (.ref o1)] [.null, (.int 2), (.int 0), (.ref o1), (.ref o0)])) rfl (by rw [hml]; rfl) (Steps.refl _) (a := o0) (argsL := [(.ref o1), (.int 0), (.int 2), .null]) (rest := []) (lenOf pd__28_5bCIILjava_2flang_2fVoid_3b_29V rfl) rfl (own_q rfl) (hb hby d3_6) (fun _ _ => ⟨rfl, e0, (by decide : 0 + 1 ≤ _), (by decide : 0 + 2 ≤ _)⟩)
  dsimp only [Pt.U, Pt.locs, Pt.cells, Pt.slots] at X2 l2 y2 z2 st2 hQ2
  obtain ⟨rfl, N2q, K2, o2_e, o2_c, sv2, ks2, o2_v, o2_a⟩ := hQ2
  have Z3 : n0 ≤ T2.heap.size := Nat.le_trans Z0 K2.1
  have Z3h : h0.size ≤ T2.heap.size := Nat.le_trans (Nat.le_refl h0.size) K2.1
  obtain ⟨lc2, X2, N2⟩ := own_pack X2 l2 y2 z2 N0 N2q (C := 1) (S' := 2) rfl rfl
  refine own_thr (a := T2.setTop (mkF m 9 #[.val (.ref o0), .val (.ref o1)] [])) (fun t kt => st2.trans kt) ?_
  exact own_end X2 hlk (v := none) (fun _ => rfl) (fun fs hr => X2.returnOut hx Bd.returns (hb hby d3_9) hr) ⟨rfl, N2, ((Keep.refl h0 [o0]).trans K2 (allS (Or.inl (own_i 0 rfl)) all0)), o2_e, o2_c, sv2, _, o2_v, o2_a⟩ (by decide : 1 ≤ _) (by decide : 2 ≤ _)
theorem ef_rmK52LU (m : MethodId) (o0 : Addr) (o2 : Addr)  : entryFrame m #[(.ref o0), (.int 0), (.ref o2), (.int 0), (.int 2)] 7 = mkF m 0 #[.val (.ref o0), .val (.int 0), .val (.ref o2), .val (.int 0), .val (.int 2), .unset, .unset] [] := by first |  (simp [entryFrame, mkF, argsToLocals, Value.category]; done) | rfl
def Q_rmK52LU (Z : State) (o0 : Addr) (o2 : Addr) (w0 : Int32) (w1 : Int32) (k0 : ClassId) (k2 : ClassId) (h0 : Heap) (n0 : Nat) (v : Option Value) (h : Heap) (L : List Loc) : Prop := v = some (.int 1) ∧ Fr n0 L ∧ Keep h0 h [o2] ∧ Arv Z h o2 k2 .byte (2 : Int32) [(.int ((w0.toInt8.toInt32).toInt8.toInt32)), (.int 0)] (.int 0)
theorem rmK52LU (l : Launch) (Z : State) (a0 : Array Value) (hw : ∀ d ∈ tables_1, d.before a0 Z = true) (ws : List Jvm.Cond) (o0 : Addr) (o2 : Addr) (w0 : Int32) (w1 : Int32) (k0 : ClassId) (k2 : ClassId) (h0 : Heap) (n0 : Nat) (Z0 : n0 ≤ h0.size) (V_o0 : Arv Z h0 o0 k0 .char (2 : Int32) [(.int w0), (.int w1)] (.int 0)) (V_o2 : Arv Z h0 o2 k2 .byte (2 : Int32) [(.int 0), (.int 0)] (.int 0)) (g_o2 : n0 ≤ o2) (ne_o0_o2 : o0 ≠ o2) (hl0 : ¬ (255 : Int32) < w0) (hl1 : (255 : Int32) < w1) :
    MetFree l own_m7 (head1 (Jvm.Cond.code own_m7 jdk_52_method_21_code 7 (some .int) :: ws) ({ frames := 0, cells := 0, slots := 0, locals := 0 } : Room)) (fun a U => a = #[(.ref o0), (.int 0), (.ref o2), (.int 0), (.int 2)] ∧ Z.Warmed39 U.vm ∧ U.heap = h0) (fun _ _ _ _ _ => True) (fun _ U o U' => ∃ v L, o = .returned v ∧ Q_rmK52LU Z o0 o2 w0 w1 k0 k2 h0 n0 v U'.heap L ∧ FrameEnd U o U' L ({ frames := 0, cells := 0, slots := 0, locals := 0 } : Room).cells ({ frames := 0, cells := 0, slots := 0, locals := 0 } : Room).slots) := by
  refine MetFree.of_bodySF (plainFor_of_name pn_java_lang_StringUTF16) hisR ?_
  intro p e s m args below meth c s₁ Bd hml0 hP hK
  obtain ⟨rfl, hZ, hh⟩ := hP
  have hx := Bd.exec
  have hby := Bd.bytes
  have hml : c.maxLocals = 7 := hml0
  have hown : s.vm.findClass "java/lang/StringUTF16" = some m.cls := findClass_of_methodNamed Bd.named
  have hnm := (name_of_methodNamed Bd.named Bd.method).1
  have hlk := Bd.notSynchronized
  have X0 : Stand p l e ({ frames := 0, cells := 0, slots := 0, locals := 0 } : Room) s m #[(.ref o0), (.int 0), (.ref o2), (.int 0), (.int 2)] below meth c s₁ [] 0 0 := Stand.of_body Bd
  have e0 : s₁.heap = h0 := by rw [← hh, Bd.state]; rfl
  have N0 := Fr.nil n0
  show own_G p.tables e below s (Q_rmK52LU Z o0 o2 w0 w1 k0 k2 h0 n0) ({ frames := 0, cells := 0, slots := 0, locals := 0 } : Room).cells ({ frames := 0, cells := 0, slots := 0, locals := 0 } : Room).slots _
  refine own_thr (a := s₁.setTop (mkF m 0 #[.val (.ref o0), .val (.int 0), .val (.ref o2), .val (.int 0), .val (.int 2), .unset, .unset] [])) (fun t kt => castTop (ef_rmK52LU m o0 o2) kt) ?_
  refine own_thr (a := s₁.setTop (mkF m 12 #[.val (.ref o0), .val (.int 0), .val (.ref o2), .val (.int 0), .val (.int 2), .val (.int 0), .unset] [(.int 0), (.ref o0)])) (fun t kt => ?_) ?_
  · refine XS.iconst X0.here hx rfl (hb hby d14_0) ?_
    refine XS.istore X0.here hx rfl (hb hby d14_1) rfl (l' := #[.val (.ref o0), .val (.int 0), .val (.ref o2), .val (.int 0), .val (.int 2), .val (.int 0), .unset]) rfl ?_
    refine XS.iload X0.here hx rfl (hb hby d14_3) rfl ?_
    refine XS.iload X0.here hx rfl (hb hby d14_5) rfl ?_
    refine XS.icmpNo X0.here hx rfl (hb hby d14_7) rfl (tlt (by decide)).2.1 ?_
    refine XS.aloadN X0.here hx rfl (hb hby d14_10) rfl rfl ?_
    refine XS.iloadN X0.here hx rfl (hb hby d14_11) rfl ?_
    exact kt
  obtain ⟨cl1, Ar1, -, S1, M1, H1, -⟩ := id V_o0
  have hin1 : ¬ ((0 : Int32) < 0 ∨ cl1.slots.size ≤ ((0 : Int32)).toNatClampNeg) := inb_of S1 ⟨by decide, by decide⟩
  have hat1 : cl1.slots[((0 : Int32)).toNatClampNeg]? = some (.int w0) := Has.at H1 hin1 rfl
  refine own_thr (a := s₁.setTop (mkF m 31 #[.val (.ref o0), .val (.int 0), .val (.ref o2), .val (.int 0), .val (.int 2), .val (.int 0), .val (.int w0)] [(.int (w0.toInt8.toInt32)), (.int 0), (.ref o2)])) (fun t kt => ?_) ?_
  · refine X0.caload hx (j := (0 : Int32)) (v := (.int w0)) (by rw [e0]; exact Ar1.1) (State.isArrayOf_alike hZ.alike Ar1.2.1) Ar1.2.2 hin1 hat1 (g := (mkF m 12 #[.val (.ref o0), .val (.int 0), .val (.ref o2), .val (.int 0), .val (.int 2), .val (.int 0), .unset] [(.int 0), (.ref o0)])) rfl rfl (hb hby d14_12) _ ?_
    refine XS.istore X0.here hx rfl (hb hby d14_13) rfl (l' := #[.val (.ref o0), .val (.int 0), .val (.ref o2), .val (.int 0), .val (.int 2), .val (.int 0), .val (.int w0)]) rfl ?_
    refine XS.iload X0.here hx rfl (hb hby d14_15) rfl ?_
    refine XS.sipush X0.here hx rfl (hb hby d14_17) ?_
    refine XS.icmpYes X0.here hx rfl (pc0 := 20) (pc' := 26) rfl (hb hby d14_20) rfl (flt hl0).2.2.2 (by decide) (by decide) ?_
    refine XS.aloadN X0.here hx rfl (hb hby d14_26) rfl rfl ?_
    refine XS.iloadN X0.here hx rfl (hb hby d14_27) rfl ?_
    refine XS.iload X0.here hx rfl (hb hby d14_28) rfl ?_
    refine XS.i2b X0.here hx rfl (hb hby d14_30) rfl ?_
    exact kt
  obtain ⟨cl2, Ar2, q2, S2, M2, H2, G2⟩ := id V_o2
  have hin2 : ¬ ((0 : Int32) < 0 ∨ cl2.slots.size ≤ ((0 : Int32)).toNatClampNeg) := inb_of S2 ⟨by decide, by decide⟩
  obtain ⟨T2, h2, X2, e2, W2, st2⟩ := stB X0 hx hZ e0 Ar2 (j := (0 : Int32)) hin2 (g := (mkF m 31 #[.val (.ref o0), .val (.int 0), .val (.ref o2), .val (.int 0), .val (.int 2), .val (.int 0), .val (.int w0)] [(.int (w0.toInt8.toInt32)), (.int 0), (.ref o2)])) rfl rfl (hb hby d14_31)
  have Z3 : n0 ≤ h2.size := Nat.le_trans Z0 (Nat.le_of_eq W2.size.symm)
  have Z3h : h0.size ≤ h2.size := Nat.le_trans (Nat.le_refl h0.size) (Nat.le_of_eq W2.size.symm)
  have V2 : Arv Z h2 o2 k2 .byte (2 : Int32) [(.int ((w0.toInt8.toInt32).toInt8.toInt32)), (.int 0)] (.int 0) := Arv.set Ar2 q2 S2 M2 H2 G2 (fits_nar_byte _) W2 0 rfl (Nat.le_of_ble_eq_true rfl)
  obtain ⟨lc2, X2, N2⟩ := own_pack1 X2 N0 g_o2
  refine own_thr (a := T2.setTop (mkF m 32 #[.val (.ref o0), .val (.int 0), .val (.ref o2), .val (.int 0), .val (.int 2), .val (.int 0), .val (.int w0)] [])) (fun t kt => st2 t kt) ?_
  refine own_thr (a := T2.setTop (mkF m 12 #[.val (.ref o0), .val (.int 1), .val (.ref o2), .val (.int 1), .val (.int 2), .val (.int 1), .val (.int w0)] [(.int 1), (.ref o0)])) (fun t kt => ?_) ?_
  · refine XS.iinc X2.here hx rfl (hb hby d14_32) rfl (l' := #[.val (.ref o0), .val (.int 1), .val (.ref o2), .val (.int 0), .val (.int 2), .val (.int 0), .val (.int w0)]) rfl ?_
    refine XS.iinc X2.here hx rfl (hb hby d14_35) rfl (l' := #[.val (.ref o0), .val (.int 1), .val (.ref o2), .val (.int 1), .val (.int 2), .val (.int 0), .val (.int w0)]) rfl ?_
    refine XS.iinc X2.here hx rfl (hb hby d14_38) rfl (l' := #[.val (.ref o0), .val (.int 1), .val (.ref o2), .val (.int 1), .val (.int 2), .val (.int 1), .val (.int w0)]) rfl ?_
    refine XS.goto X2.here hx rfl (pc0 := 41) (pc' := 3) rfl (hb hby d14_41) (by decide) (by decide) ?_
    refine XS.iload X2.here hx rfl (hb hby d14_3) rfl ?_
    refine XS.iload X2.here hx rfl (hb hby d14_5) rfl ?_
    refine XS.icmpNo X2.here hx rfl (hb hby d14_7) rfl (tlt (by decide)).2.1 ?_
    refine XS.aloadN X2.here hx rfl (hb hby d14_10) rfl rfl ?_
    refine XS.iloadN X2.here hx rfl (hb hby d14_11) rfl ?_
    exact kt
  obtain ⟨cl4, Ar4, -, S4, M4, H4, -⟩ := id (V_o0.other W2 ne_o0_o2)
  have hin4 : ¬ ((1 : Int32) < 0 ∨ cl4.slots.size ≤ ((1 : Int32)).toNatClampNeg) := inb_of S4 ⟨by decide, by decide⟩
  have hat4 : cl4.slots[((1 : Int32)).toNatClampNeg]? = some (.int w1) := Has.at H4 hin4 rfl
  refine own_thr (a := T2.setTop (mkF m 25 #[.val (.ref o0), .val (.int 1), .val (.ref o2), .val (.int 1), .val (.int 2), .val (.int 1), .val (.int w1)] [(.int 1)])) (fun t kt => ?_) ?_
  · refine X2.caload hx (j := (1 : Int32)) (v := (.int w1)) (by rw [e2]; exact Ar4.1) (State.isArrayOf_alike hZ.alike Ar4.2.1) Ar4.2.2 hin4 hat4 (g := (mkF m 12 #[.val (.ref o0), .val (.int 1), .val (.ref o2), .val (.int 1), .val (.int 2), .val (.int 1), .val (.int w0)] [(.int 1), (.ref o0)])) rfl rfl (hb hby d14_12) _ ?_
    refine XS.istore X2.here hx rfl (hb hby d14_13) rfl (l' := #[.val (.ref o0), .val (.int 1), .val (.ref o2), .val (.int 1), .val (.int 2), .val (.int 1), .val (.int w1)]) rfl ?_
    refine XS.iload X2.here hx rfl (hb hby d14_15) rfl ?_
    refine XS.sipush X2.here hx rfl (hb hby d14_17) ?_
    refine XS.icmpNo X2.here hx rfl (hb hby d14_20) rfl (tlt hl1).2.2.2 ?_
    refine XS.iload X2.here hx rfl (hb hby d14_23) rfl ?_
    exact kt
  exact own_end X2 hlk (v := some (.int 1)) (fun h => by rw [Bd.returns] at h; cases h) (fun fs hr => retI X2 hx Bd.returns (hb hby d14_25) hr) (by rw [e2]; exact ⟨rfl, N2, ((Keep.refl h0 [o2]).wr W2 (Or.inl (own_i 0 rfl))), V2⟩) (by decide : 0 ≤ _) (by decide : 0 ≤ _)
theorem ef_rmK52U (m : MethodId) (o0 : Addr) (o2 : Addr)  : entryFrame m #[(.ref o0), (.int 0), (.ref o2), (.int 0), (.int 2)] 7 = mkF m 0 #[.val (.ref o0), .val (.int 0), .val (.ref o2), .val (.int 0), .val (.int 2), .unset, .unset] [] := by first |  (simp [entryFrame, mkF, argsToLocals, Value.category]; done) | rfl
def Q_rmK52U (Z : State) (o0 : Addr) (o2 : Addr) (w0 : Int32) (w1 : Int32) (k0 : ClassId) (k2 : ClassId) (h0 : Heap) (n0 : Nat) (v : Option Value) (h : Heap) (L : List Loc) : Prop := v = some (.int 0) ∧ Fr n0 L ∧ Keep h0 h [o2] ∧ Arv Z h o2 k2 .byte (2 : Int32) [(.int 0), (.int 0)] (.int 0)
theorem rmK52U (l : Launch) (Z : State) (a0 : Array Value) (hw : ∀ d ∈ tables_1, d.before a0 Z = true) (ws : List Jvm.Cond) (o0 : Addr) (o2 : Addr) (w0 : Int32) (w1 : Int32) (k0 : ClassId) (k2 : ClassId) (h0 : Heap) (n0 : Nat) (Z0 : n0 ≤ h0.size) (V_o0 : Arv Z h0 o0 k0 .char (2 : Int32) [(.int w0), (.int w1)] (.int 0)) (V_o2 : Arv Z h0 o2 k2 .byte (2 : Int32) [(.int 0), (.int 0)] (.int 0)) (g_o2 : n0 ≤ o2) (ne_o0_o2 : o0 ≠ o2) (hl0 : (255 : Int32) < w0) :
    MetFree l own_m7 (head1 (Jvm.Cond.code own_m7 jdk_52_method_21_code 7 (some .int) :: ws) ({ frames := 0, cells := 0, slots := 0, locals := 0 } : Room)) (fun a U => a = #[(.ref o0), (.int 0), (.ref o2), (.int 0), (.int 2)] ∧ Z.Warmed39 U.vm ∧ U.heap = h0) (fun _ _ _ _ _ => True) (fun _ U o U' => ∃ v L, o = .returned v ∧ Q_rmK52U Z o0 o2 w0 w1 k0 k2 h0 n0 v U'.heap L ∧ FrameEnd U o U' L ({ frames := 0, cells := 0, slots := 0, locals := 0 } : Room).cells ({ frames := 0, cells := 0, slots := 0, locals := 0 } : Room).slots) := by
  refine MetFree.of_bodySF (plainFor_of_name pn_java_lang_StringUTF16) hisR ?_
  intro p e s m args below meth c s₁ Bd hml0 hP hK
  obtain ⟨rfl, hZ, hh⟩ := hP
  have hx := Bd.exec
  have hby := Bd.bytes
  have hml : c.maxLocals = 7 := hml0
  have hown : s.vm.findClass "java/lang/StringUTF16" = some m.cls := findClass_of_methodNamed Bd.named
  have hnm := (name_of_methodNamed Bd.named Bd.method).1
  have hlk := Bd.notSynchronized
  have X0 : Stand p l e ({ frames := 0, cells := 0, slots := 0, locals := 0 } : Room) s m #[(.ref o0), (.int 0), (.ref o2), (.int 0), (.int 2)] below meth c s₁ [] 0 0 := Stand.of_body Bd
  have e0 : s₁.heap = h0 := by rw [← hh, Bd.state]; rfl
  have N0 := Fr.nil n0
  show own_G p.tables e below s (Q_rmK52U Z o0 o2 w0 w1 k0 k2 h0 n0) ({ frames := 0, cells := 0, slots := 0, locals := 0 } : Room).cells ({ frames := 0, cells := 0, slots := 0, locals := 0 } : Room).slots _
  refine own_thr (a := s₁.setTop (mkF m 0 #[.val (.ref o0), .val (.int 0), .val (.ref o2), .val (.int 0), .val (.int 2), .unset, .unset] [])) (fun t kt => castTop (ef_rmK52U m o0 o2) kt) ?_
  refine own_thr (a := s₁.setTop (mkF m 12 #[.val (.ref o0), .val (.int 0), .val (.ref o2), .val (.int 0), .val (.int 2), .val (.int 0), .unset] [(.int 0), (.ref o0)])) (fun t kt => ?_) ?_
  · refine XS.iconst X0.here hx rfl (hb hby d14_0) ?_
    refine XS.istore X0.here hx rfl (hb hby d14_1) rfl (l' := #[.val (.ref o0), .val (.int 0), .val (.ref o2), .val (.int 0), .val (.int 2), .val (.int 0), .unset]) rfl ?_
    refine XS.iload X0.here hx rfl (hb hby d14_3) rfl ?_
    refine XS.iload X0.here hx rfl (hb hby d14_5) rfl ?_
    refine XS.icmpNo X0.here hx rfl (hb hby d14_7) rfl (tlt (by decide)).2.1 ?_
    refine XS.aloadN X0.here hx rfl (hb hby d14_10) rfl rfl ?_
    refine XS.iloadN X0.here hx rfl (hb hby d14_11) rfl ?_
    exact kt
  obtain ⟨cl1, Ar1, -, S1, M1, H1, -⟩ := id V_o0
  have hin1 : ¬ ((0 : Int32) < 0 ∨ cl1.slots.size ≤ ((0 : Int32)).toNatClampNeg) := inb_of S1 ⟨by decide, by decide⟩
  have hat1 : cl1.slots[((0 : Int32)).toNatClampNeg]? = some (.int w0) := Has.at H1 hin1 rfl
  refine own_thr (a := s₁.setTop (mkF m 25 #[.val (.ref o0), .val (.int 0), .val (.ref o2), .val (.int 0), .val (.int 2), .val (.int 0), .val (.int w0)] [(.int 0)])) (fun t kt => ?_) ?_
  · refine X0.caload hx (j := (0 : Int32)) (v := (.int w0)) (by rw [e0]; exact Ar1.1) (State.isArrayOf_alike hZ.alike Ar1.2.1) Ar1.2.2 hin1 hat1 (g := (mkF m 12 #[.val (.ref o0), .val (.int 0), .val (.ref o2), .val (.int 0), .val (.int 2), .val (.int 0), .unset] [(.int 0), (.ref o0)])) rfl rfl (hb hby d14_12) _ ?_
    refine XS.istore X0.here hx rfl (hb hby d14_13) rfl (l' := #[.val (.ref o0), .val (.int 0), .val (.ref o2), .val (.int 0), .val (.int 2), .val (.int 0), .val (.int w0)]) rfl ?_
    refine XS.iload X0.here hx rfl (hb hby d14_15) rfl ?_
    refine XS.sipush X0.here hx rfl (hb hby d14_17) ?_
    refine XS.icmpNo X0.here hx rfl (hb hby d14_20) rfl (tlt hl0).2.2.2 ?_
    refine XS.iload X0.here hx rfl (hb hby d14_23) rfl ?_
    exact kt
  exact own_end X0 hlk (v := some (.int 0)) (fun h => by rw [Bd.returns] at h; cases h) (fun fs hr => retI X0 hx Bd.returns (hb hby d14_25) hr) (by rw [e0]; exact ⟨rfl, N0, (Keep.refl h0 [o2]), V_o2⟩) (by decide : 0 ≤ _) (by decide : 0 ≤ _)
theorem ef_rmK32U (m : MethodId) (o0 : Addr)  : entryFrame m #[(.ref o0), (.int 0), (.int 2)] 6 = mkF m 0 #[.val (.ref o0), .val (.int 0), .val (.int 2), .unset, .unset, .unset] [] := by first |  (simp [entryFrame, mkF, argsToLocals, Value.category]; done) | rfl
def Q_rmK32U (Z : State) (o0 : Addr) (w0 : Int32) (w1 : Int32) (k0 : ClassId) (cs : Int32) (fm : Value) (h0 : Heap) (n0 : Nat) (v : Option Value) (h : Heap) (L : List Loc) : Prop := ∃ r : Addr, v = some (.ref r) ∧ Fr n0 L ∧ Keep h0 h [] ∧ (∃ k : ClassId, Arv Z h r k .byte (4 : Int32) [(.int (((w0 >>> ((0 : Int32) &&& 31)).toInt8.toInt32).toInt8.toInt32)), (.int (((w0 >>> ((8 : Int32) &&& 31)).toInt8.toInt32).toInt8.toInt32)), (.int (((w1 >>> ((0 : Int32) &&& 31)).toInt8.toInt32).toInt8.toInt32)), (.int (((w1 >>> ((8 : Int32) &&& 31)).toInt8.toInt32).toInt8.toInt32))] (.int 0)) ∧ h0.size ≤ r
theorem rmK32U (l : Launch) (Z : State) (a0 : Array Value) (hw : ∀ d ∈ tables_1, d.before a0 Z = true) (ws : List Jvm.Cond) (o0 : Addr) (w0 : Int32) (w1 : Int32) (k0 : ClassId) (cs : Int32) (fm : Value) (h0 : Heap) (n0 : Nat) (Z0 : n0 ≤ h0.size) (V_o0 : Arv Z h0 o0 k0 .char (2 : Int32) [(.int w0), (.int w1)] (.int 0)) (hu : (255 : Int32) < w0 ∨ ¬ (255 : Int32) < w0 ∧ (255 : Int32) < w1) (hr0 : own_R w0) (hr1 : own_R w1) (hKs : own_K Z cs fm) (hO : Old Z n0 h0) :
    MetFree l own_m8 (head1 (Jvm.Cond.code own_m8 jdk_52_method_16_code 6 (some (.array .byte)) :: ws) ({ frames := 3, cells := 2, slots := 6, locals := 40 } : Room)) (fun a U => a = #[(.ref o0), (.int 0), (.int 2)] ∧ Z.Warmed39 U.vm ∧ U.heap = h0) (fun _ _ _ _ _ => True) (fun _ U o U' => ∃ v L, o = .returned v ∧ Q_rmK32U Z o0 w0 w1 k0 cs fm h0 n0 v U'.heap L ∧ FrameEnd U o U' L ({ frames := 3, cells := 2, slots := 6, locals := 40 } : Room).cells ({ frames := 3, cells := 2, slots := 6, locals := 40 } : Room).slots) := by
  refine MetFree.of_bodySF (plainFor_of_name pn_java_lang_StringUTF16) hisR ?_
  intro p e s m args below meth c s₁ Bd hml0 hP hK
  obtain ⟨rfl, hZ, hh⟩ := hP
  have hx := Bd.exec
  have hby := Bd.bytes
  have hml : c.maxLocals = 6 := hml0
  have hown : s.vm.findClass "java/lang/StringUTF16" = some m.cls := findClass_of_methodNamed Bd.named
  have hnm := (name_of_methodNamed Bd.named Bd.method).1
  have hlk := Bd.notSynchronized
  have X0 : Stand p l e ({ frames := 3, cells := 2, slots := 6, locals := 40 } : Room) s m #[(.ref o0), (.int 0), (.int 2)] below meth c s₁ [] 0 0 := Stand.of_body Bd
  have e0 : s₁.heap = h0 := by rw [← hh, Bd.state]; rfl
  have N0 := Fr.nil n0
  show own_G p.tables e below s (Q_rmK32U Z o0 w0 w1 k0 cs fm h0 n0) ({ frames := 3, cells := 2, slots := 6, locals := 40 } : Room).cells ({ frames := 3, cells := 2, slots := 6, locals := 40 } : Room).slots _
  refine own_thr (a := s₁.setTop (mkF m 0 #[.val (.ref o0), .val (.int 0), .val (.int 2), .unset, .unset, .unset] [])) (fun t kt => castTop (ef_rmK32U m o0) kt) ?_
  refine own_thr (a := s₁.setTop (mkF m 1 #[.val (.ref o0), .val (.int 0), .val (.int 2), .unset, .unset, .unset] [(.int 2)])) (fun t kt => ?_) ?_
  · refine XS.iloadN X0.here hx rfl (hb hby d13_0) rfl ?_
    exact kt
  obtain ⟨T1, h1, k1, X1, e1, E1, A1, st1⟩ := newP X0 hx hZ (hw _ (own_i 26 rfl)) e0 (g := (mkF m 1 #[.val (.ref o0), .val (.int 0), .val (.int 2), .unset, .unset, .unset] [(.int 2)])) rfl (hb hby d13_1) rfl (by decide) (cap := 2) (by decide) (by decide) (by decide : 0 + 1 ≤ _) (by decide : 0 + 2 ≤ _)
  obtain ⟨b1, g1⟩ : ∃ z, z = h0.size := ⟨_, rfl⟩
  rw [← g1] at A1 st1
  have g_b1 : n0 ≤ b1 := Nat.le_trans Z0 (Nat.le_of_eq g1.symm)
  have sz_b1 : h0.size ≤ b1 := Nat.le_trans (Nat.le_refl h0.size) (Nat.le_of_eq g1.symm)
  have lt_o0_b1 : o0 < b1 := Nat.lt_of_lt_of_le V_o0.lt (Nat.le_of_eq g1.symm)
  have ne_o0_b1 : o0 ≠ b1 := Nat.ne_of_lt lt_o0_b1
  have V_b1 : Arv Z h1 b1 k1 .byte (2 : Int32) [(.int 0), (.int 0)] (.int 0) := (Arv.new A1 (by decide)).pad (pad_rep [] (.int 0) 2)
  have Z2 : n0 ≤ h1.size := Nat.le_trans Z0 E1.1
  have Z2h : h0.size ≤ h1.size := Nat.le_trans (Nat.le_refl h0.size) E1.1
  refine own_thr (a := T1.setTop (mkF m 3 #[.val (.ref o0), .val (.int 0), .val (.int 2), .unset, .unset, .unset] [(.ref b1)])) (fun t kt => st1 t kt) ?_
  refine own_thr (a := T1.setTop (mkF m 9 #[.val (.ref o0), .val (.int 0), .val (.int 2), .val (.ref b1), .unset, .unset] [(.int 2), (.int 0), (.ref b1), (.int 0), (.ref o0)])) (fun t kt => ?_) ?_
  · refine XS.astoreN X1.here hx rfl (hb hby d13_3) rfl rfl (l' := #[.val (.ref o0), .val (.int 0), .val (.int 2), .val (.ref b1), .unset, .unset]) rfl ?_
    refine XS.aloadN X1.here hx rfl (hb hby d13_4) rfl rfl ?_
    refine XS.iloadN X1.here hx rfl (hb hby d13_5) rfl ?_
    refine XS.aloadN X1.here hx rfl (hb hby d13_6) rfl rfl ?_
    refine XS.iconst X1.here hx rfl (hb hby d13_7) ?_
    refine XS.iloadN X1.here hx rfl (hb hby d13_8) rfl ?_
    exact kt
  rcases hu with hl0 | ⟨hl0, hl1⟩
  · skip
    obtain ⟨_, _, ⟨T3, L3, k3, n3⟩, -, X3, ⟨Lc3, hQ3, l3, y3, z3⟩, st3⟩ := Jvm.LawKit.callS X1 hx (y := own_m7) hown (mvT hZ (hw _ (own_i 65 rfl))) (mvT hZ (hw _ (own_i 66 rfl))) (mvT hZ (hw _ (own_i 63 rfl))) (mvT hZ (hw _ (own_i 67 rfl))) (by decide) (backOf (W := 0) (rmK52U l Z a0 hw [] o0 b1 w0 w1 k0 k1 h1 n0 Z2 (V_o0.ext E1) V_b1 g_b1 ne_o0_b1 hl0) hZ (hw _ (own_i 67 rfl)) (hw _ (own_i 63 rfl)) (by decide) (by decide)) (g := (mkF m 9 #[.val (.ref o0), .val (.int 0), .val (.int 2), .val (.ref b1), .unset, .unset] [(.int 2), (.int 0), (.ref b1), (.int 0), (.ref o0)])) rfl (by rw [hml]; rfl) (argsL := [(.ref o0), (.int 0), (.ref b1), (.int 0), (.int 2)]) (rest := []) (lenOf pd__28_5bCI_5bBII_29I rfl) rfl (own_q rfl) (hb hby d13_9) (fun _ _ => ⟨rfl, e1, (by decide : 1 + 0 ≤ _), (by decide : 2 + 0 ≤ _)⟩)
    dsimp only [Pt.U, Pt.locs, Pt.cells, Pt.slots] at X3 l3 y3 z3 st3 hQ3
    obtain ⟨rfl, N3q, K3, o3_0⟩ := hQ3
    have Z4 : n0 ≤ T3.heap.size := Nat.le_trans Z2 K3.1
    have Z4h : h0.size ≤ T3.heap.size := Nat.le_trans Z2h K3.1
    obtain ⟨lc3, X3, N3⟩ := own_pack X3 l3 y3 z3 N0 N3q (C := 1) (S' := 2) rfl rfl
    refine own_thr (a := T3.setTop (mkF m 12 #[.val (.ref o0), .val (.int 0), .val (.int 2), .val (.ref b1), .unset, .unset] [(.int 0)])) (fun t kt => st3 t kt) ?_
    refine own_thr (a := T3.setTop (mkF m 23 #[.val (.ref o0), .val (.int 0), .val (.int 2), .val (.ref b1), .val (.int 0), .unset] [(.int 2), (.int 0), (.ref o0)])) (fun t kt => ?_) ?_
    · refine XS.istore X3.here hx rfl (hb hby d13_12) rfl (l' := #[.val (.ref o0), .val (.int 0), .val (.int 2), .val (.ref b1), .val (.int 0), .unset]) rfl ?_
      refine XS.iload X3.here hx rfl (hb hby d13_14) rfl ?_
      refine XS.iloadN X3.here hx rfl (hb hby d13_16) rfl ?_
      refine XS.icmpNo X3.here hx rfl (hb hby d13_17) rfl (feq (by decide)).1 ?_
      refine XS.aloadN X3.here hx rfl (hb hby d13_20) rfl rfl ?_
      refine XS.iloadN X3.here hx rfl (hb hby d13_21) rfl ?_
      refine XS.iloadN X3.here hx rfl (hb hby d13_22) rfl ?_
      exact kt
    obtain ⟨_, _, ⟨T5, L5, k5, n5⟩, -, X5, ⟨Lc5, hQ5, l5, y5, z5⟩, st5⟩ := Jvm.LawKit.callS X3 hx (y := own_m5) hown (mvT hZ (hw _ (own_i 68 rfl))) (mvT hZ (hw _ (own_i 69 rfl))) (mvT hZ (hw _ (own_i 63 rfl))) (mvT hZ (hw _ (own_i 70 rfl))) (by decide) (backOf (W := 0) (rmTB2 l Z a0 hw [] o0 w0 w1 k0 cs fm T3.heap n0 Z4 ((V_o0.ext E1).keep K3 (ninS ne_o0_b1 nin0)) hKs ((hO.ext E1).keep K3 (allS g_b1 all0))) hZ (hw _ (own_i 70 rfl)) (hw _ (own_i 63 rfl)) (by decide) (by decide)) (g := (mkF m 23 #[.val (.ref o0), .val (.int 0), .val (.int 2), .val (.ref b1), .val (.int 0), .unset] [(.int 2), (.int 0), (.ref o0)])) rfl (by rw [hml]; rfl) (argsL := [(.ref o0), (.int 0), (.int 2)]) (rest := []) (lenOf pd__28_5bCII_29_5bB rfl) rfl (own_q rfl) (hb hby d13_23) (fun _ _ => ⟨rfl, rfl, (by decide : 1 + 1 ≤ _), (by decide : 2 + 4 ≤ _)⟩)
    dsimp only [Pt.U, Pt.locs, Pt.cells, Pt.slots] at X5 l5 y5 z5 st5 hQ5
    obtain ⟨r5, rfl, N5q, K5, o5_0, o5_1⟩ := hQ5
    have Z6 : n0 ≤ T5.heap.size := Nat.le_trans Z4 K5.1
    have Z6h : h0.size ≤ T5.heap.size := Nat.le_trans Z4h K5.1
    obtain ⟨lc5, X5, N5⟩ := own_pack X5 l5 y5 z5 N3 N5q (C := 2) (S' := 6) rfl rfl
    refine own_thr (a := T5.setTop (mkF m 26 #[.val (.ref o0), .val (.int 0), .val (.int 2), .val (.ref b1), .val (.int 0), .unset] [(.ref r5)])) (fun t kt => st5 t kt) ?_
    obtain ⟨kq5, Vq5⟩ := o5_0
    have ne_o0_r5 : o0 ≠ r5 := Nat.ne_of_lt (Nat.lt_of_lt_of_le ((V_o0.ext E1).keep K3 (ninS ne_o0_b1 nin0)).lt o5_1)
    have ne_b1_r5 : b1 ≠ r5 := Nat.ne_of_lt (Nat.lt_of_lt_of_le o3_0.lt o5_1)
    have g_r5 : n0 ≤ r5 := Nat.le_trans Z4 o5_1
    have sz_r5 : h0.size ≤ r5 := Nat.le_trans Z4h o5_1
    refine own_thr (a := T5.setTop (mkF m 32 #[.val (.ref o0), .val (.int 0), .val (.int 2), .val (.ref b1), .val (.int 0), .val (.ref r5)] [(.int 0), (.ref r5)])) (fun t kt => ?_) ?_
    · refine XS.astore X5.here hx rfl (hb hby d13_26) rfl rfl (l' := #[.val (.ref o0), .val (.int 0), .val (.int 2), .val (.ref b1), .val (.int 0), .val (.ref r5)]) rfl ?_
      refine XS.aload X5.here hx rfl (hb hby d13_28) rfl rfl ?_
      refine XS.iload X5.here hx rfl (hb hby d13_30) rfl ?_
      exact kt
    obtain ⟨_, _, ⟨T7, L7, k7, n7⟩, -, X7, ⟨Lc7, hQ7, l7, y7, z7⟩, st7⟩ := Jvm.LawKit.callS X5 hx (y := own_m1) hown (mvT hZ (hw _ (own_i 84 rfl))) (mvT hZ (hw _ (own_i 85 rfl))) (mvT hZ (hw _ (own_i 63 rfl))) (mvT hZ (hw _ (own_i 86 rfl))) (by decide) (backOf (W := 0) (rmG20 l Z a0 hw [] r5 (((w0 >>> ((0 : Int32) &&& 31)).toInt8.toInt32).toInt8.toInt32) (((w0 >>> ((8 : Int32) &&& 31)).toInt8.toInt32).toInt8.toInt32) (((w1 >>> ((0 : Int32) &&& 31)).toInt8.toInt32).toInt8.toInt32) (((w1 >>> ((8 : Int32) &&& 31)).toInt8.toInt32).toInt8.toInt32) kq5 cs fm T5.heap n0 Z6 Vq5 hKs (((hO.ext E1).keep K3 (allS g_b1 all0)).keep K5 all0)) hZ (hw _ (own_i 86 rfl)) (hw _ (own_i 63 rfl)) (by decide) (by decide)) (g := (mkF m 32 #[.val (.ref o0), .val (.int 0), .val (.int 2), .val (.ref b1), .val (.int 0), .val (.ref r5)] [(.int 0), (.ref r5)])) rfl (by rw [hml]; rfl) (argsL := [(.ref r5), (.int 0)]) (rest := []) (lenOf pd__28_5bBI_29C rfl) rfl (own_q rfl) (hb hby d13_32) (fun _ _ => ⟨rfl, rfl, (by decide : 2 + 0 ≤ _), (by decide : 6 + 0 ≤ _)⟩)
    dsimp only [Pt.U, Pt.locs, Pt.cells, Pt.slots] at X7 l7 y7 z7 st7 hQ7
    obtain ⟨rfl, N7q, e7⟩ := hQ7
    obtain ⟨lc7, X7, N7⟩ := own_pack X7 l7 y7 z7 N5 N7q (C := 2) (S' := 6) rfl rfl
    refine own_thr (a := T7.setTop (mkF m 35 #[.val (.ref o0), .val (.int 0), .val (.int 2), .val (.ref b1), .val (.int 0), .val (.ref r5)] [(.int (own_gc (((w0 >>> ((0 : Int32) &&& 31)).toInt8.toInt32).toInt8.toInt32) (((w0 >>> ((8 : Int32) &&& 31)).toInt8.toInt32).toInt8.toInt32)))])) (fun t kt => st7 t kt) ?_
    refine own_thr (a := T7.setTop (mkF m 56 #[.val (.ref o0), .val (.int 0), .val (.int 2), .val (.ref b1), .val (.int 0), .val (.ref r5)] [(.ref r5)])) (fun t kt => ?_) ?_
    · refine XS.sipush X7.here hx rfl (hb hby d13_35) ?_
      refine XS.icmpYes X7.here hx rfl (pc0 := 38) (pc' := 54) rfl (hb hby d13_38) rfl (tlt (by rw [own_gp hr0]; exact hl0)).2.2.1 (by decide) (by decide) ?_
      refine XS.aload X7.here hx rfl (hb hby d13_54) rfl rfl ?_
      exact kt
    exact own_end X7 hlk (v := some (.ref r5)) (fun h => by rw [Bd.returns] at h; cases h) (fun fs hr => retA X7 hx Bd.returns rfl rfl (hb hby d13_56) hr) (by rw [e7]; exact ⟨r5, rfl, N7, ((((Keep.refl h0 []).ext E1).trans K3 (allS (Or.inr sz_b1) all0)).trans K5 all0), ⟨_, Vq5⟩, sz_r5⟩) (by decide : 2 ≤ _) (by decide : 6 ≤ _)
  · skip
    obtain ⟨_, _, ⟨T8, L8, k8, n8⟩, -, X8, ⟨Lc8, hQ8, l8, y8, z8⟩, st8⟩ := Jvm.LawKit.callS X1 hx (y := own_m7) hown (mvT hZ (hw _ (own_i 65 rfl))) (mvT hZ (hw _ (own_i 66 rfl))) (mvT hZ (hw _ (own_i 63 rfl))) (mvT hZ (hw _ (own_i 67 rfl))) (by decide) (backOf (W := 0) (rmK52LU l Z a0 hw [] o0 b1 w0 w1 k0 k1 h1 n0 Z2 (V_o0.ext E1) V_b1 g_b1 ne_o0_b1 hl0 hl1) hZ (hw _ (own_i 67 rfl)) (hw _ (own_i 63 rfl)) (by decide) (by decide)) (g := (mkF m 9 #[.val (.ref o0), .val (.int 0), .val (.int 2), .val (.ref b1), .unset, .unset] [(.int 2), (.int 0), (.ref b1), (.int 0), (.ref o0)])) rfl (by rw [hml]; rfl) (argsL := [(.ref o0), (.int 0), (.ref b1), (.int 0), (.int 2)]) (rest := []) (lenOf pd__28_5bCI_5bBII_29I rfl) rfl (own_q rfl) (hb hby d13_9) (fun _ _ => ⟨rfl, e1, (by decide : 1 + 0 ≤ _), (by decide : 2 + 0 ≤ _)⟩)
    dsimp only [Pt.U, Pt.locs, Pt.cells, Pt.slots] at X8 l8 y8 z8 st8 hQ8
    obtain ⟨rfl, N8q, K8, o8_0⟩ := hQ8
    have Z9 : n0 ≤ T8.heap.size := Nat.le_trans Z2 K8.1
    have Z9h : h0.size ≤ T8.heap.size := Nat.le_trans Z2h K8.1
    obtain ⟨lc8, X8, N8⟩ := own_pack X8 l8 y8 z8 N0 N8q (C := 1) (S' := 2) rfl rfl
    refine own_thr (a := T8.setTop (mkF m 12 #[.val (.ref o0), .val (.int 0), .val (.int 2), .val (.ref b1), .unset, .unset] [(.int 1)])) (fun t kt => st8 t kt) ?_
    refine own_thr (a := T8.setTop (mkF m 23 #[.val (.ref o0), .val (.int 0), .val (.int 2), .val (.ref b1), .val (.int 1), .unset] [(.int 2), (.int 0), (.ref o0)])) (fun t kt => ?_) ?_
    · refine XS.istore X8.here hx rfl (hb hby d13_12) rfl (l' := #[.val (.ref o0), .val (.int 0), .val (.int 2), .val (.ref b1), .val (.int 1), .unset]) rfl ?_
      refine XS.iload X8.here hx rfl (hb hby d13_14) rfl ?_
      refine XS.iloadN X8.here hx rfl (hb hby d13_16) rfl ?_
      refine XS.icmpNo X8.here hx rfl (hb hby d13_17) rfl (feq (by decide)).1 ?_
      refine XS.aloadN X8.here hx rfl (hb hby d13_20) rfl rfl ?_
      refine XS.iloadN X8.here hx rfl (hb hby d13_21) rfl ?_
      refine XS.iloadN X8.here hx rfl (hb hby d13_22) rfl ?_
      exact kt
    obtain ⟨_, _, ⟨T10, L10, k10, n10⟩, -, X10, ⟨Lc10, hQ10, l10, y10, z10⟩, st10⟩ := Jvm.LawKit.callS X8 hx (y := own_m5) hown (mvT hZ (hw _ (own_i 68 rfl))) (mvT hZ (hw _ (own_i 69 rfl))) (mvT hZ (hw _ (own_i 63 rfl))) (mvT hZ (hw _ (own_i 70 rfl))) (by decide) (backOf (W := 0) (rmTB2 l Z a0 hw [] o0 w0 w1 k0 cs fm T8.heap n0 Z9 ((V_o0.ext E1).keep K8 (ninS ne_o0_b1 nin0)) hKs ((hO.ext E1).keep K8 (allS g_b1 all0))) hZ (hw _ (own_i 70 rfl)) (hw _ (own_i 63 rfl)) (by decide) (by decide)) (g := (mkF m 23 #[.val (.ref o0), .val (.int 0), .val (.int 2), .val (.ref b1), .val (.int 1), .unset] [(.int 2), (.int 0), (.ref o0)])) rfl (by rw [hml]; rfl) (argsL := [(.ref o0), (.int 0), (.int 2)]) (rest := []) (lenOf pd__28_5bCII_29_5bB rfl) rfl (own_q rfl) (hb hby d13_23) (fun _ _ => ⟨rfl, rfl, (by decide : 1 + 1 ≤ _), (by decide : 2 + 4 ≤ _)⟩)
    dsimp only [Pt.U, Pt.locs, Pt.cells, Pt.slots] at X10 l10 y10 z10 st10 hQ10
    obtain ⟨r10, rfl, N10q, K10, o10_0, o10_1⟩ := hQ10
    have Z11 : n0 ≤ T10.heap.size := Nat.le_trans Z9 K10.1
    have Z11h : h0.size ≤ T10.heap.size := Nat.le_trans Z9h K10.1
    obtain ⟨lc10, X10, N10⟩ := own_pack X10 l10 y10 z10 N8 N10q (C := 2) (S' := 6) rfl rfl
    refine own_thr (a := T10.setTop (mkF m 26 #[.val (.ref o0), .val (.int 0), .val (.int 2), .val (.ref b1), .val (.int 1), .unset] [(.ref r10)])) (fun t kt => st10 t kt) ?_
    obtain ⟨kq10, Vq10⟩ := o10_0
    have ne_o0_r10 : o0 ≠ r10 := Nat.ne_of_lt (Nat.lt_of_lt_of_le ((V_o0.ext E1).keep K8 (ninS ne_o0_b1 nin0)).lt o10_1)
    have ne_b1_r10 : b1 ≠ r10 := Nat.ne_of_lt (Nat.lt_of_lt_of_le o8_0.lt o10_1)
    have g_r10 : n0 ≤ r10 := Nat.le_trans Z9 o10_1
    have sz_r10 : h0.size ≤ r10 := Nat.le_trans Z9h o10_1
    refine own_thr (a := T10.setTop (mkF m 32 #[.val (.ref o0), .val (.int 0), .val (.int 2), .val (.ref b1), .val (.int 1), .val (.ref r10)] [(.int 1), (.ref r10)])) (fun t kt => ?_) ?_
    · refine XS.astore X10.here hx rfl (hb hby d13_26) rfl rfl (l' := #[.val (.ref o0), .val (.int 0), .val (.int 2), .val (.ref b1), .val (.int 1), .val (.ref r10)]) rfl ?_
      refine XS.aload X10.here hx rfl (hb hby d13_28) rfl rfl ?_
      refine XS.iload X10.here hx rfl (hb hby d13_30) rfl ?_
      exact kt
    obtain ⟨_, _, ⟨T12, L12, k12, n12⟩, -, X12, ⟨Lc12, hQ12, l12, y12, z12⟩, st12⟩ := Jvm.LawKit.callS X10 hx (y := own_m1) hown (mvT hZ (hw _ (own_i 84 rfl))) (mvT hZ (hw _ (own_i 85 rfl))) (mvT hZ (hw _ (own_i 63 rfl))) (mvT hZ (hw _ (own_i 86 rfl))) (by decide) (backOf (W := 0) (rmG21 l Z a0 hw [] r10 (((w0 >>> ((0 : Int32) &&& 31)).toInt8.toInt32).toInt8.toInt32) (((w0 >>> ((8 : Int32) &&& 31)).toInt8.toInt32).toInt8.toInt32) (((w1 >>> ((0 : Int32) &&& 31)).toInt8.toInt32).toInt8.toInt32) (((w1 >>> ((8 : Int32) &&& 31)).toInt8.toInt32).toInt8.toInt32) kq10 cs fm T10.heap n0 Z11 Vq10 hKs (((hO.ext E1).keep K8 (allS g_b1 all0)).keep K10 all0)) hZ (hw _ (own_i 86 rfl)) (hw _ (own_i 63 rfl)) (by decide) (by decide)) (g := (mkF m 32 #[.val (.ref o0), .val (.int 0), .val (.int 2), .val (.ref b1), .val (.int 1), .val (.ref r10)] [(.int 1), (.ref r10)])) rfl (by rw [hml]; rfl) (argsL := [(.ref r10), (.int 1)]) (rest := []) (lenOf pd__28_5bBI_29C rfl) rfl (own_q rfl) (hb hby d13_32) (fun _ _ => ⟨rfl, rfl, (by decide : 2 + 0 ≤ _), (by decide : 6 + 0 ≤ _)⟩)
    dsimp only [Pt.U, Pt.locs, Pt.cells, Pt.slots] at X12 l12 y12 z12 st12 hQ12
    obtain ⟨rfl, N12q, e12⟩ := hQ12
    obtain ⟨lc12, X12, N12⟩ := own_pack X12 l12 y12 z12 N10 N12q (C := 2) (S' := 6) rfl rfl
    refine own_thr (a := T12.setTop (mkF m 35 #[.val (.ref o0), .val (.int 0), .val (.int 2), .val (.ref b1), .val (.int 1), .val (.ref r10)] [(.int (own_gc (((w1 >>> ((0 : Int32) &&& 31)).toInt8.toInt32).toInt8.toInt32) (((w1 >>> ((8 : Int32) &&& 31)).toInt8.toInt32).toInt8.toInt32)))])) (fun t kt => st12 t kt) ?_
    refine own_thr (a := T12.setTop (mkF m 56 #[.val (.ref o0), .val (.int 0), .val (.int 2), .val (.ref b1), .val (.int 1), .val (.ref r10)] [(.ref r10)])) (fun t kt => ?_) ?_
    · refine XS.sipush X12.here hx rfl (hb hby d13_35) ?_
      refine XS.icmpYes X12.here hx rfl (pc0 := 38) (pc' := 54) rfl (hb hby d13_38) rfl (tlt (by rw [own_gp hr1]; exact hl1)).2.2.1 (by decide) (by decide) ?_
      refine XS.aload X12.here hx rfl (hb hby d13_54) rfl rfl ?_
      exact kt
    exact own_end X12 hlk (v := some (.ref r10)) (fun h => by rw [Bd.returns] at h; cases h) (fun fs hr => retA X12 hx Bd.returns rfl rfl (hb hby d13_56) hr) (by rw [e12]; exact ⟨r10, rfl, N12, ((((Keep.refl h0 []).ext E1).trans K8 (allS (Or.inr sz_b1) all0)).trans K10 all0), ⟨_, Vq10⟩, sz_r10⟩) (by decide : 2 ≤ _) (by decide : 6 ≤ _)
theorem ef_rmS2U (m : MethodId) (o0 : Addr) (o1 : Addr)  : entryFrame m #[(.ref o0), (.ref o1), (.int 0), (.int 2), .null] 6 = mkF m 0 #[.val (.ref o0), .val (.ref o1), .val (.int 0), .val (.int 2), .val .null, .unset] [] := by first |  (simp [entryFrame, mkF, argsToLocals, Value.category]; done) | rfl
def Q_rmS2U (Z : State) (o0 : Addr) (o1 : Addr) (w0 : Int32) (w1 : Int32) (k0 : ClassId) (cs : Int32) (fm : Value) (h0 : Heap) (n0 : Nat) (v : Option Value) (h : Heap) (L : List Loc) : Prop := v = none ∧ Fr n0 L ∧ Keep h0 h [o0] ∧ Exa Z h o0 "java/lang/String" ∧ Fld Z h o0 "java/lang/String" "coder" "B" (.int 1) ∧ ∃ (b : Addr) (k : ClassId), Fld Z h o0 "java/lang/String" "value" "[B" (.ref b) ∧ Arv Z h b k .byte (4 : Int32) [(.int (((w0 >>> ((0 : Int32) &&& 31)).toInt8.toInt32).toInt8.toInt32)), (.int (((w0 >>> ((8 : Int32) &&& 31)).toInt8.toInt32).toInt8.toInt32)), (.int (((w1 >>> ((0 : Int32) &&& 31)).toInt8.toInt32).toInt8.toInt32)), (.int (((w1 >>> ((8 : Int32) &&& 31)).toInt8.toInt32).toInt8.toInt32))] (.int 0)
theorem rmS2U (l : Launch) (Z : State) (a0 : Array Value) (hw : ∀ d ∈ tables_1, d.before a0 Z = true) (ws : List Jvm.Cond) (o0 : Addr) (o1 : Addr) (w0 : Int32) (w1 : Int32) (k0 : ClassId) (cs : Int32) (fm : Value) (h0 : Heap) (n0 : Nat) (Z0 : n0 ≤ h0.size) (E_o0 : Exa Z h0 o0 "java/lang/String") (F_v : Fld Z h0 o0 "java/lang/String" "value" "[B" .null) (F_c : Fld Z h0 o0 "java/lang/String" "coder" "B" (.int 0)) (V_o1 : Arv Z h0 o1 k0 .char (2 : Int32) [(.int w0), (.int w1)] (.int 0)) (g_o0 : n0 ≤ o0) (ne_o0_o1 : o0 ≠ o1) (hu : (255 : Int32) < w0 ∨ ¬ (255 : Int32) < w0 ∧ (255 : Int32) < w1) (hr0 : own_R w0) (hr1 : own_R w1) (hKs : own_K Z cs fm) (hO : Old Z n0 h0) :
    MetFree l own_m9 (head1 (Jvm.Cond.code own_m9 jdk_42_method_149_code 6 none :: ws) ({ frames := 4, cells := 2, slots := 6, locals := 57 } : Room)) (fun a U => a = #[(.ref o0), (.ref o1), (.int 0), (.int 2), .null] ∧ Z.Warmed39 U.vm ∧ U.heap = h0) (fun _ _ _ _ _ => True) (fun _ U o U' => ∃ v L, o = .returned v ∧ Q_rmS2U Z o0 o1 w0 w1 k0 cs fm h0 n0 v U'.heap L ∧ FrameEnd U o U' L ({ frames := 4, cells := 2, slots := 6, locals := 57 } : Room).cells ({ frames := 4, cells := 2, slots := 6, locals := 57 } : Room).slots) := by
  refine MetFree.of_bodySF (plainFor_of_name pn_java_lang_String) hisR ?_
  intro p e s m args below meth c s₁ Bd hml0 hP hK
  obtain ⟨rfl, hZ, hh⟩ := hP
  have hx := Bd.exec
  have hby := Bd.bytes
  have hml : c.maxLocals = 6 := hml0
  have hown : s.vm.findClass "java/lang/String" = some m.cls := findClass_of_methodNamed Bd.named
  have hnm := (name_of_methodNamed Bd.named Bd.method).1
  have hlk := Bd.notSynchronized
  have X0 : Stand p l e ({ frames := 4, cells := 2, slots := 6, locals := 57 } : Room) s m #[(.ref o0), (.ref o1), (.int 0), (.int 2), .null] below meth c s₁ [] 0 0 := Stand.of_body Bd
  have e0 : s₁.heap = h0 := by rw [← hh, Bd.state]; rfl
  have N0 := Fr.nil n0
  show own_G p.tables e below s (Q_rmS2U Z o0 o1 w0 w1 k0 cs fm h0 n0) ({ frames := 4, cells := 2, slots := 6, locals := 57 } : Room).cells ({ frames := 4, cells := 2, slots := 6, locals := 57 } : Room).slots _
  refine own_thr (a := s₁.setTop (mkF m 0 #[.val (.ref o0), .val (.ref o1), .val (.int 0), .val (.int 2), .val .null, .unset] [])) (fun t kt => castTop (ef_rmS2U m o0 o1) kt) ?_
  refine own_thr (a := s₁.setTop (mkF m 1 #[.val (.ref o0), .val (.ref o1), .val (.int 0), .val (.int 2), .val .null, .unset] [(.ref o0)])) (fun t kt => ?_) ?_
  · refine XS.aloadN X0.here hx rfl (hb hby d4_0) rfl rfl ?_
    exact kt
  obtain ⟨T1, X1, e1, st1⟩ := initO X0 hx hZ hown (hw _ (own_i 22 rfl)) (hw _ (own_i 23 rfl)) (hw _ (own_i 24 rfl)) e0 (g := (mkF m 1 #[.val (.ref o0), .val (.ref o1), .val (.int 0), .val (.int 2), .val .null, .unset] [(.ref o0)])) rfl (by rw [hml]; rfl) rfl (hb hby d4_1) (by decide) (W := 0) (own_q rfl) (by decide)
  refine own_thr (a := T1.setTop (mkF m 4 #[.val (.ref o0), .val (.ref o1), .val (.int 0), .val (.int 2), .val .null, .unset] [])) (fun t kt => st1 t kt) ?_
  refine own_thr (a := T1.setTop (mkF m 27 #[.val (.ref o0), .val (.ref o1), .val (.int 0), .val (.int 2), .val .null, .unset] [])) (fun t kt => ?_) ?_
  · refine XS.iloadN X1.here hx rfl (hb hby d4_4) rfl ?_
    refine XS.ifYes X1.here hx rfl (pc0 := 5) (pc' := 27) rfl (hb hby d4_5) rfl ((if0 _ _).trans (feq (by decide)).2) (by decide) (by decide) ?_
    exact kt
  obtain ⟨T2, X2, e2, st2⟩ := getS2 X1 hx hZ hown (host := "") (Or.inl (hw _ (own_i 47 rfl))) Via.refl e1 (hKs.1.ext hO.2) (g := (mkF m 27 #[.val (.ref o0), .val (.ref o1), .val (.int 0), .val (.int 2), .val .null, .unset] [])) rfl (hb hby d4_27)
  refine own_thr (a := T2.setTop (mkF m 30 #[.val (.ref o0), .val (.ref o1), .val (.int 0), .val (.int 2), .val .null, .unset] [(.int cs)])) (fun t kt => st2 t kt) ?_
  refine own_thr (a := T2.setTop (mkF m 36 #[.val (.ref o0), .val (.ref o1), .val (.int 0), .val (.int 2), .val .null, .unset] [(.int 2), (.int 0), (.ref o1)])) (fun t kt => ?_) ?_
  · refine XS.ifNo X2.here hx rfl (hb hby d4_30) rfl ((if0 _ _).trans (feq hKs.2.1).1) ?_
    refine XS.aloadN X2.here hx rfl (hb hby d4_33) rfl rfl ?_
    refine XS.iloadN X2.here hx rfl (hb hby d4_34) rfl ?_
    refine XS.iloadN X2.here hx rfl (hb hby d4_35) rfl ?_
    exact kt
  obtain ⟨_, _, ⟨T3, L3, k3, n3⟩, -, X3, ⟨Lc3, hQ3, l3, y3, z3⟩, st3⟩ := Jvm.LawKit.callS X2 hx (y := own_m8) hown (mvT hZ (hw _ (own_i 61 rfl))) (mvT hZ (hw _ (own_i 62 rfl))) (mvT hZ (hw _ (own_i 63 rfl))) (mvT hZ (hw _ (own_i 64 rfl))) (by decide) (backOf (W := 0) (rmK32U l Z a0 hw [] o1 w0 w1 k0 cs fm h0 n0 Z0 V_o1 hu hr0 hr1 hKs hO) hZ (hw _ (own_i 64 rfl)) (hw _ (own_i 63 rfl)) (by decide) (by decide)) (g := (mkF m 36 #[.val (.ref o0), .val (.ref o1), .val (.int 0), .val (.int 2), .val .null, .unset] [(.int 2), (.int 0), (.ref o1)])) rfl (by rw [hml]; rfl) (argsL := [(.ref o1), (.int 0), (.int 2)]) (rest := []) (lenOf pd__28_5bCII_29_5bB rfl) rfl (own_q rfl) (hb hby d4_36) (fun _ _ => ⟨rfl, e2, (by decide : 0 + 2 ≤ _), (by decide : 0 + 6 ≤ _)⟩)
  dsimp only [Pt.U, Pt.locs, Pt.cells, Pt.slots] at X3 l3 y3 z3 st3 hQ3
  obtain ⟨r3, rfl, N3q, K3, o3_0, o3_1⟩ := hQ3
  have Z4 : n0 ≤ T3.heap.size := Nat.le_trans Z0 K3.1
  have Z4h : h0.size ≤ T3.heap.size := Nat.le_trans (Nat.le_refl h0.size) K3.1
  obtain ⟨lc3, X3, N3⟩ := own_pack X3 l3 y3 z3 N0 N3q (C := 2) (S' := 6) rfl rfl
  refine own_thr (a := T3.setTop (mkF m 39 #[.val (.ref o0), .val (.ref o1), .val (.int 0), .val (.int 2), .val .null, .unset] [(.ref r3)])) (fun t kt => st3 t kt) ?_
  obtain ⟨kq3, Vq3⟩ := o3_0
  have ne_o0_r3 : o0 ≠ r3 := Nat.ne_of_lt (Nat.lt_of_lt_of_le E_o0.lt o3_1)
  have ne_o1_r3 : o1 ≠ r3 := Nat.ne_of_lt (Nat.lt_of_lt_of_le V_o1.lt o3_1)
  have g_r3 : n0 ≤ r3 := Nat.le_trans Z0 o3_1
  have sz_r3 : h0.size ≤ r3 := Nat.le_trans (Nat.le_refl h0.size) o3_1
  refine own_thr (a := T3.setTop (mkF m 45 #[.val (.ref o0), .val (.ref o1), .val (.int 0), .val (.int 2), .val .null, .val (.ref r3)] [(.int 2), (.ref r3), (.ref o0)])) (fun t kt => ?_) ?_
  · refine XS.astore X3.here hx rfl (hb hby d4_39) rfl rfl (l' := #[.val (.ref o0), .val (.ref o1), .val (.int 0), .val (.int 2), .val .null, .val (.ref r3)]) rfl ?_
    refine XS.aloadN X3.here hx rfl (hb hby d4_41) rfl rfl ?_
    refine XS.aload X3.here hx rfl (hb hby d4_42) rfl rfl ?_
    refine XS.iloadN X3.here hx rfl (hb hby d4_44) rfl ?_
    exact kt
  obtain ⟨_, _, ⟨T5, L5, k5, n5⟩, -, X5, ⟨Lc5, hQ5, l5, y5, z5⟩, st5⟩ := Jvm.LawKit.callS X3 hx (y := own_m6) hown (mvT hZ (hw _ (own_i 87 rfl))) (mvT hZ (hw _ (own_i 88 rfl))) (mvT hZ (hw _ (own_i 63 rfl))) (mvT hZ (hw _ (own_i 89 rfl))) (by decide) (backOf (W := 1) (rmCL24 l Z a0 hw [] r3 [(.int (((w0 >>> ((0 : Int32) &&& 31)).toInt8.toInt32).toInt8.toInt32)), (.int (((w0 >>> ((8 : Int32) &&& 31)).toInt8.toInt32).toInt8.toInt32)), (.int (((w1 >>> ((0 : Int32) &&& 31)).toInt8.toInt32).toInt8.toInt32)), (.int (((w1 >>> ((8 : Int32) &&& 31)).toInt8.toInt32).toInt8.toInt32))] kq3 T3.heap n0 Z4 Vq3) hZ (hw _ (own_i 89 rfl)) (hw _ (own_i 63 rfl)) (by decide) (by decide)) (g := (mkF m 45 #[.val (.ref o0), .val (.ref o1), .val (.int 0), .val (.int 2), .val .null, .val (.ref r3)] [(.int 2), (.ref r3), (.ref o0)])) rfl (by rw [hml]; rfl) (argsL := [(.ref r3), (.int 2)]) (rest := [(.ref o0)]) (lenOf pd__28_5bBI_29B rfl) rfl (own_q rfl) (hb hby d4_45) (fun _ _ => ⟨rfl, rfl, (by decide : 2 + 0 ≤ _), (by decide : 6 + 0 ≤ _)⟩)
  dsimp only [Pt.U, Pt.locs, Pt.cells, Pt.slots] at X5 l5 y5 z5 st5 hQ5
  obtain ⟨rfl, N5q, e5⟩ := hQ5
  obtain ⟨lc5, X5, N5⟩ := own_pack X5 l5 y5 z5 N3 N5q (C := 2) (S' := 6) rfl rfl
  refine own_thr (a := T5.setTop (mkF m 48 #[.val (.ref o0), .val (.ref o1), .val (.int 0), .val (.int 2), .val .null, .val (.ref r3)] [(.int (nar .byte ((((-2 : Int32).toUInt32 >>> ((31 : Int32) &&& 31).toUInt32).toInt32).toInt8.toInt32))), (.ref o0)])) (fun t kt => st5 t kt) ?_
  rw [show (nar .byte ((((-2 : Int32).toUInt32 >>> ((31 : Int32) &&& 31).toUInt32).toInt32).toInt8.toInt32)) = (1 : Int32) from by decide]
  obtain ⟨T6, h6, X6, e6, W6, st6⟩ := putFN X5 hx hZ hown (hw _ (own_i 32 rfl)) Via.refl e5 (F_c.keep K3 nin0) (E_o0.keep K3) (Or.inr ⟨(hw _ (own_i 28 rfl)), rfl, hnm⟩) (hw _ (own_i 12 rfl)) (ty := .byte) (v' := (.int 1)) (by decide) rfl rfl (g := (mkF m 48 #[.val (.ref o0), .val (.ref o1), .val (.int 0), .val (.int 2), .val .null, .val (.ref r3)] [(.int 1), (.ref o0)])) rfl rfl (hb hby d4_48)
  have Fw6 := (F_c.keep K3 nin0).same W6
  have Z7 : n0 ≤ h6.size := Nat.le_trans Z4 (Nat.le_of_eq W6.size.symm)
  have Z7h : h0.size ≤ h6.size := Nat.le_trans Z4h (Nat.le_of_eq W6.size.symm)
  obtain ⟨lc6, X6, N6⟩ := own_pack1 X6 N5 g_o0
  refine own_thr (a := T6.setTop (mkF m 51 #[.val (.ref o0), .val (.ref o1), .val (.int 0), .val (.int 2), .val .null, .val (.ref r3)] [])) (fun t kt => st6 t kt) ?_
  refine own_thr (a := T6.setTop (mkF m 54 #[.val (.ref o0), .val (.ref o1), .val (.int 0), .val (.int 2), .val .null, .val (.ref r3)] [(.ref r3), (.ref o0)])) (fun t kt => ?_) ?_
  · refine XS.aloadN X6.here hx rfl (hb hby d4_51) rfl rfl ?_
    refine XS.aload X6.here hx rfl (hb hby d4_52) rfl rfl ?_
    exact kt
  have c8 := ((F_v.keep K3 nin0).other W6 (Or.inr (slot_ne (Or.inr (hw _ (own_i 27 rfl))) (Or.inr (hw _ (own_i 28 rfl))) (by decide) (t := (.array .byte)) (t' := .byte) (by decide) (by decide))))
  obtain ⟨T9, h9, X9, e9, W9, st9⟩ := putF X6 hx hZ hown (host := "") (Or.inl (hw _ (own_i 31 rfl))) Via.refl e6 c8 ((E_o0.keep K3).wr W6) (Or.inr ⟨(hw _ (own_i 27 rfl)), rfl, hnm⟩) (hw _ (own_i 12 rfl)) (ty := (.array .byte)) (by decide) rfl rfl (g := (mkF m 54 #[.val (.ref o0), .val (.ref o1), .val (.int 0), .val (.int 2), .val .null, .val (.ref r3)] [(.ref r3), (.ref o0)])) rfl rfl (hb hby d4_54)
  have Fw9 := c8.same W9
  have Z10 : n0 ≤ h9.size := Nat.le_trans Z7 (Nat.le_of_eq W9.size.symm)
  have Z10h : h0.size ≤ h9.size := Nat.le_trans Z7h (Nat.le_of_eq W9.size.symm)
  obtain ⟨lc9, X9, N9⟩ := own_pack1 X9 N6 g_o0
  refine own_thr (a := T9.setTop (mkF m 57 #[.val (.ref o0), .val (.ref o1), .val (.int 0), .val (.int 2), .val .null, .val (.ref r3)] [])) (fun t kt => st9 t kt) ?_
  have c11 := (Fw6.other W9 (Or.inr (slot_ne (Or.inr (hw _ (own_i 28 rfl))) (Or.inr (hw _ (own_i 27 rfl))) (by decide) (t := .byte) (t' := (.array .byte)) (by decide) (by decide))))
  have c12 := ((Vq3.other W6 (Ne.symm ne_o0_r3)).other W9 (Ne.symm ne_o0_r3))
  exact own_end X9 hlk (v := none) (fun _ => rfl) (fun fs hr => X9.returnOut hx Bd.returns (hb hby d4_57) hr) (by rw [e9]; exact ⟨rfl, N9, ((((Keep.refl h0 [o0]).trans K3 all0).wr W6 (Or.inl (own_i 0 rfl))).wr W9 (Or.inl (own_i 0 rfl))), (((E_o0.keep K3).wr W6).wr W9), c11, r3, _, Fw9, c12⟩) (by decide : 2 ≤ _) (by decide : 6 ≤ _)
theorem ef_rmC2U (m : MethodId) (o0 : Addr) (o1 : Addr)  : entryFrame m #[(.ref o0), (.ref o1)] 2 = mkF m 0 #[.val (.ref o0), .val (.ref o1)] [] := by first |  (simp [entryFrame, mkF, argsToLocals, Value.category]; done) | rfl
def Q_rmC2U (Z : State) (o0 : Addr) (o1 : Addr) (w0 : Int32) (w1 : Int32) (k0 : ClassId) (cs : Int32) (fm : Value) (h0 : Heap) (n0 : Nat) (v : Option Value) (h : Heap) (L : List Loc) : Prop := v = none ∧ Fr n0 L ∧ Keep h0 h [o0] ∧ Exa Z h o0 "java/lang/String" ∧ Fld Z h o0 "java/lang/String" "coder" "B" (.int 1) ∧ ∃ (b : Addr) (k : ClassId), Fld Z h o0 "java/lang/String" "value" "[B" (.ref b) ∧ Arv Z h b k .byte (4 : Int32) [(.int (((w0 >>> ((0 : Int32) &&& 31)).toInt8.toInt32).toInt8.toInt32)), (.int (((w0 >>> ((8 : Int32) &&& 31)).toInt8.toInt32).toInt8.toInt32)), (.int (((w1 >>> ((0 : Int32) &&& 31)).toInt8.toInt32).toInt8.toInt32)), (.int (((w1 >>> ((8 : Int32) &&& 31)).toInt8.toInt32).toInt8.toInt32))] (.int 0)
theorem rmC2U (l : Launch) (Z : State) (a0 : Array Value) (hw : ∀ d ∈ tables_1, d.before a0 Z = true) (ws : List Jvm.Cond) (o0 : Addr) (o1 : Addr) (w0 : Int32) (w1 : Int32) (k0 : ClassId) (cs : Int32) (fm : Value) (h0 : Heap) (n0 : Nat) (Z0 : n0 ≤ h0.size) (E_o0 : Exa Z h0 o0 "java/lang/String") (F_v : Fld Z h0 o0 "java/lang/String" "value" "[B" .null) (F_c : Fld Z h0 o0 "java/lang/String" "coder" "B" (.int 0)) (V_o1 : Arv Z h0 o1 k0 .char (2 : Int32) [(.int w0), (.int w1)] (.int 0)) (g_o0 : n0 ≤ o0) (ne_o0_o1 : o0 ≠ o1) (hu : (255 : Int32) < w0 ∨ ¬ (255 : Int32) < w0 ∧ (255 : Int32) < w1) (hr0 : own_R w0) (hr1 : own_R w1) (hKs : own_K Z cs fm) (hO : Old Z n0 h0) :
    MetFree l own_m10 (head1 (Jvm.Cond.code own_m10 jdk_42_method_3_code 2 none :: ws) ({ frames := 5, cells := 2, slots := 6, locals := 74 } : Room)) (fun a U => a = #[(.ref o0), (.ref o1)] ∧ Z.Warmed39 U.vm ∧ U.heap = h0) (fun _ _ _ _ _ => True) (fun _ U o U' => ∃ v L, o = .returned v ∧ Q_rmC2U Z o0 o1 w0 w1 k0 cs fm h0 n0 v U'.heap L ∧ FrameEnd U o U' L ({ frames := 5, cells := 2, slots := 6, locals := 74 } : Room).cells ({ frames := 5, cells := 2, slots := 6, locals := 74 } : Room).slots) := by
  refine MetFree.of_bodySF (plainFor_of_name pn_java_lang_String) hisR ?_
  intro p e s m args below meth c s₁ Bd hml0 hP hK
  obtain ⟨rfl, hZ, hh⟩ := hP
  have hx := Bd.exec
  have hby := Bd.bytes
  have hml : c.maxLocals = 2 := hml0
  have hown : s.vm.findClass "java/lang/String" = some m.cls := findClass_of_methodNamed Bd.named
  have hnm := (name_of_methodNamed Bd.named Bd.method).1
  have hlk := Bd.notSynchronized
  have X0 : Stand p l e ({ frames := 5, cells := 2, slots := 6, locals := 74 } : Room) s m #[(.ref o0), (.ref o1)] below meth c s₁ [] 0 0 := Stand.of_body Bd
  have e0 : s₁.heap = h0 := by rw [← hh, Bd.state]; rfl
  have N0 := Fr.nil n0
  show own_G p.tables e below s (Q_rmC2U Z o0 o1 w0 w1 k0 cs fm h0 n0) ({ frames := 5, cells := 2, slots := 6, locals := 74 } : Room).cells ({ frames := 5, cells := 2, slots := 6, locals := 74 } : Room).slots _
  refine own_thr (a := s₁.setTop (mkF m 0 #[.val (.ref o0), .val (.ref o1)] [])) (fun t kt => castTop (ef_rmC2U m o0 o1) kt) ?_
  refine own_thr (a := s₁.setTop (mkF m 4 #[.val (.ref o0), .val (.ref o1)] [(.ref o1), (.int 0), (.ref o1), (.ref o0)])) (fun t kt => ?_) ?_
  · refine XS.aloadN X0.here hx rfl (hb hby d3_0) rfl rfl ?_
    refine XS.aloadN X0.here hx rfl (hb hby d3_1) rfl rfl ?_
    refine XS.iconst X0.here hx rfl (hb hby d3_2) ?_
    refine XS.aloadN X0.here hx rfl (hb hby d3_3) rfl rfl ?_
    exact kt
  obtain ⟨cl1, Ar1, -, S1, M1, -, -⟩ := id V_o1
  refine own_thr (a := s₁.setTop (mkF m 6 #[.val (.ref o0), .val (.ref o1)] [.null, (.int 2), (.int 0), (.ref o1), (.ref o0)])) (fun t kt => ?_) ?_
  · refine X0.arraylength hx (by rw [e0]; exact Ar1.1) (State.isArrayOf_alike hZ.alike Ar1.2.1) (g := (mkF m 4 #[.val (.ref o0), .val (.ref o1)] [(.ref o1), (.int 0), (.ref o1), (.ref o0)])) rfl rfl (hb hby d3_4) _ ?_
    rw [len_of S1 M1]
    refine XS.aconstNull X0.here hx rfl (hb hby d3_5) ?_
    exact kt
  obtain ⟨_, _, ⟨T2, L2, k2, n2⟩, -, X2, ⟨Lc2, hQ2, l2, y2, z2⟩, st2⟩ := X0.specialBack hx (y := own_m9) rfl hown (mvT hZ (hw _ (own_i 18 rfl))) (mvT hZ (hw _ (own_i 19 rfl))) (mvT hZ (hw _ (own_i 21 rfl))) (by decide) (backOf (W := 0) (rmS2U l Z a0 hw [] o0 o1 w0 w1 k0 cs fm h0 n0 Z0 E_o0 F_v F_c V_o1 g_o0 ne_o0_o1 hu hr0 hr1 hKs hO) hZ (hw _ (own_i 21 rfl)) (hw _ (own_i 13 rfl)) (by decide) (by decide)) (g := (mkF m 6 #[.val (.ref o0), .val (.ref o1)] [.null, (.int 2), (.int 0), (.ref o1), (.ref o0)])) rfl (by rw [hml]; rfl) (Steps.refl _) (a := o0) (argsL := [(.ref o1), (.int 0), (.int 2), .null]) (rest := []) (lenOf pd__28_5bCIILjava_2flang_2fVoid_3b_29V rfl) rfl (own_q rfl) (hb hby d3_6) (fun _ _ => ⟨rfl, e0, (by decide : 0 + 2 ≤ _), (by decide : 0 + 6 ≤ _)⟩)
  dsimp only [Pt.U, Pt.locs, Pt.cells, Pt.slots] at X2 l2 y2 z2 st2 hQ2
  obtain ⟨rfl, N2q, K2, o2_e, o2_c, sv2, ks2, o2_v, o2_a⟩ := hQ2
  have Z3 : n0 ≤ T2.heap.size := Nat.le_trans Z0 K2.1
  have Z3h : h0.size ≤ T2.heap.size := Nat.le_trans (Nat.le_refl h0.size) K2.1
  obtain ⟨lc2, X2, N2⟩ := own_pack X2 l2 y2 z2 N0 N2q (C := 2) (S' := 6) rfl rfl
  refine own_thr (a := T2.setTop (mkF m 9 #[.val (.ref o0), .val (.ref o1)] [])) (fun t kt => st2.trans kt) ?_
  exact own_end X2 hlk (v := none) (fun _ => rfl) (fun fs hr => X2.returnOut hx Bd.returns (hb hby d3_9) hr) ⟨rfl, N2, ((Keep.refl h0 [o0]).trans K2 (allS (Or.inl (own_i 0 rfl)) all0)), o2_e, o2_c, sv2, _, o2_v, o2_a⟩ (by decide : 2 ≤ _) (by decide : 6 ≤ _)
theorem d4_8 : decode jdk_42_method_149_code 8 = .ok (.aload_n 0, 1) := by decide +kernel
theorem d4_9 : decode jdk_42_method_149_code 9 = .ok (.ldc 7, 2) := by decide +kernel
theorem d4_11 : decode jdk_42_method_149_code 11 = .ok (.getfield 9, 3) := by decide +kernel
theorem d4_14 : decode jdk_42_method_149_code 14 = .ok (.putfield 9, 3) := by decide +kernel
theorem d4_17 : decode jdk_42_method_149_code 17 = .ok (.aload_n 0, 1) := by decide +kernel
theorem d4_18 : decode jdk_42_method_149_code 18 = .ok (.ldc 7, 2) := by decide +kernel
theorem d4_20 : decode jdk_42_method_149_code 20 = .ok (.getfield 15, 3) := by decide +kernel
theorem d4_23 : decode jdk_42_method_149_code 23 = .ok (.putfield 15, 3) := by decide +kernel
theorem d4_26 : decode jdk_42_method_149_code 26 = .ok (.return_, 1) := by decide +kernel
theorem ef_rmS0 (m : MethodId) (o0 : Addr) (o1 : Addr)  : entryFrame m #[(.ref o0), (.ref o1), (.int 0), (.int 0), .null] 6 = mkF m 0 #[.val (.ref o0), .val (.ref o1), .val (.int 0), .val (.int 0), .val .null, .unset] [] := by first |  (simp [entryFrame, mkF, argsToLocals, Value.category]; done) | rfl
def Q_rmS0 (Z : State) (o0 : Addr) (o1 : Addr) (h0 : Heap) (n0 : Nat) (v : Option Value) (h : Heap) (L : List Loc) : Prop := v = none ∧ Fr n0 L ∧ Keep h0 h [o0] ∧ own_U0 Z h o0
theorem rmS0 (l : Launch) (Z : State) (a0 : Array Value) (hw : ∀ d ∈ tables_1, d.before a0 Z = true) (ws : List Jvm.Cond) (o0 : Addr) (o1 : Addr) (h0 : Heap) (n0 : Nat) (Z0 : n0 ≤ h0.size) (E_o0 : Exa Z h0 o0 "java/lang/String") (F_v : Fld Z h0 o0 "java/lang/String" "value" "[B" .null) (F_c : Fld Z h0 o0 "java/lang/String" "coder" "B" (.int 0)) (g_o0 : n0 ≤ o0) :
    MetFree l own_m9 (head1 (Jvm.Cond.code own_m9 jdk_42_method_149_code 6 none :: ws) ({ frames := 1, cells := 4, slots := 8, locals := 12 } : Room)) (fun a U => a = #[(.ref o0), (.ref o1), (.int 0), (.int 0), .null] ∧ Z.Warmed39 U.vm ∧ U.heap = h0 ∧ CHv Z own_EL U.vm h0) (fun _ _ _ _ _ => True) (fun _ U o U' => ∃ v L, o = .returned v ∧ Q_rmS0 Z o0 o1 h0 n0 v U'.heap L ∧ CHr Z own_EL U.vm U.heap U'.vm U'.heap ∧ ReturnedEndW U o U' L ({ frames := 1, cells := 4, slots := 8, locals := 12 } : Room).cells ({ frames := 1, cells := 4, slots := 8, locals := 12 } : Room).slots) := by
  refine MetFree.of_bodySF (plainFor_of_name pn_java_lang_String) hisR ?_
  intro p e s m args below meth c s₁ Bd hml0 hP hK
  obtain ⟨rfl, hZ, hh, hCH0⟩ := hP
  have hx := Bd.exec
  have hby := Bd.bytes
  have hml : c.maxLocals = 6 := hml0
  have hown : s.vm.findClass "java/lang/String" = some m.cls := findClass_of_methodNamed Bd.named
  have hnm := (name_of_methodNamed Bd.named Bd.method).1
  have hlk := Bd.notSynchronized
  have X0 : Stand p l e ({ frames := 1, cells := 4, slots := 8, locals := 12 } : Room) (s.setVm s.vm) m #[(.ref o0), (.ref o1), (.int 0), (.int 0), .null] below meth c s₁ [] 0 0 := Stand.of_body Bd
  have e0 : s₁.heap = h0 := by rw [← hh, Bd.state]; rfl
  have N0 := Fr.nil n0
  show own_GH p.tables e below s Z own_EL (Q_rmS0 Z o0 o1 h0 n0) ({ frames := 1, cells := 4, slots := 8, locals := 12 } : Room).cells ({ frames := 1, cells := 4, slots := 8, locals := 12 } : Room).slots _
  have hS0 : s.Since s.vm 0 := (State.WarmedH.refl s).since 0
  have hEL := own_EW hw
  have CH0 : CHr Z own_EL s.vm h0 s.vm h0 := CHr.refl hCH0
  refine own_thrH (a := s₁.setTop (mkF m 0 #[.val (.ref o0), .val (.ref o1), .val (.int 0), .val (.int 0), .val .null, .unset] [])) (fun t kt => castTop (ef_rmS0 m o0 o1) kt) ?_
  refine own_thrH (a := s₁.setTop (mkF m 1 #[.val (.ref o0), .val (.ref o1), .val (.int 0), .val (.int 0), .val .null, .unset] [(.ref o0)])) (fun t kt => ?_) ?_
  · refine XS.aloadN X0.here hx rfl (hb hby d4_0) rfl rfl ?_
    exact kt
  obtain ⟨T1, X1, e1, st1⟩ := initO X0 hx hZ hown (hw _ (own_i 22 rfl)) (hw _ (own_i 23 rfl)) (hw _ (own_i 24 rfl)) e0 (g := (mkF m 1 #[.val (.ref o0), .val (.ref o1), .val (.int 0), .val (.int 0), .val .null, .unset] [(.ref o0)])) rfl (by rw [hml]; rfl) rfl (hb hby d4_1) (by decide) (W := 0) (own_q rfl) (by decide)
  refine own_thrH (a := T1.setTop (mkF m 4 #[.val (.ref o0), .val (.ref o1), .val (.int 0), .val (.int 0), .val .null, .unset] [])) (fun t kt => st1 t kt) ?_
  refine own_thrH (a := T1.setTop (mkF m 9 #[.val (.ref o0), .val (.ref o1), .val (.int 0), .val (.int 0), .val .null, .unset] [(.ref o0)])) (fun t kt => ?_) ?_
  · refine XS.iloadN X1.here hx rfl (hb hby d4_4) rfl ?_
    refine XS.ifNo X1.here hx rfl (hb hby d4_5) rfl ((if0 _ _).trans (teq rfl).2) ?_
    refine XS.aloadN X1.here hx rfl (hb hby d4_8) rfl rfl ?_
    exact kt
  obtain ⟨b2, T2, h2, kk2, d2, kc2, X2, e2, E2, hS2, hk2, hZ2, hown2, oE2, oC2, oV2, oA2, -, -, ch2, -, sfq2, st2⟩ := ldcCH X1 hx hZ hown (hw _ (own_i 25 rfl)) (fun a ha => hw a (own_sa a ha)) e1 hS0 (Nat.zero_le _) hEL (by decide) CH0.1 (vs := []) (z := (0 : Int32)) ⟨by decide, rfl⟩ (by decide) rfl (g := (mkF m 9 #[.val (.ref o0), .val (.ref o1), .val (.int 0), .val (.int 0), .val .null, .unset] [(.ref o0)])) rfl (hb hby d4_9) (n := 0) (by decide) (by decide) (by decide : 0 + 2 ≤ _) (by decide : 0 + 4 ≤ _)
  have Z3 : n0 ≤ h2.size := Nat.le_trans Z0 E2.1
  have Z3h : h0.size ≤ h2.size := Nat.le_trans (Nat.le_refl h0.size) E2.1
  have CHl2 := CH0.trans ch2
  have sf4 := own_safe (EL := own_EL) hZ2.alike (E_o0.ext E2) (F_v.ext E2)
  have ne_o0_b2 : o0 ≠ b2 := (sfq2 _ sf4).1
  have ne_o0_d2 : o0 ≠ d2 := (sfq2 _ sf4).2
  refine own_thrH (a := T2.setTop (mkF m 11 #[.val (.ref o0), .val (.ref o1), .val (.int 0), .val (.int 0), .val .null, .unset] [(.ref b2), (.ref o0)])) (fun t kt => st2 t kt) ?_
  obtain ⟨T5, X5, e5, st5⟩ := getF X2 hx hZ2 hown2 (host := "") (Or.inl (hw _ (own_i 31 rfl))) Via.refl e2 oV2 (g := (mkF m 11 #[.val (.ref o0), .val (.ref o1), .val (.int 0), .val (.int 0), .val .null, .unset] [(.ref b2), (.ref o0)])) rfl rfl (hb hby d4_11)
  refine own_thrH (a := T5.setTop (mkF m 14 #[.val (.ref o0), .val (.ref o1), .val (.int 0), .val (.int 0), .val .null, .unset] [(.ref d2), (.ref o0)])) (fun t kt => st5 t kt) ?_
  obtain ⟨T6, h6, X6, e6, W6, st6⟩ := putF X5 hx hZ2 hown2 (host := "") (Or.inl (hw _ (own_i 31 rfl))) Via.refl e5 (F_v.ext E2) (E_o0.ext E2) (Or.inr ⟨(hw _ (own_i 27 rfl)), rfl, hnm⟩) (hw _ (own_i 12 rfl)) (ty := (.array .byte)) (by decide) rfl rfl (g := (mkF m 14 #[.val (.ref o0), .val (.ref o1), .val (.int 0), .val (.int 0), .val .null, .unset] [(.ref d2), (.ref o0)])) rfl rfl (hb hby d4_14)
  have Fw6 := (F_v.ext E2).same W6
  have sf8 := Safe.wr W6 sf4 CHl2.1 sf4
  have CH7 := CHl2.trans (CHr.wr W6 sf4 CHl2.1)
  have Z9 : n0 ≤ h6.size := Nat.le_trans Z3 (Nat.le_of_eq W6.size.symm)
  have Z9h : h0.size ≤ h6.size := Nat.le_trans Z3h (Nat.le_of_eq W6.size.symm)
  have Z9k := Nat.le_trans hk2 (Nat.le_of_eq W6.size.symm)
  obtain ⟨lc6, X6, N6⟩ := own_pack1 X6 N0 g_o0
  refine own_thrH (a := T6.setTop (mkF m 17 #[.val (.ref o0), .val (.ref o1), .val (.int 0), .val (.int 0), .val .null, .unset] [])) (fun t kt => st6 t kt) ?_
  refine own_thrH (a := T6.setTop (mkF m 18 #[.val (.ref o0), .val (.ref o1), .val (.int 0), .val (.int 0), .val .null, .unset] [(.ref o0)])) (fun t kt => ?_) ?_
  · refine XS.aloadN X6.here hx rfl (hb hby d4_17) rfl rfl ?_
    exact kt
  obtain ⟨b10, T10, h10, kk10, d10, kc10, X10, e10, E10, hS10, hk10, hZ10, hown10, oE10, oC10, oV10, oA10, -, -, ch10, -, sfq10, st10⟩ := ldcCH X6 hx hZ2 hown2 (hw _ (own_i 25 rfl)) (fun a ha => hw a (own_sa a ha)) e6 hS2 Z9k hEL (by decide) CH7.1 (vs := []) (z := (0 : Int32)) ⟨by decide, rfl⟩ (by decide) rfl (g := (mkF m 18 #[.val (.ref o0), .val (.ref o1), .val (.int 0), .val (.int 0), .val .null, .unset] [(.ref o0)])) rfl (hb hby d4_18) (n := 0) (by decide) (by decide) (by decide : 2 + 2 ≤ _) (by decide : 4 + 4 ≤ _)
  have sf11 := CHr.safe ch10 ((E_o0.ext E2).wr W6).lt sf8
  have Z12 : n0 ≤ h10.size := Nat.le_trans Z9 E10.1
  have Z12h : h0.size ≤ h10.size := Nat.le_trans Z9h E10.1
  have CHl10 := CH7.trans ch10
  have ne_o0_b10 : o0 ≠ b10 := (sfq10 _ sf11).1
  have ne_o0_d10 : o0 ≠ d10 := (sfq10 _ sf11).2
  refine own_thrH (a := T10.setTop (mkF m 20 #[.val (.ref o0), .val (.ref o1), .val (.int 0), .val (.int 0), .val .null, .unset] [(.ref b10), (.ref o0)])) (fun t kt => st10 t kt) ?_
  obtain ⟨T13, X13, e13, st13⟩ := getF X10 hx hZ10 hown10 (host := "") (Or.inl (hw _ (own_i 32 rfl))) Via.refl e10 oC10 (g := (mkF m 20 #[.val (.ref o0), .val (.ref o1), .val (.int 0), .val (.int 0), .val .null, .unset] [(.ref b10), (.ref o0)])) rfl rfl (hb hby d4_20)
  refine own_thrH (a := T13.setTop (mkF m 23 #[.val (.ref o0), .val (.ref o1), .val (.int 0), .val (.int 0), .val .null, .unset] [(.int 0), (.ref o0)])) (fun t kt => st13 t kt) ?_
  have c14 := (((F_c.ext E2).other W6 (Or.inr (slot_ne (Or.inr (hw _ (own_i 28 rfl))) (Or.inr (hw _ (own_i 27 rfl))) (by decide) (t := .byte) (t' := (.array .byte)) (by decide) (by decide)))).ext E10)
  obtain ⟨T15, h15, X15, e15, W15, st15⟩ := putFN X13 hx hZ10 hown10 (hw _ (own_i 32 rfl)) Via.refl e13 c14 (((E_o0.ext E2).wr W6).ext E10) (Or.inr ⟨(hw _ (own_i 28 rfl)), rfl, hnm⟩) (hw _ (own_i 12 rfl)) (ty := .byte) (v' := (.int 0)) (by decide) rfl rfl (g := (mkF m 23 #[.val (.ref o0), .val (.ref o1), .val (.int 0), .val (.int 0), .val .null, .unset] [(.int 0), (.ref o0)])) rfl rfl (hb hby d4_23)
  have Fw15 := c14.same W15
  have sf17 := Safe.wr W15 sf11 CHl10.1 sf11
  have CH16 := CHl10.trans (CHr.wr W15 sf11 CHl10.1)
  have Z18 : n0 ≤ h15.size := Nat.le_trans Z12 (Nat.le_of_eq W15.size.symm)
  have Z18h : h0.size ≤ h15.size := Nat.le_trans Z12h (Nat.le_of_eq W15.size.symm)
  have Z18k := Nat.le_trans hk10 (Nat.le_of_eq W15.size.symm)
  obtain ⟨lc15, X15, N15⟩ := own_pack1 X15 N6 g_o0
  refine own_thrH (a := T15.setTop (mkF m 26 #[.val (.ref o0), .val (.ref o1), .val (.int 0), .val (.int 0), .val .null, .unset] [])) (fun t kt => st15 t kt) ?_
  have c19 := ((Fw6.ext E10).other W15 (Or.inr (slot_ne (Or.inr (hw _ (own_i 27 rfl))) (Or.inr (hw _ (own_i 28 rfl))) (by decide) (t := (.array .byte)) (t' := .byte) (by decide) (by decide))))
  have c20 := (((oA2.other W6 (Ne.symm ne_o0_d2)).ext E10).other W15 (Ne.symm ne_o0_d2))
  exact own_endH X15 hS10 (by rw [e15]; exact Z18k) hZ10 hEL CH16 hh e15 hlk (v := none) (fun _ => rfl) (fun fs hr => X15.returnOut hx Bd.returns (hb hby d4_26) hr) (by rw [e15]; exact ⟨rfl, N15, (((((Keep.refl h0 [o0]).ext E2).wr W6 (Or.inl (own_i 0 rfl))).ext E10).wr W15 (Or.inl (own_i 0 rfl))), ((((E_o0.ext E2).wr W6).ext E10).wr W15), Fw15, d2, _, c19, c20⟩) (by decide : 4 ≤ _) (by decide : 8 ≤ _)
theorem ef_rmC0 (m : MethodId) (o0 : Addr) (o1 : Addr)  : entryFrame m #[(.ref o0), (.ref o1)] 2 = mkF m 0 #[.val (.ref o0), .val (.ref o1)] [] := by first |  (simp [entryFrame, mkF, argsToLocals, Value.category]; done) | rfl
def Q_rmC0 (Z : State) (o0 : Addr) (o1 : Addr) (k0 : ClassId) (h0 : Heap) (n0 : Nat) (v : Option Value) (h : Heap) (L : List Loc) : Prop := v = none ∧ Fr n0 L ∧ Keep h0 h [o0] ∧ own_U0 Z h o0
theorem rmC0 (l : Launch) (Z : State) (a0 : Array Value) (hw : ∀ d ∈ tables_1, d.before a0 Z = true) (ws : List Jvm.Cond) (o0 : Addr) (o1 : Addr) (k0 : ClassId) (h0 : Heap) (n0 : Nat) (Z0 : n0 ≤ h0.size) (E_o0 : Exa Z h0 o0 "java/lang/String") (F_v : Fld Z h0 o0 "java/lang/String" "value" "[B" .null) (F_c : Fld Z h0 o0 "java/lang/String" "coder" "B" (.int 0)) (V_o1 : Arv Z h0 o1 k0 .char (0 : Int32) [] (.int 0)) (g_o0 : n0 ≤ o0) :
    MetFree l own_m10 (head1 (Jvm.Cond.code own_m10 jdk_42_method_3_code 2 none :: ws) ({ frames := 2, cells := 4, slots := 8, locals := 29 } : Room)) (fun a U => a = #[(.ref o0), (.ref o1)] ∧ Z.Warmed39 U.vm ∧ U.heap = h0 ∧ CHv Z own_EL U.vm h0) (fun _ _ _ _ _ => True) (fun _ U o U' => ∃ v L, o = .returned v ∧ Q_rmC0 Z o0 o1 k0 h0 n0 v U'.heap L ∧ CHr Z own_EL U.vm U.heap U'.vm U'.heap ∧ ReturnedEndW U o U' L ({ frames := 2, cells := 4, slots := 8, locals := 29 } : Room).cells ({ frames := 2, cells := 4, slots := 8, locals := 29 } : Room).slots) := by
  refine MetFree.of_bodySF (plainFor_of_name pn_java_lang_String) hisR ?_
  intro p e s m args below meth c s₁ Bd hml0 hP hK
  obtain ⟨rfl, hZ, hh, hCH0⟩ := hP
  have hx := Bd.exec
  have hby := Bd.bytes
  have hml : c.maxLocals = 2 := hml0
  have hown : s.vm.findClass "java/lang/String" = some m.cls := findClass_of_methodNamed Bd.named
  have hnm := (name_of_methodNamed Bd.named Bd.method).1
  have hlk := Bd.notSynchronized
  have X0 : Stand p l e ({ frames := 2, cells := 4, slots := 8, locals := 29 } : Room) (s.setVm s.vm) m #[(.ref o0), (.ref o1)] below meth c s₁ [] 0 0 := Stand.of_body Bd
  have e0 : s₁.heap = h0 := by rw [← hh, Bd.state]; rfl
  have N0 := Fr.nil n0
  show own_GH p.tables e below s Z own_EL (Q_rmC0 Z o0 o1 k0 h0 n0) ({ frames := 2, cells := 4, slots := 8, locals := 29 } : Room).cells ({ frames := 2, cells := 4, slots := 8, locals := 29 } : Room).slots _
  have hS0 : s.Since s.vm 0 := (State.WarmedH.refl s).since 0
  have hEL := own_EW hw
  have CH0 : CHr Z own_EL s.vm h0 s.vm h0 := CHr.refl hCH0
  refine own_thrH (a := s₁.setTop (mkF m 0 #[.val (.ref o0), .val (.ref o1)] [])) (fun t kt => castTop (ef_rmC0 m o0 o1) kt) ?_
  refine own_thrH (a := s₁.setTop (mkF m 4 #[.val (.ref o0), .val (.ref o1)] [(.ref o1), (.int 0), (.ref o1), (.ref o0)])) (fun t kt => ?_) ?_
  · refine XS.aloadN X0.here hx rfl (hb hby d3_0) rfl rfl ?_
    refine XS.aloadN X0.here hx rfl (hb hby d3_1) rfl rfl ?_
    refine XS.iconst X0.here hx rfl (hb hby d3_2) ?_
    refine XS.aloadN X0.here hx rfl (hb hby d3_3) rfl rfl ?_
    exact kt
  obtain ⟨cl1, Ar1, -, S1, M1, -, -⟩ := id V_o1
  refine own_thrH (a := s₁.setTop (mkF m 6 #[.val (.ref o0), .val (.ref o1)] [.null, (.int 0), (.int 0), (.ref o1), (.ref o0)])) (fun t kt => ?_) ?_
  · refine X0.arraylength hx (by rw [e0]; exact Ar1.1) (State.isArrayOf_alike hZ.alike Ar1.2.1) (g := (mkF m 4 #[.val (.ref o0), .val (.ref o1)] [(.ref o1), (.int 0), (.ref o1), (.ref o0)])) rfl rfl (hb hby d3_4) _ ?_
    rw [len_of S1 M1]
    refine XS.aconstNull X0.here hx rfl (hb hby d3_5) ?_
    exact kt
  obtain ⟨_, _, ⟨T2, L2, k2, n2⟩, -, X2, hSq2, hgr2, ⟨Lc2, hQ2, l2, y2, z2, ch2⟩, st2⟩ := X0.specialBackS hx (y := own_m9) rfl hown (mvT hZ (hw _ (own_i 18 rfl))) (mvT hZ (hw _ (own_i 19 rfl))) (mvT hZ (hw _ (own_i 21 rfl))) (by decide) (backOfSH (W := 0) (rmS0 l Z a0 hw [] o0 o1 h0 n0 Z0 E_o0 F_v F_c g_o0) hZ (hw _ (own_i 21 rfl)) (hw _ (own_i 13 rfl)) (by decide) (by decide) hEL CH0.1) (g := (mkF m 6 #[.val (.ref o0), .val (.ref o1)] [.null, (.int 0), (.int 0), (.ref o1), (.ref o0)])) rfl (by rw [hml]; rfl) (Steps.refl _) (a := o0) (argsL := [(.ref o1), (.int 0), (.int 0), .null]) (rest := []) (lenOf pd__28_5bCIILjava_2flang_2fVoid_3b_29V rfl) rfl (own_q rfl) (hb hby d3_6) (fun _ _ => ⟨rfl, e0, (by decide : 0 + 4 ≤ _), (by decide : 0 + 8 ≤ _)⟩)
  dsimp only [Pt.U, Pt.locs, Pt.cells, Pt.slots] at X2 l2 y2 z2 st2 hQ2 hSq2 hgr2 ch2
  have hS2 := hS0.trans hSq2 (Nat.le_trans (by rw [e0]; exact (Nat.zero_le _)) hgr2)
  have hZ2 : Z.Warmed39 (s.setVm T2.vm).vm := State.Warmed39.trans (t := s.setVm s.vm) hZ hSq2.1
  have hown2 : (s.setVm T2.vm).vm.findClass "java/lang/String" = some m.cls := by rw [show (s.setVm T2.vm).vm = T2.vm from rfl, hSq2.1.alike.findClass]; exact hown
  have X2 : Stand p l e _ (s.setVm T2.vm) m _ below meth c T2 _ _ _ := X2
  obtain ⟨rfl, N2q, K2, u2⟩ := hQ2
  have Z3 : n0 ≤ T2.heap.size := Nat.le_trans Z0 K2.1
  have Z3h : h0.size ≤ T2.heap.size := Nat.le_trans (Nat.le_refl h0.size) K2.1
  have CHc2 := CH0.trans ch2
  obtain ⟨lc2, X2, N2⟩ := own_pack X2 l2 y2 z2 N0 N2q (C := 4) (S' := 8) rfl rfl
  refine own_thrH (a := T2.setTop (mkF m 9 #[.val (.ref o0), .val (.ref o1)] [])) (fun t kt => st2.trans kt) ?_
  exact own_endH X2 hS2 (Nat.le_refl _) hZ2 hEL CHc2 hh rfl hlk (v := none) (fun _ => rfl) (fun fs hr => X2.returnOut hx Bd.returns (hb hby d3_9) hr) ⟨rfl, N2, ((Keep.refl h0 [o0]).trans K2 (allS (Or.inl (own_i 0 rfl)) all0)), u2⟩ (by decide : 4 ≤ _) (by decide : 8 ≤ _)
theorem d2_0 : decode method_4_code 0 = .ok (.iload_n 0, 1) := by decide +kernel
theorem d2_1 : decode method_4_code 1 = .ok (.ifCond .ne 14, 3) := by decide +kernel
theorem d2_4 : decode method_4_code 4 = .ok (.new 35, 3) := by decide +kernel
theorem d2_7 : decode method_4_code 7 = .ok (.dup, 1) := by decide +kernel
theorem d2_8 : decode method_4_code 8 = .ok (.iconst 0, 1) := by decide +kernel
theorem d2_9 : decode method_4_code 9 = .ok (.newarray .char, 2) := by decide +kernel
theorem pd__28_5bC_29V : parseMethodDescriptor "([C)V" = some ⟨[(.array .char)], none⟩ := by decide +kernel
theorem d2_11 : decode method_4_code 11 = .ok (.invokespecial 37, 3) := by decide +kernel
theorem d2_14 : decode method_4_code 14 = .ok (.areturn, 1) := by decide +kernel
theorem ef_rmM0 (m : MethodId) (w0 : Int32) (w1 : Int32)  : entryFrame m #[(.int 0), (.int w0), (.int w1)] 3 = mkF m 0 #[.val (.int 0), .val (.int w0), .val (.int w1)] [] := by first |  (simp [entryFrame, mkF, argsToLocals, Value.category]; done) | rfl
def Q_rmM0 (Z : State) (w0 : Int32) (w1 : Int32) (h0 : Heap) (n0 : Nat) (v : Option Value) (h : Heap) (L : List Loc) : Prop := ∃ r : Addr, v = some (.ref r) ∧ Fr n0 L ∧ Keep h0 h [] ∧ own_U0 Z h r
theorem rmM0 (l : Launch) (Z : State) (a0 : Array Value) (hw : ∀ d ∈ tables_1, d.before a0 Z = true) (ws : List Jvm.Cond) (w0 : Int32) (w1 : Int32) (h0 : Heap) (n0 : Nat) (Z0 : n0 ≤ h0.size) :
    MetFree l own_m11 (head1 (Jvm.Cond.code own_m11 method_4_code 3 (some (.object "java/lang/String")) :: ws) ({ frames := 3, cells := 6, slots := 12, locals := 43 } : Room)) (fun a U => a = #[(.int 0), (.int w0), (.int w1)] ∧ Z.Warmed39 U.vm ∧ U.heap = h0 ∧ CHv Z own_EL U.vm h0) (fun _ _ _ _ _ => True) (fun _ U o U' => ∃ v L, o = .returned v ∧ Q_rmM0 Z w0 w1 h0 n0 v U'.heap L ∧ CHr Z own_EL U.vm U.heap U'.vm U'.heap ∧ ReturnedEndW U o U' L ({ frames := 3, cells := 6, slots := 12, locals := 43 } : Room).cells ({ frames := 3, cells := 6, slots := 12, locals := 43 } : Room).slots) := by
  refine MetFree.of_bodySF (plainFor_of_name pn_com_example_tiphys_tiphys_CodePointOrderComparePinLaw) hisR ?_
  intro p e s m args below meth c s₁ Bd hml0 hP hK
  obtain ⟨rfl, hZ, hh, hCH0⟩ := hP
  have hx := Bd.exec
  have hby := Bd.bytes
  have hml : c.maxLocals = 3 := hml0
  have hown : s.vm.findClass "com/example/tiphys/tiphys/CodePointOrderComparePinLaw" = some m.cls := findClass_of_methodNamed Bd.named
  have hnm := (name_of_methodNamed Bd.named Bd.method).1
  have hlk := Bd.notSynchronized
  have X0 : Stand p l e ({ frames := 3, cells := 6, slots := 12, locals := 43 } : Room) (s.setVm s.vm) m #[(.int 0), (.int w0), (.int w1)] below meth c s₁ [] 0 0 := Stand.of_body Bd
  have e0 : s₁.heap = h0 := by rw [← hh, Bd.state]; rfl
  have N0 := Fr.nil n0
  show own_GH p.tables e below s Z own_EL (Q_rmM0 Z w0 w1 h0 n0) ({ frames := 3, cells := 6, slots := 12, locals := 43 } : Room).cells ({ frames := 3, cells := 6, slots := 12, locals := 43 } : Room).slots _
  have hS0 : s.Since s.vm 0 := (State.WarmedH.refl s).since 0
  have hEL := own_EW hw
  have CH0 : CHr Z own_EL s.vm h0 s.vm h0 := CHr.refl hCH0
  refine own_thrH (a := s₁.setTop (mkF m 0 #[.val (.int 0), .val (.int w0), .val (.int w1)] [])) (fun t kt => castTop (ef_rmM0 m w0 w1) kt) ?_
  refine own_thrH (a := s₁.setTop (mkF m 4 #[.val (.int 0), .val (.int w0), .val (.int w1)] [])) (fun t kt => ?_) ?_
  · refine XS.iloadN X0.here hx rfl (hb hby d2_0) rfl ?_
    refine XS.ifNo X0.here hx rfl (hb hby d2_1) rfl ((if0 _ _).trans (teq rfl).2) ?_
    exact kt
  obtain ⟨T1, h1, X1, e1, E1, A1, D1, U1, st1⟩ := newO X0 hx hZ hown (hw _ (own_i 11 rfl)) (hw _ (own_i 12 rfl)) (hw _ (own_i 13 rfl)) e0 (g := (mkF m 4 #[.val (.int 0), .val (.int w0), .val (.int w1)] [])) rfl (hb hby d2_4) (by decide : 0 + 1 ≤ _) (by decide : 0 + 4 ≤ _)
  obtain ⟨b1, g1⟩ : ∃ z, z = h0.size := ⟨_, rfl⟩
  rw [← g1] at A1 D1 st1 U1
  have g_b1 : n0 ≤ b1 := Nat.le_trans Z0 (Nat.le_of_eq g1.symm)
  have sz_b1 : h0.size ≤ b1 := Nat.le_trans (Nat.le_refl h0.size) (Nat.le_of_eq g1.symm)
  have CH2 := CH0.trans (CHr.ext E1 CH0.1)
  have Z3 : n0 ≤ h1.size := Nat.le_trans Z0 E1.1
  have Z3h : h0.size ≤ h1.size := Nat.le_trans (Nat.le_refl h0.size) E1.1
  have F_value_b1 : Fld Z h1 b1 "java/lang/String" "value" "[B" .null := D1 (Or.inr (hw _ (own_i 27 rfl))) (ty := (.array .byte)) (by decide)
  have F_coder_b1 : Fld Z h1 b1 "java/lang/String" "coder" "B" (.int 0) := D1 (Or.inr (hw _ (own_i 28 rfl))) (ty := .byte) (by decide)
  refine own_thrH (a := T1.setTop (mkF m 7 #[.val (.int 0), .val (.int w0), .val (.int w1)] [(.ref b1)])) (fun t kt => st1 t kt) ?_
  refine own_thrH (a := T1.setTop (mkF m 9 #[.val (.int 0), .val (.int w0), .val (.int w1)] [(.int 0), (.ref b1), (.ref b1)])) (fun t kt => ?_) ?_
  · refine XS.dup X1.here hx rfl (hb hby d2_7) rfl rfl ?_
    refine XS.iconst X1.here hx rfl (hb hby d2_8) ?_
    exact kt
  obtain ⟨T4, h4, k4, X4, e4, E4, A4, st4⟩ := newP X1 hx hZ (hw _ (own_i 14 rfl)) e1 (g := (mkF m 9 #[.val (.int 0), .val (.int w0), .val (.int w1)] [(.int 0), (.ref b1), (.ref b1)])) rfl (hb hby d2_9) rfl (by decide) (cap := 0) (by decide) (by decide) (by decide : 1 + 1 ≤ _) (by decide : 4 + 0 ≤ _)
  obtain ⟨b4, g4⟩ : ∃ z, z = h1.size := ⟨_, rfl⟩
  rw [← g4] at A4 st4
  have g_b4 : n0 ≤ b4 := Nat.le_trans Z3 (Nat.le_of_eq g4.symm)
  have sz_b4 : h0.size ≤ b4 := Nat.le_trans Z3h (Nat.le_of_eq g4.symm)
  have lt_b1_b4 : b1 < b4 := Nat.lt_of_lt_of_le A1.lt (Nat.le_of_eq g4.symm)
  have ne_b1_b4 : b1 ≠ b4 := Nat.ne_of_lt lt_b1_b4
  have V_b4 : Arv Z h4 b4 k4 .char (0 : Int32) [] (.int 0) := Arv.new A4 (by decide)
  have CH5 := CH2.trans (CHr.ext E4 CH2.1)
  have Z6 : n0 ≤ h4.size := Nat.le_trans Z3 E4.1
  have Z6h : h0.size ≤ h4.size := Nat.le_trans Z3h E4.1
  refine own_thrH (a := T4.setTop (mkF m 11 #[.val (.int 0), .val (.int w0), .val (.int w1)] [(.ref b4), (.ref b1), (.ref b1)])) (fun t kt => st4 t kt) ?_
  obtain ⟨_, _, ⟨T7, L7, k7, n7⟩, -, X7, hSq7, hgr7, ⟨Lc7, hQ7, l7, y7, z7, ch7⟩, st7⟩ := X4.specialBackS hx (y := own_m10) rfl hown (mvT hZ (hw _ (own_i 15 rfl))) (mvT hZ (hw _ (own_i 16 rfl))) (mvT hZ (hw _ (own_i 17 rfl))) (by decide) (backOfSH (W := 1) (rmC0 l Z a0 hw [] b1 b4 k4 h4 n0 Z6 (A1.ext E4) (F_value_b1.ext E4) (F_coder_b1.ext E4) V_b4 g_b1) hZ (hw _ (own_i 17 rfl)) (hw _ (own_i 13 rfl)) (by decide) (by decide) hEL CH5.1) (g := (mkF m 11 #[.val (.int 0), .val (.int w0), .val (.int w1)] [(.ref b4), (.ref b1), (.ref b1)])) rfl (by rw [hml]; rfl) (Steps.refl _) (a := b1) (argsL := [(.ref b4)]) (rest := [(.ref b1)]) (lenOf pd__28_5bC_29V rfl) rfl (own_q rfl) (hb hby d2_11) (fun _ _ => ⟨rfl, e4, (by decide : 2 + 4 ≤ _), (by decide : 4 + 8 ≤ _)⟩)
  dsimp only [Pt.U, Pt.locs, Pt.cells, Pt.slots] at X7 l7 y7 z7 st7 hQ7 hSq7 hgr7 ch7
  have hS7 := hS0.trans hSq7 (Nat.le_trans (by rw [e4]; exact (Nat.zero_le _)) hgr7)
  have hZ7 : Z.Warmed39 (s.setVm T7.vm).vm := State.Warmed39.trans (t := s.setVm s.vm) hZ hSq7.1
  have hown7 : (s.setVm T7.vm).vm.findClass "com/example/tiphys/tiphys/CodePointOrderComparePinLaw" = some m.cls := by rw [show (s.setVm T7.vm).vm = T7.vm from rfl, hSq7.1.alike.findClass]; exact hown
  have X7 : Stand p l e _ (s.setVm T7.vm) m _ below meth c T7 _ _ _ := X7
  obtain ⟨rfl, N7q, K7, u7⟩ := hQ7
  have Z8 : n0 ≤ T7.heap.size := Nat.le_trans Z6 K7.1
  have Z8h : h0.size ≤ T7.heap.size := Nat.le_trans Z6h K7.1
  have CHc7 := CH5.trans ch7
  obtain ⟨lc7, X7, N7⟩ := own_pack X7 l7 y7 z7 N0 N7q (C := 6) (S' := 12) rfl rfl
  refine own_thrH (a := T7.setTop (mkF m 14 #[.val (.int 0), .val (.int w0), .val (.int w1)] [(.ref b1)])) (fun t kt => st7.trans kt) ?_
  exact own_endH X7 hS7 (Nat.le_refl _) hZ7 hEL CHc7 hh rfl hlk (v := some (.ref b1)) (fun h => by rw [Bd.returns] at h; cases h) (fun fs hr => retA X7 hx Bd.returns rfl rfl (hb hby d2_14) hr) ⟨b1, rfl, N7, ((((Keep.refl h0 []).ext E1).ext E4).trans K7 (allS (Or.inr sz_b1) all0)), u7⟩ (by decide : 6 ≤ _) (by decide : 12 ≤ _)
theorem d2_15 : decode method_4_code 15 = .ok (.iload_n 0, 1) := by decide +kernel
theorem d2_16 : decode method_4_code 16 = .ok (.iconst 1, 1) := by decide +kernel
theorem d2_17 : decode method_4_code 17 = .ok (.if_icmp .ne 18, 3) := by decide +kernel
theorem d2_20 : decode method_4_code 20 = .ok (.new 35, 3) := by decide +kernel
theorem d2_23 : decode method_4_code 23 = .ok (.dup, 1) := by decide +kernel
theorem d2_24 : decode method_4_code 24 = .ok (.iconst 1, 1) := by decide +kernel
theorem d2_25 : decode method_4_code 25 = .ok (.newarray .char, 2) := by decide +kernel
theorem d2_27 : decode method_4_code 27 = .ok (.dup, 1) := by decide +kernel
theorem d2_28 : decode method_4_code 28 = .ok (.iconst 0, 1) := by decide +kernel
theorem d2_29 : decode method_4_code 29 = .ok (.iload_n 1, 1) := by decide +kernel
theorem d2_30 : decode method_4_code 30 = .ok (.castore, 1) := by decide +kernel
theorem d2_31 : decode method_4_code 31 = .ok (.invokespecial 37, 3) := by decide +kernel
theorem d2_34 : decode method_4_code 34 = .ok (.areturn, 1) := by decide +kernel
theorem ef_rmM1 (m : MethodId) (w0 : Int32) (w1 : Int32)  : entryFrame m #[(.int 1), (.int w0), (.int w1)] 3 = mkF m 0 #[.val (.int 1), .val (.int w0), .val (.int w1)] [] := by first |  (simp [entryFrame, mkF, argsToLocals, Value.category]; done) | rfl
def Q_rmM1 (Z : State) (w0 : Int32) (w1 : Int32) (cs : Int32) (fm : Value) (h0 : Heap) (n0 : Nat) (v : Option Value) (h : Heap) (L : List Loc) : Prop := ∃ r : Addr, v = some (.ref r) ∧ Fr n0 L ∧ Keep h0 h [] ∧ own_U1 Z h r w0
theorem rmM1 (l : Launch) (Z : State) (a0 : Array Value) (hw : ∀ d ∈ tables_1, d.before a0 Z = true) (ws : List Jvm.Cond) (w0 : Int32) (w1 : Int32) (cs : Int32) (fm : Value) (h0 : Heap) (n0 : Nat) (Z0 : n0 ≤ h0.size) (hr0 : own_R w0) (hr1 : own_R w1) (hKs : own_K Z cs fm) (hO : Old Z n0 h0) :
    MetFree l own_m11 (head1 (Jvm.Cond.code own_m11 method_4_code 3 (some (.object "java/lang/String")) :: ws) ({ frames := 6, cells := 8, slots := 64, locals := 88 } : Room)) (fun a U => a = #[(.int 1), (.int w0), (.int w1)] ∧ Z.Warmed39 U.vm ∧ U.heap = h0) (fun _ _ _ _ _ => True) (fun _ U o U' => ∃ v L, o = .returned v ∧ Q_rmM1 Z w0 w1 cs fm h0 n0 v U'.heap L ∧ FrameEnd U o U' L ({ frames := 6, cells := 8, slots := 64, locals := 88 } : Room).cells ({ frames := 6, cells := 8, slots := 64, locals := 88 } : Room).slots) := by
  refine MetFree.of_bodySF (plainFor_of_name pn_com_example_tiphys_tiphys_CodePointOrderComparePinLaw) hisR ?_
  intro p e s m args below meth c s₁ Bd hml0 hP hK
  obtain ⟨rfl, hZ, hh⟩ := hP
  have hx := Bd.exec
  have hby := Bd.bytes
  have hml : c.maxLocals = 3 := hml0
  have hown : s.vm.findClass "com/example/tiphys/tiphys/CodePointOrderComparePinLaw" = some m.cls := findClass_of_methodNamed Bd.named
  have hnm := (name_of_methodNamed Bd.named Bd.method).1
  have hlk := Bd.notSynchronized
  have X0 : Stand p l e ({ frames := 6, cells := 8, slots := 64, locals := 88 } : Room) s m #[(.int 1), (.int w0), (.int w1)] below meth c s₁ [] 0 0 := Stand.of_body Bd
  have e0 : s₁.heap = h0 := by rw [← hh, Bd.state]; rfl
  have N0 := Fr.nil n0
  show own_G p.tables e below s (Q_rmM1 Z w0 w1 cs fm h0 n0) ({ frames := 6, cells := 8, slots := 64, locals := 88 } : Room).cells ({ frames := 6, cells := 8, slots := 64, locals := 88 } : Room).slots _
  refine own_thr (a := s₁.setTop (mkF m 0 #[.val (.int 1), .val (.int w0), .val (.int w1)] [])) (fun t kt => castTop (ef_rmM1 m w0 w1) kt) ?_
  refine own_thr (a := s₁.setTop (mkF m 20 #[.val (.int 1), .val (.int w0), .val (.int w1)] [])) (fun t kt => ?_) ?_
  · refine XS.iloadN X0.here hx rfl (hb hby d2_0) rfl ?_
    refine XS.ifYes X0.here hx rfl (pc0 := 1) (pc' := 15) rfl (hb hby d2_1) rfl ((if0 _ _).trans (feq (by decide)).2) (by decide) (by decide) ?_
    refine XS.iloadN X0.here hx rfl (hb hby d2_15) rfl ?_
    refine XS.iconst X0.here hx rfl (hb hby d2_16) ?_
    refine XS.icmpNo X0.here hx rfl (hb hby d2_17) rfl (teq rfl).2 ?_
    exact kt
  obtain ⟨T1, h1, X1, e1, E1, A1, D1, U1, st1⟩ := newO X0 hx hZ hown (hw _ (own_i 11 rfl)) (hw _ (own_i 12 rfl)) (hw _ (own_i 13 rfl)) e0 (g := (mkF m 20 #[.val (.int 1), .val (.int w0), .val (.int w1)] [])) rfl (hb hby d2_20) (by decide : 0 + 1 ≤ _) (by decide : 0 + 4 ≤ _)
  obtain ⟨b1, g1⟩ : ∃ z, z = h0.size := ⟨_, rfl⟩
  rw [← g1] at A1 D1 st1 U1
  have g_b1 : n0 ≤ b1 := Nat.le_trans Z0 (Nat.le_of_eq g1.symm)
  have sz_b1 : h0.size ≤ b1 := Nat.le_trans (Nat.le_refl h0.size) (Nat.le_of_eq g1.symm)
  have Z2 : n0 ≤ h1.size := Nat.le_trans Z0 E1.1
  have Z2h : h0.size ≤ h1.size := Nat.le_trans (Nat.le_refl h0.size) E1.1
  have F_value_b1 : Fld Z h1 b1 "java/lang/String" "value" "[B" .null := D1 (Or.inr (hw _ (own_i 27 rfl))) (ty := (.array .byte)) (by decide)
  have F_coder_b1 : Fld Z h1 b1 "java/lang/String" "coder" "B" (.int 0) := D1 (Or.inr (hw _ (own_i 28 rfl))) (ty := .byte) (by decide)
  refine own_thr (a := T1.setTop (mkF m 23 #[.val (.int 1), .val (.int w0), .val (.int w1)] [(.ref b1)])) (fun t kt => st1 t kt) ?_
  refine own_thr (a := T1.setTop (mkF m 25 #[.val (.int 1), .val (.int w0), .val (.int w1)] [(.int 1), (.ref b1), (.ref b1)])) (fun t kt => ?_) ?_
  · refine XS.dup X1.here hx rfl (hb hby d2_23) rfl rfl ?_
    refine XS.iconst X1.here hx rfl (hb hby d2_24) ?_
    exact kt
  obtain ⟨T3, h3, k3, X3, e3, E3, A3, st3⟩ := newP X1 hx hZ (hw _ (own_i 14 rfl)) e1 (g := (mkF m 25 #[.val (.int 1), .val (.int w0), .val (.int w1)] [(.int 1), (.ref b1), (.ref b1)])) rfl (hb hby d2_25) rfl (by decide) (cap := 1) (by decide) (by decide) (by decide : 1 + 1 ≤ _) (by decide : 4 + 1 ≤ _)
  obtain ⟨b3, g3⟩ : ∃ z, z = h1.size := ⟨_, rfl⟩
  rw [← g3] at A3 st3
  have g_b3 : n0 ≤ b3 := Nat.le_trans Z2 (Nat.le_of_eq g3.symm)
  have sz_b3 : h0.size ≤ b3 := Nat.le_trans Z2h (Nat.le_of_eq g3.symm)
  have lt_b1_b3 : b1 < b3 := Nat.lt_of_lt_of_le A1.lt (Nat.le_of_eq g3.symm)
  have ne_b1_b3 : b1 ≠ b3 := Nat.ne_of_lt lt_b1_b3
  have V_b3 : Arv Z h3 b3 k3 .char (1 : Int32) [(.int 0)] (.int 0) := (Arv.new A3 (by decide)).pad (pad_rep [] (.int 0) 1)
  have Z4 : n0 ≤ h3.size := Nat.le_trans Z2 E3.1
  have Z4h : h0.size ≤ h3.size := Nat.le_trans Z2h E3.1
  refine own_thr (a := T3.setTop (mkF m 27 #[.val (.int 1), .val (.int w0), .val (.int w1)] [(.ref b3), (.ref b1), (.ref b1)])) (fun t kt => st3 t kt) ?_
  refine own_thr (a := T3.setTop (mkF m 30 #[.val (.int 1), .val (.int w0), .val (.int w1)] [(.int w0), (.int 0), (.ref b3), (.ref b3), (.ref b1), (.ref b1)])) (fun t kt => ?_) ?_
  · refine XS.dup X3.here hx rfl (hb hby d2_27) rfl rfl ?_
    refine XS.iconst X3.here hx rfl (hb hby d2_28) ?_
    refine XS.iloadN X3.here hx rfl (hb hby d2_29) rfl ?_
    exact kt
  obtain ⟨cl5, Ar5, q5, S5, M5, H5, G5⟩ := id V_b3
  have hin5 : ¬ ((0 : Int32) < 0 ∨ cl5.slots.size ≤ ((0 : Int32)).toNatClampNeg) := inb_of S5 ⟨by decide, by decide⟩
  obtain ⟨T5, h5, X5, e5, W5, st5⟩ := stC X3 hx hZ e3 Ar5 (j := (0 : Int32)) hin5 (g := (mkF m 30 #[.val (.int 1), .val (.int w0), .val (.int w1)] [(.int w0), (.int 0), (.ref b3), (.ref b3), (.ref b1), (.ref b1)])) rfl rfl (hb hby d2_30)
  have Z6 : n0 ≤ h5.size := Nat.le_trans Z4 (Nat.le_of_eq W5.size.symm)
  have Z6h : h0.size ≤ h5.size := Nat.le_trans Z4h (Nat.le_of_eq W5.size.symm)
  have V5 : Arv Z h5 b3 k3 .char (1 : Int32) [(.int (w0.toUInt32.toUInt16.toUInt32.toInt32))] (.int 0) := Arv.set Ar5 q5 S5 M5 H5 G5 (fits_nar_char _) W5 0 rfl (Nat.le_of_ble_eq_true rfl)
  obtain ⟨lc5, X5, N5⟩ := own_pack1 X5 N0 g_b3
  refine own_thr (a := T5.setTop (mkF m 31 #[.val (.int 1), .val (.int w0), .val (.int w1)] [(.ref b3), (.ref b1), (.ref b1)])) (fun t kt => st5 t kt) ?_
  have vr7 := V5
  rw [own_i2c hr0] at vr7
  by_cases hl0 : (255 : Int32) < w0
  · skip
    obtain ⟨_, _, ⟨T8, L8, k8, n8⟩, -, X8, ⟨Lc8, hQ8, l8, y8, z8⟩, st8⟩ := X5.specialBack hx (y := own_m10) rfl hown (mvT hZ (hw _ (own_i 15 rfl))) (mvT hZ (hw _ (own_i 16 rfl))) (mvT hZ (hw _ (own_i 17 rfl))) (by decide) (backOf (W := 1) (rmC1U l Z a0 hw [] b1 b3 w0 k3 cs fm h5 n0 Z6 ((A1.ext E3).wr W5) ((F_value_b1.ext E3).other W5 (Or.inl ne_b1_b3)) ((F_coder_b1.ext E3).other W5 (Or.inl ne_b1_b3)) vr7 g_b1 ne_b1_b3 hl0 hr0 hKs (((hO.ext E1).ext E3).wr W5 g_b3)) hZ (hw _ (own_i 17 rfl)) (hw _ (own_i 13 rfl)) (by decide) (by decide)) (g := (mkF m 31 #[.val (.int 1), .val (.int w0), .val (.int w1)] [(.ref b3), (.ref b1), (.ref b1)])) rfl (by rw [hml]; rfl) (Steps.refl _) (a := b1) (argsL := [(.ref b3)]) (rest := [(.ref b1)]) (lenOf pd__28_5bC_29V rfl) rfl (own_q rfl) (hb hby d2_31) (fun _ _ => ⟨rfl, e5, (by decide : 2 + 2 ≤ _), (by decide : 5 + 3 ≤ _)⟩)
    dsimp only [Pt.U, Pt.locs, Pt.cells, Pt.slots] at X8 l8 y8 z8 st8 hQ8
    obtain ⟨rfl, N8q, K8, o8_e, o8_c, sv8, ks8, o8_v, o8_a⟩ := hQ8
    have Z9 : n0 ≤ T8.heap.size := Nat.le_trans Z6 K8.1
    have Z9h : h0.size ≤ T8.heap.size := Nat.le_trans Z6h K8.1
    obtain ⟨lc8, X8, N8⟩ := own_pack X8 l8 y8 z8 N5 N8q (C := 4) (S' := 8) rfl rfl
    refine own_thr (a := T8.setTop (mkF m 34 #[.val (.int 1), .val (.int w0), .val (.int w1)] [(.ref b1)])) (fun t kt => st8.trans kt) ?_
    exact own_end X8 hlk (v := some (.ref b1)) (fun h => by rw [Bd.returns] at h; cases h) (fun fs hr => retA X8 hx Bd.returns rfl rfl (hb hby d2_34) hr) ⟨b1, rfl, N8, (((((Keep.refl h0 []).ext E1).ext E3).wr W5 (Or.inr sz_b3)).trans K8 (allS (Or.inr sz_b1) all0)), o8_e, Or.inr ⟨o8_c, sv8, _, _, _, o8_v, o8_a, (own_gp hr0).symm⟩⟩ (by decide : 4 ≤ _) (by decide : 8 ≤ _)
  · skip
    obtain ⟨_, _, ⟨T10, L10, k10, n10⟩, -, X10, ⟨Lc10, hQ10, l10, y10, z10⟩, st10⟩ := X5.specialBack hx (y := own_m10) rfl hown (mvT hZ (hw _ (own_i 15 rfl))) (mvT hZ (hw _ (own_i 16 rfl))) (mvT hZ (hw _ (own_i 17 rfl))) (by decide) (backOf (W := 1) (rmC1L l Z a0 hw [] b1 b3 w0 k3 cs fm h5 n0 Z6 ((A1.ext E3).wr W5) ((F_value_b1.ext E3).other W5 (Or.inl ne_b1_b3)) ((F_coder_b1.ext E3).other W5 (Or.inl ne_b1_b3)) vr7 g_b1 ne_b1_b3 hl0 hr0 hKs (((hO.ext E1).ext E3).wr W5 g_b3)) hZ (hw _ (own_i 17 rfl)) (hw _ (own_i 13 rfl)) (by decide) (by decide)) (g := (mkF m 31 #[.val (.int 1), .val (.int w0), .val (.int w1)] [(.ref b3), (.ref b1), (.ref b1)])) rfl (by rw [hml]; rfl) (Steps.refl _) (a := b1) (argsL := [(.ref b3)]) (rest := [(.ref b1)]) (lenOf pd__28_5bC_29V rfl) rfl (own_q rfl) (hb hby d2_31) (fun _ _ => ⟨rfl, e5, (by decide : 2 + 1 ≤ _), (by decide : 5 + 1 ≤ _)⟩)
    dsimp only [Pt.U, Pt.locs, Pt.cells, Pt.slots] at X10 l10 y10 z10 st10 hQ10
    obtain ⟨rfl, N10q, K10, o10_e, o10_c, sv10, ks10, o10_v, o10_a⟩ := hQ10
    have Z11 : n0 ≤ T10.heap.size := Nat.le_trans Z6 K10.1
    have Z11h : h0.size ≤ T10.heap.size := Nat.le_trans Z6h K10.1
    obtain ⟨lc10, X10, N10⟩ := own_pack X10 l10 y10 z10 N5 N10q (C := 3) (S' := 6) rfl rfl
    refine own_thr (a := T10.setTop (mkF m 34 #[.val (.int 1), .val (.int w0), .val (.int w1)] [(.ref b1)])) (fun t kt => st10.trans kt) ?_
    exact own_end X10 hlk (v := some (.ref b1)) (fun h => by rw [Bd.returns] at h; cases h) (fun fs hr => retA X10 hx Bd.returns rfl rfl (hb hby d2_34) hr) ⟨b1, rfl, N10, (((((Keep.refl h0 []).ext E1).ext E3).wr W5 (Or.inr sz_b3)).trans K10 (allS (Or.inr sz_b1) all0)), o10_e, Or.inl ⟨o10_c, sv10, _, _, o10_v, o10_a, own_lo hr0 hl0⟩⟩ (by decide : 3 ≤ _) (by decide : 6 ≤ _)
theorem d2_35 : decode method_4_code 35 = .ok (.new 35, 3) := by decide +kernel
theorem d2_38 : decode method_4_code 38 = .ok (.dup, 1) := by decide +kernel
theorem d2_39 : decode method_4_code 39 = .ok (.iconst 2, 1) := by decide +kernel
theorem d2_40 : decode method_4_code 40 = .ok (.newarray .char, 2) := by decide +kernel
theorem d2_42 : decode method_4_code 42 = .ok (.dup, 1) := by decide +kernel
theorem d2_43 : decode method_4_code 43 = .ok (.iconst 0, 1) := by decide +kernel
theorem d2_44 : decode method_4_code 44 = .ok (.iload_n 1, 1) := by decide +kernel
theorem d2_45 : decode method_4_code 45 = .ok (.castore, 1) := by decide +kernel
theorem d2_46 : decode method_4_code 46 = .ok (.dup, 1) := by decide +kernel
theorem d2_47 : decode method_4_code 47 = .ok (.iconst 1, 1) := by decide +kernel
theorem d2_48 : decode method_4_code 48 = .ok (.iload_n 2, 1) := by decide +kernel
theorem d2_49 : decode method_4_code 49 = .ok (.castore, 1) := by decide +kernel
theorem d2_50 : decode method_4_code 50 = .ok (.invokespecial 37, 3) := by decide +kernel
theorem d2_53 : decode method_4_code 53 = .ok (.areturn, 1) := by decide +kernel
theorem ef_rmM2 (m : MethodId) (w0 : Int32) (w1 : Int32)  : entryFrame m #[(.int 2), (.int w0), (.int w1)] 3 = mkF m 0 #[.val (.int 2), .val (.int w0), .val (.int w1)] [] := by first |  (simp [entryFrame, mkF, argsToLocals, Value.category]; done) | rfl
def Q_rmM2 (Z : State) (w0 : Int32) (w1 : Int32) (cs : Int32) (fm : Value) (h0 : Heap) (n0 : Nat) (v : Option Value) (h : Heap) (L : List Loc) : Prop := ∃ r : Addr, v = some (.ref r) ∧ Fr n0 L ∧ Keep h0 h [] ∧ own_U2 Z h r w0 w1
theorem rmM2 (l : Launch) (Z : State) (a0 : Array Value) (hw : ∀ d ∈ tables_1, d.before a0 Z = true) (ws : List Jvm.Cond) (w0 : Int32) (w1 : Int32) (cs : Int32) (fm : Value) (h0 : Heap) (n0 : Nat) (Z0 : n0 ≤ h0.size) (hr0 : own_R w0) (hr1 : own_R w1) (hKs : own_K Z cs fm) (hO : Old Z n0 h0) :
    MetFree l own_m11 (head1 (Jvm.Cond.code own_m11 method_4_code 3 (some (.object "java/lang/String")) :: ws) ({ frames := 6, cells := 8, slots := 64, locals := 88 } : Room)) (fun a U => a = #[(.int 2), (.int w0), (.int w1)] ∧ Z.Warmed39 U.vm ∧ U.heap = h0) (fun _ _ _ _ _ => True) (fun _ U o U' => ∃ v L, o = .returned v ∧ Q_rmM2 Z w0 w1 cs fm h0 n0 v U'.heap L ∧ FrameEnd U o U' L ({ frames := 6, cells := 8, slots := 64, locals := 88 } : Room).cells ({ frames := 6, cells := 8, slots := 64, locals := 88 } : Room).slots) := by
  refine MetFree.of_bodySF (plainFor_of_name pn_com_example_tiphys_tiphys_CodePointOrderComparePinLaw) hisR ?_
  intro p e s m args below meth c s₁ Bd hml0 hP hK
  obtain ⟨rfl, hZ, hh⟩ := hP
  have hx := Bd.exec
  have hby := Bd.bytes
  have hml : c.maxLocals = 3 := hml0
  have hown : s.vm.findClass "com/example/tiphys/tiphys/CodePointOrderComparePinLaw" = some m.cls := findClass_of_methodNamed Bd.named
  have hnm := (name_of_methodNamed Bd.named Bd.method).1
  have hlk := Bd.notSynchronized
  have X0 : Stand p l e ({ frames := 6, cells := 8, slots := 64, locals := 88 } : Room) s m #[(.int 2), (.int w0), (.int w1)] below meth c s₁ [] 0 0 := Stand.of_body Bd
  have e0 : s₁.heap = h0 := by rw [← hh, Bd.state]; rfl
  have N0 := Fr.nil n0
  show own_G p.tables e below s (Q_rmM2 Z w0 w1 cs fm h0 n0) ({ frames := 6, cells := 8, slots := 64, locals := 88 } : Room).cells ({ frames := 6, cells := 8, slots := 64, locals := 88 } : Room).slots _
  refine own_thr (a := s₁.setTop (mkF m 0 #[.val (.int 2), .val (.int w0), .val (.int w1)] [])) (fun t kt => castTop (ef_rmM2 m w0 w1) kt) ?_
  refine own_thr (a := s₁.setTop (mkF m 35 #[.val (.int 2), .val (.int w0), .val (.int w1)] [])) (fun t kt => ?_) ?_
  · refine XS.iloadN X0.here hx rfl (hb hby d2_0) rfl ?_
    refine XS.ifYes X0.here hx rfl (pc0 := 1) (pc' := 15) rfl (hb hby d2_1) rfl ((if0 _ _).trans (feq (by decide)).2) (by decide) (by decide) ?_
    refine XS.iloadN X0.here hx rfl (hb hby d2_15) rfl ?_
    refine XS.iconst X0.here hx rfl (hb hby d2_16) ?_
    refine XS.icmpYes X0.here hx rfl (pc0 := 17) (pc' := 35) rfl (hb hby d2_17) rfl (feq (by decide)).2 (by decide) (by decide) ?_
    exact kt
  obtain ⟨T1, h1, X1, e1, E1, A1, D1, U1, st1⟩ := newO X0 hx hZ hown (hw _ (own_i 11 rfl)) (hw _ (own_i 12 rfl)) (hw _ (own_i 13 rfl)) e0 (g := (mkF m 35 #[.val (.int 2), .val (.int w0), .val (.int w1)] [])) rfl (hb hby d2_35) (by decide : 0 + 1 ≤ _) (by decide : 0 + 4 ≤ _)
  obtain ⟨b1, g1⟩ : ∃ z, z = h0.size := ⟨_, rfl⟩
  rw [← g1] at A1 D1 st1 U1
  have g_b1 : n0 ≤ b1 := Nat.le_trans Z0 (Nat.le_of_eq g1.symm)
  have sz_b1 : h0.size ≤ b1 := Nat.le_trans (Nat.le_refl h0.size) (Nat.le_of_eq g1.symm)
  have Z2 : n0 ≤ h1.size := Nat.le_trans Z0 E1.1
  have Z2h : h0.size ≤ h1.size := Nat.le_trans (Nat.le_refl h0.size) E1.1
  have F_value_b1 : Fld Z h1 b1 "java/lang/String" "value" "[B" .null := D1 (Or.inr (hw _ (own_i 27 rfl))) (ty := (.array .byte)) (by decide)
  have F_coder_b1 : Fld Z h1 b1 "java/lang/String" "coder" "B" (.int 0) := D1 (Or.inr (hw _ (own_i 28 rfl))) (ty := .byte) (by decide)
  refine own_thr (a := T1.setTop (mkF m 38 #[.val (.int 2), .val (.int w0), .val (.int w1)] [(.ref b1)])) (fun t kt => st1 t kt) ?_
  refine own_thr (a := T1.setTop (mkF m 40 #[.val (.int 2), .val (.int w0), .val (.int w1)] [(.int 2), (.ref b1), (.ref b1)])) (fun t kt => ?_) ?_
  · refine XS.dup X1.here hx rfl (hb hby d2_38) rfl rfl ?_
    refine XS.iconst X1.here hx rfl (hb hby d2_39) ?_
    exact kt
  obtain ⟨T3, h3, k3, X3, e3, E3, A3, st3⟩ := newP X1 hx hZ (hw _ (own_i 14 rfl)) e1 (g := (mkF m 40 #[.val (.int 2), .val (.int w0), .val (.int w1)] [(.int 2), (.ref b1), (.ref b1)])) rfl (hb hby d2_40) rfl (by decide) (cap := 2) (by decide) (by decide) (by decide : 1 + 1 ≤ _) (by decide : 4 + 2 ≤ _)
  obtain ⟨b3, g3⟩ : ∃ z, z = h1.size := ⟨_, rfl⟩
  rw [← g3] at A3 st3
  have g_b3 : n0 ≤ b3 := Nat.le_trans Z2 (Nat.le_of_eq g3.symm)
  have sz_b3 : h0.size ≤ b3 := Nat.le_trans Z2h (Nat.le_of_eq g3.symm)
  have lt_b1_b3 : b1 < b3 := Nat.lt_of_lt_of_le A1.lt (Nat.le_of_eq g3.symm)
  have ne_b1_b3 : b1 ≠ b3 := Nat.ne_of_lt lt_b1_b3
  have V_b3 : Arv Z h3 b3 k3 .char (2 : Int32) [(.int 0), (.int 0)] (.int 0) := (Arv.new A3 (by decide)).pad (pad_rep [] (.int 0) 2)
  have Z4 : n0 ≤ h3.size := Nat.le_trans Z2 E3.1
  have Z4h : h0.size ≤ h3.size := Nat.le_trans Z2h E3.1
  refine own_thr (a := T3.setTop (mkF m 42 #[.val (.int 2), .val (.int w0), .val (.int w1)] [(.ref b3), (.ref b1), (.ref b1)])) (fun t kt => st3 t kt) ?_
  refine own_thr (a := T3.setTop (mkF m 45 #[.val (.int 2), .val (.int w0), .val (.int w1)] [(.int w0), (.int 0), (.ref b3), (.ref b3), (.ref b1), (.ref b1)])) (fun t kt => ?_) ?_
  · refine XS.dup X3.here hx rfl (hb hby d2_42) rfl rfl ?_
    refine XS.iconst X3.here hx rfl (hb hby d2_43) ?_
    refine XS.iloadN X3.here hx rfl (hb hby d2_44) rfl ?_
    exact kt
  obtain ⟨cl5, Ar5, q5, S5, M5, H5, G5⟩ := id V_b3
  have hin5 : ¬ ((0 : Int32) < 0 ∨ cl5.slots.size ≤ ((0 : Int32)).toNatClampNeg) := inb_of S5 ⟨by decide, by decide⟩
  obtain ⟨T5, h5, X5, e5, W5, st5⟩ := stC X3 hx hZ e3 Ar5 (j := (0 : Int32)) hin5 (g := (mkF m 45 #[.val (.int 2), .val (.int w0), .val (.int w1)] [(.int w0), (.int 0), (.ref b3), (.ref b3), (.ref b1), (.ref b1)])) rfl rfl (hb hby d2_45)
  have Z6 : n0 ≤ h5.size := Nat.le_trans Z4 (Nat.le_of_eq W5.size.symm)
  have Z6h : h0.size ≤ h5.size := Nat.le_trans Z4h (Nat.le_of_eq W5.size.symm)
  have V5 : Arv Z h5 b3 k3 .char (2 : Int32) [(.int (w0.toUInt32.toUInt16.toUInt32.toInt32)), (.int 0)] (.int 0) := Arv.set Ar5 q5 S5 M5 H5 G5 (fits_nar_char _) W5 0 rfl (Nat.le_of_ble_eq_true rfl)
  obtain ⟨lc5, X5, N5⟩ := own_pack1 X5 N0 g_b3
  refine own_thr (a := T5.setTop (mkF m 46 #[.val (.int 2), .val (.int w0), .val (.int w1)] [(.ref b3), (.ref b1), (.ref b1)])) (fun t kt => st5 t kt) ?_
  refine own_thr (a := T5.setTop (mkF m 49 #[.val (.int 2), .val (.int w0), .val (.int w1)] [(.int w1), (.int 1), (.ref b3), (.ref b3), (.ref b1), (.ref b1)])) (fun t kt => ?_) ?_
  · refine XS.dup X5.here hx rfl (hb hby d2_46) rfl rfl ?_
    refine XS.iconst X5.here hx rfl (hb hby d2_47) ?_
    refine XS.iloadN X5.here hx rfl (hb hby d2_48) rfl ?_
    exact kt
  obtain ⟨cl7, Ar7, q7, S7, M7, H7, G7⟩ := id V5
  have hin7 : ¬ ((1 : Int32) < 0 ∨ cl7.slots.size ≤ ((1 : Int32)).toNatClampNeg) := inb_of S7 ⟨by decide, by decide⟩
  obtain ⟨T7, h7, X7, e7, W7, st7⟩ := stC X5 hx hZ e5 Ar7 (j := (1 : Int32)) hin7 (g := (mkF m 49 #[.val (.int 2), .val (.int w0), .val (.int w1)] [(.int w1), (.int 1), (.ref b3), (.ref b3), (.ref b1), (.ref b1)])) rfl rfl (hb hby d2_49)
  have Z8 : n0 ≤ h7.size := Nat.le_trans Z6 (Nat.le_of_eq W7.size.symm)
  have Z8h : h0.size ≤ h7.size := Nat.le_trans Z6h (Nat.le_of_eq W7.size.symm)
  have V7 : Arv Z h7 b3 k3 .char (2 : Int32) [(.int (w0.toUInt32.toUInt16.toUInt32.toInt32)), (.int (w1.toUInt32.toUInt16.toUInt32.toInt32))] (.int 0) := Arv.set Ar7 q7 S7 M7 H7 G7 (fits_nar_char _) W7 1 rfl (Nat.le_of_ble_eq_true rfl)
  obtain ⟨lc7, X7, N7⟩ := own_pack1 X7 N5 g_b3
  refine own_thr (a := T7.setTop (mkF m 50 #[.val (.int 2), .val (.int w0), .val (.int w1)] [(.ref b3), (.ref b1), (.ref b1)])) (fun t kt => st7 t kt) ?_
  have vr9 := V7
  rw [own_i2c hr0, own_i2c hr1] at vr9
  by_cases hl0 : (255 : Int32) < w0
  · skip
    have c11 := (((F_value_b1.ext E3).other W5 (Or.inl ne_b1_b3)).other W7 (Or.inl ne_b1_b3))
    have c12 := (((F_coder_b1.ext E3).other W5 (Or.inl ne_b1_b3)).other W7 (Or.inl ne_b1_b3))
    obtain ⟨_, _, ⟨T10, L10, k10, n10⟩, -, X10, ⟨Lc10, hQ10, l10, y10, z10⟩, st10⟩ := X7.specialBack hx (y := own_m10) rfl hown (mvT hZ (hw _ (own_i 15 rfl))) (mvT hZ (hw _ (own_i 16 rfl))) (mvT hZ (hw _ (own_i 17 rfl))) (by decide) (backOf (W := 1) (rmC2U l Z a0 hw [] b1 b3 w0 w1 k3 cs fm h7 n0 Z8 (((A1.ext E3).wr W5).wr W7) c11 c12 vr9 g_b1 ne_b1_b3 (Or.inl hl0) hr0 hr1 hKs ((((hO.ext E1).ext E3).wr W5 g_b3).wr W7 g_b3)) hZ (hw _ (own_i 17 rfl)) (hw _ (own_i 13 rfl)) (by decide) (by decide)) (g := (mkF m 50 #[.val (.int 2), .val (.int w0), .val (.int w1)] [(.ref b3), (.ref b1), (.ref b1)])) rfl (by rw [hml]; rfl) (Steps.refl _) (a := b1) (argsL := [(.ref b3)]) (rest := [(.ref b1)]) (lenOf pd__28_5bC_29V rfl) rfl (own_q rfl) (hb hby d2_50) (fun _ _ => ⟨rfl, e7, (by decide : 2 + 2 ≤ _), (by decide : 6 + 6 ≤ _)⟩)
    dsimp only [Pt.U, Pt.locs, Pt.cells, Pt.slots] at X10 l10 y10 z10 st10 hQ10
    obtain ⟨rfl, N10q, K10, o10_e, o10_c, sv10, ks10, o10_v, o10_a⟩ := hQ10
    have Z13 : n0 ≤ T10.heap.size := Nat.le_trans Z8 K10.1
    have Z13h : h0.size ≤ T10.heap.size := Nat.le_trans Z8h K10.1
    obtain ⟨lc10, X10, N10⟩ := own_pack X10 l10 y10 z10 N7 N10q (C := 4) (S' := 12) rfl rfl
    refine own_thr (a := T10.setTop (mkF m 53 #[.val (.int 2), .val (.int w0), .val (.int w1)] [(.ref b1)])) (fun t kt => st10.trans kt) ?_
    exact own_end X10 hlk (v := some (.ref b1)) (fun h => by rw [Bd.returns] at h; cases h) (fun fs hr => retA X10 hx Bd.returns rfl rfl (hb hby d2_53) hr) ⟨b1, rfl, N10, ((((((Keep.refl h0 []).ext E1).ext E3).wr W5 (Or.inr sz_b3)).wr W7 (Or.inr sz_b3)).trans K10 (allS (Or.inr sz_b1) all0)), o10_e, Or.inr ⟨o10_c, sv10, _, _, _, _, _, o10_v, o10_a, (own_gp hr0).symm, (own_gp hr1).symm⟩⟩ (by decide : 4 ≤ _) (by decide : 12 ≤ _)
  · skip
    by_cases hl1 : (255 : Int32) < w1
    · skip
      have c15 := (((F_value_b1.ext E3).other W5 (Or.inl ne_b1_b3)).other W7 (Or.inl ne_b1_b3))
      have c16 := (((F_coder_b1.ext E3).other W5 (Or.inl ne_b1_b3)).other W7 (Or.inl ne_b1_b3))
      obtain ⟨_, _, ⟨T14, L14, k14, n14⟩, -, X14, ⟨Lc14, hQ14, l14, y14, z14⟩, st14⟩ := X7.specialBack hx (y := own_m10) rfl hown (mvT hZ (hw _ (own_i 15 rfl))) (mvT hZ (hw _ (own_i 16 rfl))) (mvT hZ (hw _ (own_i 17 rfl))) (by decide) (backOf (W := 1) (rmC2U l Z a0 hw [] b1 b3 w0 w1 k3 cs fm h7 n0 Z8 (((A1.ext E3).wr W5).wr W7) c15 c16 vr9 g_b1 ne_b1_b3 (Or.inr ⟨hl0, hl1⟩) hr0 hr1 hKs ((((hO.ext E1).ext E3).wr W5 g_b3).wr W7 g_b3)) hZ (hw _ (own_i 17 rfl)) (hw _ (own_i 13 rfl)) (by decide) (by decide)) (g := (mkF m 50 #[.val (.int 2), .val (.int w0), .val (.int w1)] [(.ref b3), (.ref b1), (.ref b1)])) rfl (by rw [hml]; rfl) (Steps.refl _) (a := b1) (argsL := [(.ref b3)]) (rest := [(.ref b1)]) (lenOf pd__28_5bC_29V rfl) rfl (own_q rfl) (hb hby d2_50) (fun _ _ => ⟨rfl, e7, (by decide : 2 + 2 ≤ _), (by decide : 6 + 6 ≤ _)⟩)
      dsimp only [Pt.U, Pt.locs, Pt.cells, Pt.slots] at X14 l14 y14 z14 st14 hQ14
      obtain ⟨rfl, N14q, K14, o14_e, o14_c, sv14, ks14, o14_v, o14_a⟩ := hQ14
      have Z17 : n0 ≤ T14.heap.size := Nat.le_trans Z8 K14.1
      have Z17h : h0.size ≤ T14.heap.size := Nat.le_trans Z8h K14.1
      obtain ⟨lc14, X14, N14⟩ := own_pack X14 l14 y14 z14 N7 N14q (C := 4) (S' := 12) rfl rfl
      refine own_thr (a := T14.setTop (mkF m 53 #[.val (.int 2), .val (.int w0), .val (.int w1)] [(.ref b1)])) (fun t kt => st14.trans kt) ?_
      exact own_end X14 hlk (v := some (.ref b1)) (fun h => by rw [Bd.returns] at h; cases h) (fun fs hr => retA X14 hx Bd.returns rfl rfl (hb hby d2_53) hr) ⟨b1, rfl, N14, ((((((Keep.refl h0 []).ext E1).ext E3).wr W5 (Or.inr sz_b3)).wr W7 (Or.inr sz_b3)).trans K14 (allS (Or.inr sz_b1) all0)), o14_e, Or.inr ⟨o14_c, sv14, _, _, _, _, _, o14_v, o14_a, (own_gp hr0).symm, (own_gp hr1).symm⟩⟩ (by decide : 4 ≤ _) (by decide : 12 ≤ _)
    · skip
      have c19 := (((F_value_b1.ext E3).other W5 (Or.inl ne_b1_b3)).other W7 (Or.inl ne_b1_b3))
      have c20 := (((F_coder_b1.ext E3).other W5 (Or.inl ne_b1_b3)).other W7 (Or.inl ne_b1_b3))
      obtain ⟨_, _, ⟨T18, L18, k18, n18⟩, -, X18, ⟨Lc18, hQ18, l18, y18, z18⟩, st18⟩ := X7.specialBack hx (y := own_m10) rfl hown (mvT hZ (hw _ (own_i 15 rfl))) (mvT hZ (hw _ (own_i 16 rfl))) (mvT hZ (hw _ (own_i 17 rfl))) (by decide) (backOf (W := 1) (rmC2LL l Z a0 hw [] b1 b3 w0 w1 k3 cs fm h7 n0 Z8 (((A1.ext E3).wr W5).wr W7) c19 c20 vr9 g_b1 ne_b1_b3 hl0 hl1 hr0 hr1 hKs ((((hO.ext E1).ext E3).wr W5 g_b3).wr W7 g_b3)) hZ (hw _ (own_i 17 rfl)) (hw _ (own_i 13 rfl)) (by decide) (by decide)) (g := (mkF m 50 #[.val (.int 2), .val (.int w0), .val (.int w1)] [(.ref b3), (.ref b1), (.ref b1)])) rfl (by rw [hml]; rfl) (Steps.refl _) (a := b1) (argsL := [(.ref b3)]) (rest := [(.ref b1)]) (lenOf pd__28_5bC_29V rfl) rfl (own_q rfl) (hb hby d2_50) (fun _ _ => ⟨rfl, e7, (by decide : 2 + 1 ≤ _), (by decide : 6 + 2 ≤ _)⟩)
      dsimp only [Pt.U, Pt.locs, Pt.cells, Pt.slots] at X18 l18 y18 z18 st18 hQ18
      obtain ⟨rfl, N18q, K18, o18_e, o18_c, sv18, ks18, o18_v, o18_a⟩ := hQ18
      have Z21 : n0 ≤ T18.heap.size := Nat.le_trans Z8 K18.1
      have Z21h : h0.size ≤ T18.heap.size := Nat.le_trans Z8h K18.1
      obtain ⟨lc18, X18, N18⟩ := own_pack X18 l18 y18 z18 N7 N18q (C := 3) (S' := 8) rfl rfl
      refine own_thr (a := T18.setTop (mkF m 53 #[.val (.int 2), .val (.int w0), .val (.int w1)] [(.ref b1)])) (fun t kt => st18.trans kt) ?_
      exact own_end X18 hlk (v := some (.ref b1)) (fun h => by rw [Bd.returns] at h; cases h) (fun fs hr => retA X18 hx Bd.returns rfl rfl (hb hby d2_53) hr) ⟨b1, rfl, N18, ((((((Keep.refl h0 []).ext E1).ext E3).wr W5 (Or.inr sz_b3)).wr W7 (Or.inr sz_b3)).trans K18 (allS (Or.inr sz_b1) all0)), o18_e, Or.inl ⟨o18_c, sv18, _, _, _, o18_v, o18_a, own_lo hr0 hl0, own_lo hr1 hl1⟩⟩ (by decide : 3 ≤ _) (by decide : 8 ≤ _)
theorem d8_0 : decode jdk_42_method_152_code 0 = .ok (.getstatic 38, 3) := by decide +kernel
theorem d8_3 : decode jdk_42_method_152_code 3 = .ok (.ifCond .eq 10, 3) := by decide +kernel
theorem d8_6 : decode jdk_42_method_152_code 6 = .ok (.aload_n 0, 1) := by decide +kernel
theorem d8_7 : decode jdk_42_method_152_code 7 = .ok (.getfield 15, 3) := by decide +kernel
theorem d8_10 : decode jdk_42_method_152_code 10 = .ok (.goto 4, 3) := by decide +kernel
theorem d8_14 : decode jdk_42_method_152_code 14 = .ok (.ireturn, 1) := by decide +kernel
theorem ef_rmCO0 (m : MethodId) (o0 : Addr)  : entryFrame m #[(.ref o0)] 1 = mkF m 0 #[.val (.ref o0)] [] := by first |  (simp [entryFrame, mkF, argsToLocals, Value.category]; done) | rfl
def Q_rmCO0 (Z : State) (o0 : Addr) (cs : Int32) (fm : Value) (h0 : Heap) (n0 : Nat) (v : Option Value) (h : Heap) (L : List Loc) : Prop := v = some (.int 0) ∧ Fr n0 L ∧ h = h0
theorem rmCO0 (l : Launch) (Z : State) (a0 : Array Value) (hw : ∀ d ∈ tables_1, d.before a0 Z = true) (ws : List Jvm.Cond) (o0 : Addr) (cs : Int32) (fm : Value) (h0 : Heap) (n0 : Nat) (Z0 : n0 ≤ h0.size) (E_o0 : Exa Z h0 o0 "java/lang/String") (F_coder_o0 : Fld Z h0 o0 "java/lang/String" "coder" "B" (.int 0)) (hKs : own_K Z cs fm) (hO : Old Z n0 h0) :
    MetFree l own_m12 (head1 (Jvm.Cond.code own_m12 jdk_42_method_152_code 1 (some .byte) :: ws) ({ frames := 0, cells := 0, slots := 0, locals := 0 } : Room)) (fun a U => a = #[(.ref o0)] ∧ Z.Warmed39 U.vm ∧ U.heap = h0) (fun _ _ _ _ _ => True) (fun _ U o U' => ∃ v L, o = .returned v ∧ Q_rmCO0 Z o0 cs fm h0 n0 v U'.heap L ∧ FrameEnd U o U' L ({ frames := 0, cells := 0, slots := 0, locals := 0 } : Room).cells ({ frames := 0, cells := 0, slots := 0, locals := 0 } : Room).slots) := by
  refine MetFree.of_bodySF (plainFor_of_name pn_java_lang_String) hisR ?_
  intro p e s m args below meth c s₁ Bd hml0 hP hK
  obtain ⟨rfl, hZ, hh⟩ := hP
  have hx := Bd.exec
  have hby := Bd.bytes
  have hml : c.maxLocals = 1 := hml0
  have hown : s.vm.findClass "java/lang/String" = some m.cls := findClass_of_methodNamed Bd.named
  have hnm := (name_of_methodNamed Bd.named Bd.method).1
  have hlk := Bd.notSynchronized
  have X0 : Stand p l e ({ frames := 0, cells := 0, slots := 0, locals := 0 } : Room) s m #[(.ref o0)] below meth c s₁ [] 0 0 := Stand.of_body Bd
  have e0 : s₁.heap = h0 := by rw [← hh, Bd.state]; rfl
  have N0 := Fr.nil n0
  show own_G p.tables e below s (Q_rmCO0 Z o0 cs fm h0 n0) ({ frames := 0, cells := 0, slots := 0, locals := 0 } : Room).cells ({ frames := 0, cells := 0, slots := 0, locals := 0 } : Room).slots _
  refine own_thr (a := s₁.setTop (mkF m 0 #[.val (.ref o0)] [])) (fun t kt => castTop (ef_rmCO0 m o0) kt) ?_
  obtain ⟨T1, X1, e1, st1⟩ := getS2 X0 hx hZ hown (host := "") (Or.inl (hw _ (own_i 47 rfl))) Via.refl e0 (hKs.1.ext hO.2) (g := (mkF m 0 #[.val (.ref o0)] [])) rfl (hb hby d8_0)
  refine own_thr (a := T1.setTop (mkF m 3 #[.val (.ref o0)] [(.int cs)])) (fun t kt => st1 t kt) ?_
  refine own_thr (a := T1.setTop (mkF m 7 #[.val (.ref o0)] [(.ref o0)])) (fun t kt => ?_) ?_
  · refine XS.ifNo X1.here hx rfl (hb hby d8_3) rfl ((if0 _ _).trans (feq hKs.2.1).1) ?_
    refine XS.aloadN X1.here hx rfl (hb hby d8_6) rfl rfl ?_
    exact kt
  obtain ⟨T2, X2, e2, st2⟩ := getF X1 hx hZ hown (host := "") (Or.inl (hw _ (own_i 32 rfl))) Via.refl e1 F_coder_o0 (g := (mkF m 7 #[.val (.ref o0)] [(.ref o0)])) rfl rfl (hb hby d8_7)
  refine own_thr (a := T2.setTop (mkF m 10 #[.val (.ref o0)] [(.int 0)])) (fun t kt => st2 t kt) ?_
  refine own_thr (a := T2.setTop (mkF m 14 #[.val (.ref o0)] [(.int 0)])) (fun t kt => ?_) ?_
  · refine XS.goto X2.here hx rfl (pc0 := 10) (pc' := 14) rfl (hb hby d8_10) (by decide) (by decide) ?_
    exact kt
  exact own_end X2 hlk (v := some (.int 0)) (fun h => by rw [Bd.returns] at h; cases h) (fun fs hr => retN X2 hx (t := .byte) Bd.returns (by simp) (hb hby d8_14) hr) (by rw [e2]; exact ⟨rfl, N0, rfl⟩) (by decide : 0 ≤ _) (by decide : 0 ≤ _)
theorem ef_rmCO1 (m : MethodId) (o0 : Addr)  : entryFrame m #[(.ref o0)] 1 = mkF m 0 #[.val (.ref o0)] [] := by first |  (simp [entryFrame, mkF, argsToLocals, Value.category]; done) | rfl
def Q_rmCO1 (Z : State) (o0 : Addr) (cs : Int32) (fm : Value) (h0 : Heap) (n0 : Nat) (v : Option Value) (h : Heap) (L : List Loc) : Prop := v = some (.int 1) ∧ Fr n0 L ∧ h = h0
theorem rmCO1 (l : Launch) (Z : State) (a0 : Array Value) (hw : ∀ d ∈ tables_1, d.before a0 Z = true) (ws : List Jvm.Cond) (o0 : Addr) (cs : Int32) (fm : Value) (h0 : Heap) (n0 : Nat) (Z0 : n0 ≤ h0.size) (E_o0 : Exa Z h0 o0 "java/lang/String") (F_coder_o0 : Fld Z h0 o0 "java/lang/String" "coder" "B" (.int 1)) (hKs : own_K Z cs fm) (hO : Old Z n0 h0) :
    MetFree l own_m12 (head1 (Jvm.Cond.code own_m12 jdk_42_method_152_code 1 (some .byte) :: ws) ({ frames := 0, cells := 0, slots := 0, locals := 0 } : Room)) (fun a U => a = #[(.ref o0)] ∧ Z.Warmed39 U.vm ∧ U.heap = h0) (fun _ _ _ _ _ => True) (fun _ U o U' => ∃ v L, o = .returned v ∧ Q_rmCO1 Z o0 cs fm h0 n0 v U'.heap L ∧ FrameEnd U o U' L ({ frames := 0, cells := 0, slots := 0, locals := 0 } : Room).cells ({ frames := 0, cells := 0, slots := 0, locals := 0 } : Room).slots) := by
  refine MetFree.of_bodySF (plainFor_of_name pn_java_lang_String) hisR ?_
  intro p e s m args below meth c s₁ Bd hml0 hP hK
  obtain ⟨rfl, hZ, hh⟩ := hP
  have hx := Bd.exec
  have hby := Bd.bytes
  have hml : c.maxLocals = 1 := hml0
  have hown : s.vm.findClass "java/lang/String" = some m.cls := findClass_of_methodNamed Bd.named
  have hnm := (name_of_methodNamed Bd.named Bd.method).1
  have hlk := Bd.notSynchronized
  have X0 : Stand p l e ({ frames := 0, cells := 0, slots := 0, locals := 0 } : Room) s m #[(.ref o0)] below meth c s₁ [] 0 0 := Stand.of_body Bd
  have e0 : s₁.heap = h0 := by rw [← hh, Bd.state]; rfl
  have N0 := Fr.nil n0
  show own_G p.tables e below s (Q_rmCO1 Z o0 cs fm h0 n0) ({ frames := 0, cells := 0, slots := 0, locals := 0 } : Room).cells ({ frames := 0, cells := 0, slots := 0, locals := 0 } : Room).slots _
  refine own_thr (a := s₁.setTop (mkF m 0 #[.val (.ref o0)] [])) (fun t kt => castTop (ef_rmCO1 m o0) kt) ?_
  obtain ⟨T1, X1, e1, st1⟩ := getS2 X0 hx hZ hown (host := "") (Or.inl (hw _ (own_i 47 rfl))) Via.refl e0 (hKs.1.ext hO.2) (g := (mkF m 0 #[.val (.ref o0)] [])) rfl (hb hby d8_0)
  refine own_thr (a := T1.setTop (mkF m 3 #[.val (.ref o0)] [(.int cs)])) (fun t kt => st1 t kt) ?_
  refine own_thr (a := T1.setTop (mkF m 7 #[.val (.ref o0)] [(.ref o0)])) (fun t kt => ?_) ?_
  · refine XS.ifNo X1.here hx rfl (hb hby d8_3) rfl ((if0 _ _).trans (feq hKs.2.1).1) ?_
    refine XS.aloadN X1.here hx rfl (hb hby d8_6) rfl rfl ?_
    exact kt
  obtain ⟨T2, X2, e2, st2⟩ := getF X1 hx hZ hown (host := "") (Or.inl (hw _ (own_i 32 rfl))) Via.refl e1 F_coder_o0 (g := (mkF m 7 #[.val (.ref o0)] [(.ref o0)])) rfl rfl (hb hby d8_7)
  refine own_thr (a := T2.setTop (mkF m 10 #[.val (.ref o0)] [(.int 1)])) (fun t kt => st2 t kt) ?_
  refine own_thr (a := T2.setTop (mkF m 14 #[.val (.ref o0)] [(.int 1)])) (fun t kt => ?_) ?_
  · refine XS.goto X2.here hx rfl (pc0 := 10) (pc' := 14) rfl (hb hby d8_10) (by decide) (by decide) ?_
    exact kt
  exact own_end X2 hlk (v := some (.int 1)) (fun h => by rw [Bd.returns] at h; cases h) (fun fs hr => retN X2 hx (t := .byte) Bd.returns (by simp) (hb hby d8_14) hr) (by rw [e2]; exact ⟨rfl, N0, rfl⟩) (by decide : 0 ≤ _) (by decide : 0 ≤ _)
theorem d22_0 : decode jdk_42_method_154_code 0 = .ok (.getstatic 38, 3) := by decide +kernel
theorem d22_3 : decode jdk_42_method_154_code 3 = .ok (.ifCond .eq 14, 3) := by decide +kernel
theorem d22_6 : decode jdk_42_method_154_code 6 = .ok (.aload_n 0, 1) := by decide +kernel
theorem d22_7 : decode jdk_42_method_154_code 7 = .ok (.getfield 15, 3) := by decide +kernel
theorem d22_10 : decode jdk_42_method_154_code 10 = .ok (.ifCond .ne 7, 3) := by decide +kernel
theorem d22_13 : decode jdk_42_method_154_code 13 = .ok (.iconst 1, 1) := by decide +kernel
theorem d22_14 : decode jdk_42_method_154_code 14 = .ok (.goto 4, 3) := by decide +kernel
theorem d22_18 : decode jdk_42_method_154_code 18 = .ok (.ireturn, 1) := by decide +kernel
theorem ef_rmIL0 (m : MethodId) (o0 : Addr)  : entryFrame m #[(.ref o0)] 1 = mkF m 0 #[.val (.ref o0)] [] := by first |  (simp [entryFrame, mkF, argsToLocals, Value.category]; done) | rfl
def Q_rmIL0 (Z : State) (o0 : Addr) (cs : Int32) (fm : Value) (h0 : Heap) (n0 : Nat) (v : Option Value) (h : Heap) (L : List Loc) : Prop := v = some (.int 1) ∧ Fr n0 L ∧ h = h0
theorem rmIL0 (l : Launch) (Z : State) (a0 : Array Value) (hw : ∀ d ∈ tables_1, d.before a0 Z = true) (ws : List Jvm.Cond) (o0 : Addr) (cs : Int32) (fm : Value) (h0 : Heap) (n0 : Nat) (Z0 : n0 ≤ h0.size) (E_o0 : Exa Z h0 o0 "java/lang/String") (F_coder_o0 : Fld Z h0 o0 "java/lang/String" "coder" "B" (.int 0)) (hKs : own_K Z cs fm) (hO : Old Z n0 h0) :
    MetFree l own_m13 (head1 (Jvm.Cond.code own_m13 jdk_42_method_154_code 1 (some .boolean) :: ws) ({ frames := 0, cells := 0, slots := 0, locals := 0 } : Room)) (fun a U => a = #[(.ref o0)] ∧ Z.Warmed39 U.vm ∧ U.heap = h0) (fun _ _ _ _ _ => True) (fun _ U o U' => ∃ v L, o = .returned v ∧ Q_rmIL0 Z o0 cs fm h0 n0 v U'.heap L ∧ FrameEnd U o U' L ({ frames := 0, cells := 0, slots := 0, locals := 0 } : Room).cells ({ frames := 0, cells := 0, slots := 0, locals := 0 } : Room).slots) := by
  refine MetFree.of_bodySF (plainFor_of_name pn_java_lang_String) hisR ?_
  intro p e s m args below meth c s₁ Bd hml0 hP hK
  obtain ⟨rfl, hZ, hh⟩ := hP
  have hx := Bd.exec
  have hby := Bd.bytes
  have hml : c.maxLocals = 1 := hml0
  have hown : s.vm.findClass "java/lang/String" = some m.cls := findClass_of_methodNamed Bd.named
  have hnm := (name_of_methodNamed Bd.named Bd.method).1
  have hlk := Bd.notSynchronized
  have X0 : Stand p l e ({ frames := 0, cells := 0, slots := 0, locals := 0 } : Room) s m #[(.ref o0)] below meth c s₁ [] 0 0 := Stand.of_body Bd
  have e0 : s₁.heap = h0 := by rw [← hh, Bd.state]; rfl
  have N0 := Fr.nil n0
  show own_G p.tables e below s (Q_rmIL0 Z o0 cs fm h0 n0) ({ frames := 0, cells := 0, slots := 0, locals := 0 } : Room).cells ({ frames := 0, cells := 0, slots := 0, locals := 0 } : Room).slots _
  refine own_thr (a := s₁.setTop (mkF m 0 #[.val (.ref o0)] [])) (fun t kt => castTop (ef_rmIL0 m o0) kt) ?_
  obtain ⟨T1, X1, e1, st1⟩ := getS2 X0 hx hZ hown (host := "") (Or.inl (hw _ (own_i 47 rfl))) Via.refl e0 (hKs.1.ext hO.2) (g := (mkF m 0 #[.val (.ref o0)] [])) rfl (hb hby d22_0)
  refine own_thr (a := T1.setTop (mkF m 3 #[.val (.ref o0)] [(.int cs)])) (fun t kt => st1 t kt) ?_
  refine own_thr (a := T1.setTop (mkF m 7 #[.val (.ref o0)] [(.ref o0)])) (fun t kt => ?_) ?_
  · refine XS.ifNo X1.here hx rfl (hb hby d22_3) rfl ((if0 _ _).trans (feq hKs.2.1).1) ?_
    refine XS.aloadN X1.here hx rfl (hb hby d22_6) rfl rfl ?_
    exact kt
  obtain ⟨T2, X2, e2, st2⟩ := getF X1 hx hZ hown (host := "") (Or.inl (hw _ (own_i 32 rfl))) Via.refl e1 F_coder_o0 (g := (mkF m 7 #[.val (.ref o0)] [(.ref o0)])) rfl rfl (hb hby d22_7)
  refine own_thr (a := T2.setTop (mkF m 10 #[.val (.ref o0)] [(.int 0)])) (fun t kt => st2 t kt) ?_
  refine own_thr (a := T2.setTop (mkF m 18 #[.val (.ref o0)] [(.int 1)])) (fun t kt => ?_) ?_
  · refine XS.ifNo X2.here hx rfl (hb hby d22_10) rfl ((if0 _ _).trans (teq rfl).2) ?_
    refine XS.iconst X2.here hx rfl (hb hby d22_13) ?_
    refine XS.goto X2.here hx rfl (pc0 := 14) (pc' := 18) rfl (hb hby d22_14) (by decide) (by decide) ?_
    exact kt
  exact own_end X2 hlk (v := some (.int 1)) (fun h => by rw [Bd.returns] at h; cases h) (fun fs hr => retN X2 hx (t := .boolean) Bd.returns (by simp) (hb hby d22_18) hr) (by rw [e2]; exact ⟨rfl, N0, rfl⟩) (by decide : 0 ≤ _) (by decide : 0 ≤ _)
theorem d22_17 : decode jdk_42_method_154_code 17 = .ok (.iconst 0, 1) := by decide +kernel
theorem ef_rmIL1 (m : MethodId) (o0 : Addr)  : entryFrame m #[(.ref o0)] 1 = mkF m 0 #[.val (.ref o0)] [] := by first |  (simp [entryFrame, mkF, argsToLocals, Value.category]; done) | rfl
def Q_rmIL1 (Z : State) (o0 : Addr) (cs : Int32) (fm : Value) (h0 : Heap) (n0 : Nat) (v : Option Value) (h : Heap) (L : List Loc) : Prop := v = some (.int 0) ∧ Fr n0 L ∧ h = h0
theorem rmIL1 (l : Launch) (Z : State) (a0 : Array Value) (hw : ∀ d ∈ tables_1, d.before a0 Z = true) (ws : List Jvm.Cond) (o0 : Addr) (cs : Int32) (fm : Value) (h0 : Heap) (n0 : Nat) (Z0 : n0 ≤ h0.size) (E_o0 : Exa Z h0 o0 "java/lang/String") (F_coder_o0 : Fld Z h0 o0 "java/lang/String" "coder" "B" (.int 1)) (hKs : own_K Z cs fm) (hO : Old Z n0 h0) :
    MetFree l own_m13 (head1 (Jvm.Cond.code own_m13 jdk_42_method_154_code 1 (some .boolean) :: ws) ({ frames := 0, cells := 0, slots := 0, locals := 0 } : Room)) (fun a U => a = #[(.ref o0)] ∧ Z.Warmed39 U.vm ∧ U.heap = h0) (fun _ _ _ _ _ => True) (fun _ U o U' => ∃ v L, o = .returned v ∧ Q_rmIL1 Z o0 cs fm h0 n0 v U'.heap L ∧ FrameEnd U o U' L ({ frames := 0, cells := 0, slots := 0, locals := 0 } : Room).cells ({ frames := 0, cells := 0, slots := 0, locals := 0 } : Room).slots) := by
  refine MetFree.of_bodySF (plainFor_of_name pn_java_lang_String) hisR ?_
  intro p e s m args below meth c s₁ Bd hml0 hP hK
  obtain ⟨rfl, hZ, hh⟩ := hP
  have hx := Bd.exec
  have hby := Bd.bytes
  have hml : c.maxLocals = 1 := hml0
  have hown : s.vm.findClass "java/lang/String" = some m.cls := findClass_of_methodNamed Bd.named
  have hnm := (name_of_methodNamed Bd.named Bd.method).1
  have hlk := Bd.notSynchronized
  have X0 : Stand p l e ({ frames := 0, cells := 0, slots := 0, locals := 0 } : Room) s m #[(.ref o0)] below meth c s₁ [] 0 0 := Stand.of_body Bd
  have e0 : s₁.heap = h0 := by rw [← hh, Bd.state]; rfl
  have N0 := Fr.nil n0
  show own_G p.tables e below s (Q_rmIL1 Z o0 cs fm h0 n0) ({ frames := 0, cells := 0, slots := 0, locals := 0 } : Room).cells ({ frames := 0, cells := 0, slots := 0, locals := 0 } : Room).slots _
  refine own_thr (a := s₁.setTop (mkF m 0 #[.val (.ref o0)] [])) (fun t kt => castTop (ef_rmIL1 m o0) kt) ?_
  obtain ⟨T1, X1, e1, st1⟩ := getS2 X0 hx hZ hown (host := "") (Or.inl (hw _ (own_i 47 rfl))) Via.refl e0 (hKs.1.ext hO.2) (g := (mkF m 0 #[.val (.ref o0)] [])) rfl (hb hby d22_0)
  refine own_thr (a := T1.setTop (mkF m 3 #[.val (.ref o0)] [(.int cs)])) (fun t kt => st1 t kt) ?_
  refine own_thr (a := T1.setTop (mkF m 7 #[.val (.ref o0)] [(.ref o0)])) (fun t kt => ?_) ?_
  · refine XS.ifNo X1.here hx rfl (hb hby d22_3) rfl ((if0 _ _).trans (feq hKs.2.1).1) ?_
    refine XS.aloadN X1.here hx rfl (hb hby d22_6) rfl rfl ?_
    exact kt
  obtain ⟨T2, X2, e2, st2⟩ := getF X1 hx hZ hown (host := "") (Or.inl (hw _ (own_i 32 rfl))) Via.refl e1 F_coder_o0 (g := (mkF m 7 #[.val (.ref o0)] [(.ref o0)])) rfl rfl (hb hby d22_7)
  refine own_thr (a := T2.setTop (mkF m 10 #[.val (.ref o0)] [(.int 1)])) (fun t kt => st2 t kt) ?_
  refine own_thr (a := T2.setTop (mkF m 18 #[.val (.ref o0)] [(.int 0)])) (fun t kt => ?_) ?_
  · refine XS.ifYes X2.here hx rfl (pc0 := 10) (pc' := 17) rfl (hb hby d22_10) rfl ((if0 _ _).trans (feq (by decide)).2) (by decide) (by decide) ?_
    refine XS.iconst X2.here hx rfl (hb hby d22_17) ?_
    exact kt
  exact own_end X2 hlk (v := some (.int 0)) (fun h => by rw [Bd.returns] at h; cases h) (fun fs hr => retN X2 hx (t := .boolean) Bd.returns (by simp) (hb hby d22_18) hr) (by rw [e2]; exact ⟨rfl, N0, rfl⟩) (by decide : 0 ≤ _) (by decide : 0 ≤ _)
theorem d24_0 : decode jdk_41_method_11_code 0 = .ok (.iload_n 0, 1) := by decide +kernel
theorem d24_1 : decode jdk_41_method_11_code 1 = .ok (.ifCond .lt 8, 3) := by decide +kernel
theorem d24_4 : decode jdk_41_method_11_code 4 = .ok (.iload_n 0, 1) := by decide +kernel
theorem d24_5 : decode jdk_41_method_11_code 5 = .ok (.iload_n 1, 1) := by decide +kernel
theorem d24_6 : decode jdk_41_method_11_code 6 = .ok (.if_icmp .lt 10, 3) := by decide +kernel
theorem d24_16 : decode jdk_41_method_11_code 16 = .ok (.iload_n 0, 1) := by decide +kernel
theorem d24_17 : decode jdk_41_method_11_code 17 = .ok (.ireturn, 1) := by decide +kernel
theorem pn_jdk_internal_util_Preconditions : plainName "jdk/internal/util/Preconditions" = true := by first | (simp [plainName, overriddenIn]; done) | decide +kernel
theorem ef_rmPI (m : MethodId) (p0 : Int32) (p1 : Int32) (fm : Value) (hfm : fm.isRef = true) : entryFrame m #[(.int p0), (.int p1), fm] 3 = mkF m 0 #[.val (.int p0), .val (.int p1), .val fm] [] := by first | (rcases ref_cases hfm with rfl | ⟨zfm, rfl⟩ <;> simp [entryFrame, mkF, argsToLocals, Value.category]; done) |  (simp [entryFrame, mkF, argsToLocals, Value.category]; done) | rfl
def Q_rmPI (Z : State) (p0 : Int32) (p1 : Int32) (fm : Value) (h0 : Heap) (n0 : Nat) (v : Option Value) (h : Heap) (L : List Loc) : Prop := v = some (.int p0) ∧ Fr n0 L ∧ h = h0
theorem rmPI (l : Launch) (Z : State) (a0 : Array Value) (hw : ∀ d ∈ tables_1, d.before a0 Z = true) (ws : List Jvm.Cond) (p0 : Int32) (p1 : Int32) (fm : Value) (h0 : Heap) (n0 : Nat) (Z0 : n0 ≤ h0.size) (hfm : fm.isRef = true) (hi0 : ¬ p0 < 0) (hi1 : p0 < p1) :
    MetFree l own_m14 (head1 (Jvm.Cond.code own_m14 jdk_41_method_11_code 3 (some .int) :: ws) ({ frames := 0, cells := 0, slots := 0, locals := 0 } : Room)) (fun a U => a = #[(.int p0), (.int p1), fm] ∧ Z.Warmed39 U.vm ∧ U.heap = h0) (fun _ _ _ _ _ => True) (fun _ U o U' => ∃ v L, o = .returned v ∧ Q_rmPI Z p0 p1 fm h0 n0 v U'.heap L ∧ FrameEnd U o U' L ({ frames := 0, cells := 0, slots := 0, locals := 0 } : Room).cells ({ frames := 0, cells := 0, slots := 0, locals := 0 } : Room).slots) := by
  refine MetFree.of_bodySF (plainFor_of_name pn_jdk_internal_util_Preconditions) hisR ?_
  intro p e s m args below meth c s₁ Bd hml0 hP hK
  obtain ⟨rfl, hZ, hh⟩ := hP
  have hx := Bd.exec
  have hby := Bd.bytes
  have hml : c.maxLocals = 3 := hml0
  have hown : s.vm.findClass "jdk/internal/util/Preconditions" = some m.cls := findClass_of_methodNamed Bd.named
  have hnm := (name_of_methodNamed Bd.named Bd.method).1
  have hlk := Bd.notSynchronized
  have X0 : Stand p l e ({ frames := 0, cells := 0, slots := 0, locals := 0 } : Room) s m #[(.int p0), (.int p1), fm] below meth c s₁ [] 0 0 := Stand.of_body Bd
  have e0 : s₁.heap = h0 := by rw [← hh, Bd.state]; rfl
  have N0 := Fr.nil n0
  show own_G p.tables e below s (Q_rmPI Z p0 p1 fm h0 n0) ({ frames := 0, cells := 0, slots := 0, locals := 0 } : Room).cells ({ frames := 0, cells := 0, slots := 0, locals := 0 } : Room).slots _
  refine own_thr (a := s₁.setTop (mkF m 0 #[.val (.int p0), .val (.int p1), .val fm] [])) (fun t kt => castTop (ef_rmPI m p0 p1 fm hfm) kt) ?_
  refine own_thr (a := s₁.setTop (mkF m 17 #[.val (.int p0), .val (.int p1), .val fm] [(.int p0)])) (fun t kt => ?_) ?_
  · refine XS.iloadN X0.here hx rfl (hb hby d24_0) rfl ?_
    refine XS.ifNo X0.here hx rfl (hb hby d24_1) rfl ((if0 _ _).trans (flt hi0).1) ?_
    refine XS.iloadN X0.here hx rfl (hb hby d24_4) rfl ?_
    refine XS.iloadN X0.here hx rfl (hb hby d24_5) rfl ?_
    refine XS.icmpYes X0.here hx rfl (pc0 := 6) (pc' := 16) rfl (hb hby d24_6) rfl (tlt hi1).1 (by decide) (by decide) ?_
    refine XS.iloadN X0.here hx rfl (hb hby d24_16) rfl ?_
    exact kt
  exact own_end X0 hlk (v := some (.int p0)) (fun h => by rw [Bd.returns] at h; cases h) (fun fs hr => retI X0 hx Bd.returns (hb hby d24_17) hr) (by rw [e0]; exact ⟨rfl, N0, rfl⟩) (by decide : 0 ≤ _) (by decide : 0 ≤ _)
theorem d23_0 : decode jdk_42_method_155_code 0 = .ok (.iload_n 0, 1) := by decide +kernel
theorem d23_1 : decode jdk_42_method_155_code 1 = .ok (.iload_n 1, 1) := by decide +kernel
theorem d23_2 : decode jdk_42_method_155_code 2 = .ok (.getstatic 1053, 3) := by decide +kernel
theorem pd__28IILjava_2futil_2ffunction_2fBiFunction_3b_29I : parseMethodDescriptor "(IILjava/util/function/BiFunction;)I" = some ⟨[.int, .int, (.object "java/util/function/BiFunction")], some .int⟩ := by decide +kernel
theorem d23_5 : decode jdk_42_method_155_code 5 = .ok (.invokestatic 1059, 3) := by decide +kernel
theorem d23_8 : decode jdk_42_method_155_code 8 = .ok (.pop, 1) := by decide +kernel
theorem d23_9 : decode jdk_42_method_155_code 9 = .ok (.return_, 1) := by decide +kernel
theorem ef_rmCI (m : MethodId) (p0 : Int32) (p1 : Int32)  : entryFrame m #[(.int p0), (.int p1)] 2 = mkF m 0 #[.val (.int p0), .val (.int p1)] [] := by first |  (simp [entryFrame, mkF, argsToLocals, Value.category]; done) | rfl
def Q_rmCI (Z : State) (p0 : Int32) (p1 : Int32) (cs : Int32) (fm : Value) (h0 : Heap) (n0 : Nat) (v : Option Value) (h : Heap) (L : List Loc) : Prop := v = none ∧ Fr n0 L ∧ h = h0
theorem rmCI (l : Launch) (Z : State) (a0 : Array Value) (hw : ∀ d ∈ tables_1, d.before a0 Z = true) (ws : List Jvm.Cond) (p0 : Int32) (p1 : Int32) (cs : Int32) (fm : Value) (h0 : Heap) (n0 : Nat) (Z0 : n0 ≤ h0.size) (hKs : own_K Z cs fm) (hO : Old Z n0 h0) (hi0 : ¬ p0 < 0) (hi1 : p0 < p1) :
    MetFree l own_m15 (head1 (Jvm.Cond.code own_m15 jdk_42_method_155_code 2 none :: ws) ({ frames := 1, cells := 0, slots := 0, locals := 14 } : Room)) (fun a U => a = #[(.int p0), (.int p1)] ∧ Z.Warmed39 U.vm ∧ U.heap = h0) (fun _ _ _ _ _ => True) (fun _ U o U' => ∃ v L, o = .returned v ∧ Q_rmCI Z p0 p1 cs fm h0 n0 v U'.heap L ∧ FrameEnd U o U' L ({ frames := 1, cells := 0, slots := 0, locals := 14 } : Room).cells ({ frames := 1, cells := 0, slots := 0, locals := 14 } : Room).slots) := by
  refine MetFree.of_bodySF (plainFor_of_name pn_java_lang_String) hisR ?_
  intro p e s m args below meth c s₁ Bd hml0 hP hK
  obtain ⟨rfl, hZ, hh⟩ := hP
  have hx := Bd.exec
  have hby := Bd.bytes
  have hml : c.maxLocals = 2 := hml0
  have hown : s.vm.findClass "java/lang/String" = some m.cls := findClass_of_methodNamed Bd.named
  have hnm := (name_of_methodNamed Bd.named Bd.method).1
  have hlk := Bd.notSynchronized
  have X0 : Stand p l e ({ frames := 1, cells := 0, slots := 0, locals := 14 } : Room) s m #[(.int p0), (.int p1)] below meth c s₁ [] 0 0 := Stand.of_body Bd
  have e0 : s₁.heap = h0 := by rw [← hh, Bd.state]; rfl
  have N0 := Fr.nil n0
  show own_G p.tables e below s (Q_rmCI Z p0 p1 cs fm h0 n0) ({ frames := 1, cells := 0, slots := 0, locals := 14 } : Room).cells ({ frames := 1, cells := 0, slots := 0, locals := 14 } : Room).slots _
  refine own_thr (a := s₁.setTop (mkF m 0 #[.val (.int p0), .val (.int p1)] [])) (fun t kt => castTop (ef_rmCI m p0 p1) kt) ?_
  refine own_thr (a := s₁.setTop (mkF m 2 #[.val (.int p0), .val (.int p1)] [(.int p1), (.int p0)])) (fun t kt => ?_) ?_
  · refine XS.iloadN X0.here hx rfl (hb hby d23_0) rfl ?_
    refine XS.iloadN X0.here hx rfl (hb hby d23_1) rfl ?_
    exact kt
  obtain ⟨T1, X1, e1, st1⟩ := getS2 X0 hx hZ hown (host := "") (Or.inl (hw _ (own_i 103 rfl))) Via.refl e0 (hKs.2.2.1.ext hO.2) (g := (mkF m 2 #[.val (.int p0), .val (.int p1)] [(.int p1), (.int p0)])) rfl (hb hby d23_2)
  refine own_thr (a := T1.setTop (mkF m 5 #[.val (.int p0), .val (.int p1)] [fm, (.int p1), (.int p0)])) (fun t kt => st1 t kt) ?_
  obtain ⟨_, _, ⟨T2, L2, k2, n2⟩, -, X2, ⟨Lc2, hQ2, l2, y2, z2⟩, st2⟩ := Jvm.LawKit.callS X1 hx (y := own_m14) hown (mvT hZ (hw _ (own_i 105 rfl))) (mvT hZ (hw _ (own_i 106 rfl))) (mvT hZ (hw _ (own_i 104 rfl))) (mvT hZ (hw _ (own_i 107 rfl))) (by decide) (backOf (W := 0) (rmPI l Z a0 hw [] p0 p1 fm h0 n0 Z0 hKs.2.2.2.1 hi0 hi1) hZ (hw _ (own_i 107 rfl)) (hw _ (own_i 104 rfl)) (by decide) (by decide)) (g := (mkF m 5 #[.val (.int p0), .val (.int p1)] [fm, (.int p1), (.int p0)])) rfl (by rw [hml]; rfl) (argsL := [(.int p0), (.int p1), fm]) (rest := []) (lenOf pd__28IILjava_2futil_2ffunction_2fBiFunction_3b_29I rfl) rfl (own_q rfl) (hb hby d23_5) (fun _ _ => ⟨rfl, e1, (by decide : 0 + 0 ≤ _), (by decide : 0 + 0 ≤ _)⟩)
  dsimp only [Pt.U, Pt.locs, Pt.cells, Pt.slots] at X2 l2 y2 z2 st2 hQ2
  obtain ⟨rfl, N2q, e2⟩ := hQ2
  obtain ⟨lc2, X2, N2⟩ := own_pack X2 l2 y2 z2 N0 N2q (C := 0) (S' := 0) rfl rfl
  refine own_thr (a := T2.setTop (mkF m 8 #[.val (.int p0), .val (.int p1)] [(.int p0)])) (fun t kt => st2 t kt) ?_
  refine own_thr (a := T2.setTop (mkF m 9 #[.val (.int p0), .val (.int p1)] [])) (fun t kt => ?_) ?_
  · refine XS.pop X2.here hx rfl (hb hby d23_8) rfl rfl ?_
    exact kt
  exact own_end X2 hlk (v := none) (fun _ => rfl) (fun fs hr => X2.returnOut hx Bd.returns (hb hby d23_9) hr) (by rw [e2]; exact ⟨rfl, N2, rfl⟩) (by decide : 0 ≤ _) (by decide : 0 ≤ _)
theorem d27_0 : decode jdk_89_method_14_code 0 = .ok (.iload_n 0, 1) := by decide +kernel
theorem d27_1 : decode jdk_89_method_14_code 1 = .ok (.ldc 75, 2) := by decide +kernel
theorem d27_3 : decode jdk_89_method_14_code 3 = .ok (.if_icmp .lt 13, 3) := by decide +kernel
theorem d27_16 : decode jdk_89_method_14_code 16 = .ok (.iconst 0, 1) := by decide +kernel
theorem d27_17 : decode jdk_89_method_14_code 17 = .ok (.ireturn, 1) := by decide +kernel
theorem d27_6 : decode jdk_89_method_14_code 6 = .ok (.iload_n 0, 1) := by decide +kernel
theorem d27_7 : decode jdk_89_method_14_code 7 = .ok (.ldc 76, 2) := by decide +kernel
theorem d27_9 : decode jdk_89_method_14_code 9 = .ok (.if_icmp .ge 7, 3) := by decide +kernel
theorem d27_12 : decode jdk_89_method_14_code 12 = .ok (.iconst 1, 1) := by decide +kernel
theorem d27_13 : decode jdk_89_method_14_code 13 = .ok (.goto 4, 3) := by decide +kernel
theorem pn_java_lang_Character : plainName "java/lang/Character" = true := by first | (simp [plainName, overriddenIn]; done) | decide +kernel
theorem ef_rmHS (m : MethodId) (p0 : Int32)  : entryFrame m #[(.int p0)] 1 = mkF m 0 #[.val (.int p0)] [] := by first |  (simp [entryFrame, mkF, argsToLocals, Value.category]; done) | rfl
def f_rmHS (p0 : Int32) : Int32 := if p0 < (55296 : Int32) then (0 : Int32) else if p0 < (56320 : Int32) then (1 : Int32) else (0 : Int32)
def Q_rmHS (Z : State) (p0 : Int32) (h0 : Heap) (n0 : Nat) (v : Option Value) (h : Heap) (L : List Loc) : Prop := v = some (.int (f_rmHS p0)) ∧ Fr n0 L ∧ h = h0
theorem rmHS (l : Launch) (Z : State) (a0 : Array Value) (hw : ∀ d ∈ tables_1, d.before a0 Z = true) (ws : List Jvm.Cond) (p0 : Int32) (h0 : Heap) (n0 : Nat) (Z0 : n0 ≤ h0.size) :
    MetFree l own_m16 (head1 (Jvm.Cond.code own_m16 jdk_89_method_14_code 1 (some .boolean) :: ws) ({ frames := 0, cells := 0, slots := 0, locals := 0 } : Room)) (fun a U => a = #[(.int p0)] ∧ Z.Warmed39 U.vm ∧ U.heap = h0) (fun _ _ _ _ _ => True) (fun _ U o U' => ∃ v L, o = .returned v ∧ Q_rmHS Z p0 h0 n0 v U'.heap L ∧ FrameEnd U o U' L ({ frames := 0, cells := 0, slots := 0, locals := 0 } : Room).cells ({ frames := 0, cells := 0, slots := 0, locals := 0 } : Room).slots) := by
  refine MetFree.of_bodySF (plainFor_of_name pn_java_lang_Character) hisR ?_
  intro p e s m args below meth c s₁ Bd hml0 hP hK
  obtain ⟨rfl, hZ, hh⟩ := hP
  have hx := Bd.exec
  have hby := Bd.bytes
  have hml : c.maxLocals = 1 := hml0
  have hown : s.vm.findClass "java/lang/Character" = some m.cls := findClass_of_methodNamed Bd.named
  have hnm := (name_of_methodNamed Bd.named Bd.method).1
  have hlk := Bd.notSynchronized
  have X0 : Stand p l e ({ frames := 0, cells := 0, slots := 0, locals := 0 } : Room) s m #[(.int p0)] below meth c s₁ [] 0 0 := Stand.of_body Bd
  have e0 : s₁.heap = h0 := by rw [← hh, Bd.state]; rfl
  have N0 := Fr.nil n0
  show own_G p.tables e below s (Q_rmHS Z p0 h0 n0) ({ frames := 0, cells := 0, slots := 0, locals := 0 } : Room).cells ({ frames := 0, cells := 0, slots := 0, locals := 0 } : Room).slots _
  refine own_thr (a := s₁.setTop (mkF m 0 #[.val (.int p0)] [])) (fun t kt => castTop (ef_rmHS m p0) kt) ?_
  refine own_thr (a := s₁.setTop (mkF m 3 #[.val (.int p0)] [(.int 55296), (.int p0)])) (fun t kt => ?_) ?_
  · refine XS.iloadN X0.here hx rfl (hb hby d27_0) rfl ?_
    refine X0.ldcInt hx hown (mvT hZ (hw _ (own_i 118 rfl))) (g := (mkF m 1 #[.val (.int p0)] [(.int p0)])) rfl (hb hby d27_1) _ ?_
    exact kt
  by_cases hc1 : p0 < (55296 : Int32)
  · refine own_thr (a := s₁.setTop (mkF m 17 #[.val (.int p0)] [(.int 0)])) (fun t kt => ?_) ?_
    · refine XS.icmpYes X0.here hx rfl (pc0 := 3) (pc' := 16) rfl (hb hby d27_3) rfl (tlt hc1).1 (by decide) (by decide) ?_
      refine XS.iconst X0.here hx rfl (hb hby d27_16) ?_
      exact kt
    exact own_end X0 hlk (v := some (.int 0)) (fun h => by rw [Bd.returns] at h; cases h) (fun fs hr => retN X0 hx (t := .boolean) Bd.returns (by simp) (hb hby d27_17) hr) (by rw [e0]; exact ⟨(by rw [f_rmHS, if_pos hc1]), N0, rfl⟩) (by decide : 0 ≤ _) (by decide : 0 ≤ _)
  · refine own_thr (a := s₁.setTop (mkF m 9 #[.val (.int p0)] [(.int 56320), (.int p0)])) (fun t kt => ?_) ?_
    · refine XS.icmpNo X0.here hx rfl (hb hby d27_3) rfl (flt hc1).1 ?_
      refine XS.iloadN X0.here hx rfl (hb hby d27_6) rfl ?_
      refine X0.ldcInt hx hown (mvT hZ (hw _ (own_i 119 rfl))) (g := (mkF m 7 #[.val (.int p0)] [(.int p0)])) rfl (hb hby d27_7) _ ?_
      exact kt
    by_cases hc2 : p0 < (56320 : Int32)
    · refine own_thr (a := s₁.setTop (mkF m 17 #[.val (.int p0)] [(.int 1)])) (fun t kt => ?_) ?_
      · refine XS.icmpNo X0.here hx rfl (hb hby d27_9) rfl (tlt hc2).2.1 ?_
        refine XS.iconst X0.here hx rfl (hb hby d27_12) ?_
        refine XS.goto X0.here hx rfl (pc0 := 13) (pc' := 17) rfl (hb hby d27_13) (by decide) (by decide) ?_
        exact kt
      exact own_end X0 hlk (v := some (.int 1)) (fun h => by rw [Bd.returns] at h; cases h) (fun fs hr => retN X0 hx (t := .boolean) Bd.returns (by simp) (hb hby d27_17) hr) (by rw [e0]; exact ⟨(by rw [f_rmHS, if_neg hc1, if_pos hc2]), N0, rfl⟩) (by decide : 0 ≤ _) (by decide : 0 ≤ _)
    · refine own_thr (a := s₁.setTop (mkF m 17 #[.val (.int p0)] [(.int 0)])) (fun t kt => ?_) ?_
      · refine XS.icmpYes X0.here hx rfl (pc0 := 9) (pc' := 16) rfl (hb hby d27_9) rfl (flt hc2).2.1 (by decide) (by decide) ?_
        refine XS.iconst X0.here hx rfl (hb hby d27_16) ?_
        exact kt
      exact own_end X0 hlk (v := some (.int 0)) (fun h => by rw [Bd.returns] at h; cases h) (fun fs hr => retN X0 hx (t := .boolean) Bd.returns (by simp) (hb hby d27_17) hr) (by rw [e0]; exact ⟨(by rw [f_rmHS, if_neg hc1, if_neg hc2]), N0, rfl⟩) (by decide : 0 ≤ _) (by decide : 0 ≤ _)
theorem d33_0 : decode jdk_89_method_15_code 0 = .ok (.iload_n 0, 1) := by decide +kernel
theorem d33_1 : decode jdk_89_method_15_code 1 = .ok (.ldc 76, 2) := by decide +kernel
theorem d33_3 : decode jdk_89_method_15_code 3 = .ok (.if_icmp .lt 13, 3) := by decide +kernel
theorem d33_16 : decode jdk_89_method_15_code 16 = .ok (.iconst 0, 1) := by decide +kernel
theorem d33_17 : decode jdk_89_method_15_code 17 = .ok (.ireturn, 1) := by decide +kernel
theorem d33_6 : decode jdk_89_method_15_code 6 = .ok (.iload_n 0, 1) := by decide +kernel
theorem d33_7 : decode jdk_89_method_15_code 7 = .ok (.ldc 77, 2) := by decide +kernel
theorem d33_9 : decode jdk_89_method_15_code 9 = .ok (.if_icmp .ge 7, 3) := by decide +kernel
theorem d33_12 : decode jdk_89_method_15_code 12 = .ok (.iconst 1, 1) := by decide +kernel
theorem d33_13 : decode jdk_89_method_15_code 13 = .ok (.goto 4, 3) := by decide +kernel
theorem ef_rmLS (m : MethodId) (p0 : Int32)  : entryFrame m #[(.int p0)] 1 = mkF m 0 #[.val (.int p0)] [] := by first |  (simp [entryFrame, mkF, argsToLocals, Value.category]; done) | rfl
def f_rmLS (p0 : Int32) : Int32 := if p0 < (56320 : Int32) then (0 : Int32) else if p0 < (57344 : Int32) then (1 : Int32) else (0 : Int32)
def Q_rmLS (Z : State) (p0 : Int32) (h0 : Heap) (n0 : Nat) (v : Option Value) (h : Heap) (L : List Loc) : Prop := v = some (.int (f_rmLS p0)) ∧ Fr n0 L ∧ h = h0
theorem rmLS (l : Launch) (Z : State) (a0 : Array Value) (hw : ∀ d ∈ tables_1, d.before a0 Z = true) (ws : List Jvm.Cond) (p0 : Int32) (h0 : Heap) (n0 : Nat) (Z0 : n0 ≤ h0.size) :
    MetFree l own_m17 (head1 (Jvm.Cond.code own_m17 jdk_89_method_15_code 1 (some .boolean) :: ws) ({ frames := 0, cells := 0, slots := 0, locals := 0 } : Room)) (fun a U => a = #[(.int p0)] ∧ Z.Warmed39 U.vm ∧ U.heap = h0) (fun _ _ _ _ _ => True) (fun _ U o U' => ∃ v L, o = .returned v ∧ Q_rmLS Z p0 h0 n0 v U'.heap L ∧ FrameEnd U o U' L ({ frames := 0, cells := 0, slots := 0, locals := 0 } : Room).cells ({ frames := 0, cells := 0, slots := 0, locals := 0 } : Room).slots) := by
  refine MetFree.of_bodySF (plainFor_of_name pn_java_lang_Character) hisR ?_
  intro p e s m args below meth c s₁ Bd hml0 hP hK
  obtain ⟨rfl, hZ, hh⟩ := hP
  have hx := Bd.exec
  have hby := Bd.bytes
  have hml : c.maxLocals = 1 := hml0
  have hown : s.vm.findClass "java/lang/Character" = some m.cls := findClass_of_methodNamed Bd.named
  have hnm := (name_of_methodNamed Bd.named Bd.method).1
  have hlk := Bd.notSynchronized
  have X0 : Stand p l e ({ frames := 0, cells := 0, slots := 0, locals := 0 } : Room) s m #[(.int p0)] below meth c s₁ [] 0 0 := Stand.of_body Bd
  have e0 : s₁.heap = h0 := by rw [← hh, Bd.state]; rfl
  have N0 := Fr.nil n0
  show own_G p.tables e below s (Q_rmLS Z p0 h0 n0) ({ frames := 0, cells := 0, slots := 0, locals := 0 } : Room).cells ({ frames := 0, cells := 0, slots := 0, locals := 0 } : Room).slots _
  refine own_thr (a := s₁.setTop (mkF m 0 #[.val (.int p0)] [])) (fun t kt => castTop (ef_rmLS m p0) kt) ?_
  refine own_thr (a := s₁.setTop (mkF m 3 #[.val (.int p0)] [(.int 56320), (.int p0)])) (fun t kt => ?_) ?_
  · refine XS.iloadN X0.here hx rfl (hb hby d33_0) rfl ?_
    refine X0.ldcInt hx hown (mvT hZ (hw _ (own_i 119 rfl))) (g := (mkF m 1 #[.val (.int p0)] [(.int p0)])) rfl (hb hby d33_1) _ ?_
    exact kt
  by_cases hc1 : p0 < (56320 : Int32)
  · refine own_thr (a := s₁.setTop (mkF m 17 #[.val (.int p0)] [(.int 0)])) (fun t kt => ?_) ?_
    · refine XS.icmpYes X0.here hx rfl (pc0 := 3) (pc' := 16) rfl (hb hby d33_3) rfl (tlt hc1).1 (by decide) (by decide) ?_
      refine XS.iconst X0.here hx rfl (hb hby d33_16) ?_
      exact kt
    exact own_end X0 hlk (v := some (.int 0)) (fun h => by rw [Bd.returns] at h; cases h) (fun fs hr => retN X0 hx (t := .boolean) Bd.returns (by simp) (hb hby d33_17) hr) (by rw [e0]; exact ⟨(by rw [f_rmLS, if_pos hc1]), N0, rfl⟩) (by decide : 0 ≤ _) (by decide : 0 ≤ _)
  · refine own_thr (a := s₁.setTop (mkF m 9 #[.val (.int p0)] [(.int 57344), (.int p0)])) (fun t kt => ?_) ?_
    · refine XS.icmpNo X0.here hx rfl (hb hby d33_3) rfl (flt hc1).1 ?_
      refine XS.iloadN X0.here hx rfl (hb hby d33_6) rfl ?_
      refine X0.ldcInt hx hown (mvT hZ (hw _ (own_i 141 rfl))) (g := (mkF m 7 #[.val (.int p0)] [(.int p0)])) rfl (hb hby d33_7) _ ?_
      exact kt
    by_cases hc2 : p0 < (57344 : Int32)
    · refine own_thr (a := s₁.setTop (mkF m 17 #[.val (.int p0)] [(.int 1)])) (fun t kt => ?_) ?_
      · refine XS.icmpNo X0.here hx rfl (hb hby d33_9) rfl (tlt hc2).2.1 ?_
        refine XS.iconst X0.here hx rfl (hb hby d33_12) ?_
        refine XS.goto X0.here hx rfl (pc0 := 13) (pc' := 17) rfl (hb hby d33_13) (by decide) (by decide) ?_
        exact kt
      exact own_end X0 hlk (v := some (.int 1)) (fun h => by rw [Bd.returns] at h; cases h) (fun fs hr => retN X0 hx (t := .boolean) Bd.returns (by simp) (hb hby d33_17) hr) (by rw [e0]; exact ⟨(by rw [f_rmLS, if_neg hc1, if_pos hc2]), N0, rfl⟩) (by decide : 0 ≤ _) (by decide : 0 ≤ _)
    · refine own_thr (a := s₁.setTop (mkF m 17 #[.val (.int p0)] [(.int 0)])) (fun t kt => ?_) ?_
      · refine XS.icmpYes X0.here hx rfl (pc0 := 9) (pc' := 16) rfl (hb hby d33_9) rfl (flt hc2).2.1 (by decide) (by decide) ?_
        refine XS.iconst X0.here hx rfl (hb hby d33_16) ?_
        exact kt
      exact own_end X0 hlk (v := some (.int 0)) (fun h => by rw [Bd.returns] at h; cases h) (fun fs hr => retN X0 hx (t := .boolean) Bd.returns (by simp) (hb hby d33_17) hr) (by rw [e0]; exact ⟨(by rw [f_rmLS, if_neg hc1, if_neg hc2]), N0, rfl⟩) (by decide : 0 ≤ _) (by decide : 0 ≤ _)
theorem d34_0 : decode jdk_89_method_19_code 0 = .ok (.iload_n 0, 1) := by decide +kernel
theorem d34_1 : decode jdk_89_method_19_code 1 = .ok (.bipush 10, 2) := by decide +kernel
theorem d34_3 : decode jdk_89_method_19_code 3 = .ok (.ishl, 1) := by decide +kernel
theorem d34_4 : decode jdk_89_method_19_code 4 = .ok (.iload_n 1, 1) := by decide +kernel
theorem d34_5 : decode jdk_89_method_19_code 5 = .ok (.iadd, 1) := by decide +kernel
theorem d34_6 : decode jdk_89_method_19_code 6 = .ok (.ldc 85, 2) := by decide +kernel
theorem d34_8 : decode jdk_89_method_19_code 8 = .ok (.iadd, 1) := by decide +kernel
theorem d34_9 : decode jdk_89_method_19_code 9 = .ok (.ireturn, 1) := by decide +kernel
theorem ef_rmTC (m : MethodId) (p0 : Int32) (p1 : Int32)  : entryFrame m #[(.int p0), (.int p1)] 2 = mkF m 0 #[.val (.int p0), .val (.int p1)] [] := by first |  (simp [entryFrame, mkF, argsToLocals, Value.category]; done) | rfl
def f_rmTC (p0 : Int32) (p1 : Int32) : Int32 := (((p0 <<< ((10 : Int32) &&& 31)) + p1) + (-56613888 : Int32))
def Q_rmTC (Z : State) (p0 : Int32) (p1 : Int32) (h0 : Heap) (n0 : Nat) (v : Option Value) (h : Heap) (L : List Loc) : Prop := v = some (.int (f_rmTC p0 p1)) ∧ Fr n0 L ∧ h = h0
theorem rmTC (l : Launch) (Z : State) (a0 : Array Value) (hw : ∀ d ∈ tables_1, d.before a0 Z = true) (ws : List Jvm.Cond) (p0 : Int32) (p1 : Int32) (h0 : Heap) (n0 : Nat) (Z0 : n0 ≤ h0.size) :
    MetFree l own_m18 (head1 (Jvm.Cond.code own_m18 jdk_89_method_19_code 2 (some .int) :: ws) ({ frames := 0, cells := 0, slots := 0, locals := 0 } : Room)) (fun a U => a = #[(.int p0), (.int p1)] ∧ Z.Warmed39 U.vm ∧ U.heap = h0) (fun _ _ _ _ _ => True) (fun _ U o U' => ∃ v L, o = .returned v ∧ Q_rmTC Z p0 p1 h0 n0 v U'.heap L ∧ FrameEnd U o U' L ({ frames := 0, cells := 0, slots := 0, locals := 0 } : Room).cells ({ frames := 0, cells := 0, slots := 0, locals := 0 } : Room).slots) := by
  refine MetFree.of_bodySF (plainFor_of_name pn_java_lang_Character) hisR ?_
  intro p e s m args below meth c s₁ Bd hml0 hP hK
  obtain ⟨rfl, hZ, hh⟩ := hP
  have hx := Bd.exec
  have hby := Bd.bytes
  have hml : c.maxLocals = 2 := hml0
  have hown : s.vm.findClass "java/lang/Character" = some m.cls := findClass_of_methodNamed Bd.named
  have hnm := (name_of_methodNamed Bd.named Bd.method).1
  have hlk := Bd.notSynchronized
  have X0 : Stand p l e ({ frames := 0, cells := 0, slots := 0, locals := 0 } : Room) s m #[(.int p0), (.int p1)] below meth c s₁ [] 0 0 := Stand.of_body Bd
  have e0 : s₁.heap = h0 := by rw [← hh, Bd.state]; rfl
  have N0 := Fr.nil n0
  show own_G p.tables e below s (Q_rmTC Z p0 p1 h0 n0) ({ frames := 0, cells := 0, slots := 0, locals := 0 } : Room).cells ({ frames := 0, cells := 0, slots := 0, locals := 0 } : Room).slots _
  refine own_thr (a := s₁.setTop (mkF m 0 #[.val (.int p0), .val (.int p1)] [])) (fun t kt => castTop (ef_rmTC m p0 p1) kt) ?_
  refine own_thr (a := s₁.setTop (mkF m 9 #[.val (.int p0), .val (.int p1)] [(.int (((p0 <<< ((10 : Int32) &&& 31)) + p1) + (-56613888 : Int32)))])) (fun t kt => ?_) ?_
  · refine XS.iloadN X0.here hx rfl (hb hby d34_0) rfl ?_
    refine XS.bipush X0.here hx rfl (hb hby d34_1) ?_
    refine XS.ishl X0.here hx rfl (hb hby d34_3) rfl ?_
    refine XS.iloadN X0.here hx rfl (hb hby d34_4) rfl ?_
    refine XS.iadd X0.here hx rfl (hb hby d34_5) rfl ?_
    refine X0.ldcInt hx hown (mvT hZ (hw _ (own_i 145 rfl))) (g := (mkF m 6 #[.val (.int p0), .val (.int p1)] [(.int ((p0 <<< ((10 : Int32) &&& 31)) + p1))])) rfl (hb hby d34_6) _ ?_
    refine XS.iadd X0.here hx rfl (hb hby d34_8) rfl ?_
    exact kt
  exact own_end X0 hlk (v := some (.int (((p0 <<< ((10 : Int32) &&& 31)) + p1) + (-56613888 : Int32)))) (fun h => by rw [Bd.returns] at h; cases h) (fun fs hr => retI X0 hx Bd.returns (hb hby d34_9) hr) (by rw [e0]; exact ⟨(by rw [f_rmTC]), N0, rfl⟩) (by decide : 0 ≤ _) (by decide : 0 ≤ _)
theorem d28_0 : decode jdk_89_method_18_code 0 = .ok (.iload_n 0, 1) := by decide +kernel
theorem d28_1 : decode jdk_89_method_18_code 1 = .ok (.ldc 73, 2) := by decide +kernel
theorem d28_3 : decode jdk_89_method_18_code 3 = .ok (.if_icmp .lt 7, 3) := by decide +kernel
theorem d28_10 : decode jdk_89_method_18_code 10 = .ok (.iconst 1, 1) := by decide +kernel
theorem d28_11 : decode jdk_89_method_18_code 11 = .ok (.ireturn, 1) := by decide +kernel
theorem ef_rmCC1 (m : MethodId) (p0 : Int32)  : entryFrame m #[(.int p0)] 1 = mkF m 0 #[.val (.int p0)] [] := by first |  (simp [entryFrame, mkF, argsToLocals, Value.category]; done) | rfl
def Q_rmCC1 (Z : State) (p0 : Int32) (h0 : Heap) (n0 : Nat) (v : Option Value) (h : Heap) (L : List Loc) : Prop := v = some (.int 1) ∧ Fr n0 L ∧ h = h0
theorem rmCC1 (l : Launch) (Z : State) (a0 : Array Value) (hw : ∀ d ∈ tables_1, d.before a0 Z = true) (ws : List Jvm.Cond) (p0 : Int32) (h0 : Heap) (n0 : Nat) (Z0 : n0 ≤ h0.size) (hlt : p0 < (65536 : Int32)) :
    MetFree l own_m19 (head1 (Jvm.Cond.code own_m19 jdk_89_method_18_code 1 (some .int) :: ws) ({ frames := 0, cells := 0, slots := 0, locals := 0 } : Room)) (fun a U => a = #[(.int p0)] ∧ Z.Warmed39 U.vm ∧ U.heap = h0) (fun _ _ _ _ _ => True) (fun _ U o U' => ∃ v L, o = .returned v ∧ Q_rmCC1 Z p0 h0 n0 v U'.heap L ∧ FrameEnd U o U' L ({ frames := 0, cells := 0, slots := 0, locals := 0 } : Room).cells ({ frames := 0, cells := 0, slots := 0, locals := 0 } : Room).slots) := by
  refine MetFree.of_bodySF (plainFor_of_name pn_java_lang_Character) hisR ?_
  intro p e s m args below meth c s₁ Bd hml0 hP hK
  obtain ⟨rfl, hZ, hh⟩ := hP
  have hx := Bd.exec
  have hby := Bd.bytes
  have hml : c.maxLocals = 1 := hml0
  have hown : s.vm.findClass "java/lang/Character" = some m.cls := findClass_of_methodNamed Bd.named
  have hnm := (name_of_methodNamed Bd.named Bd.method).1
  have hlk := Bd.notSynchronized
  have X0 : Stand p l e ({ frames := 0, cells := 0, slots := 0, locals := 0 } : Room) s m #[(.int p0)] below meth c s₁ [] 0 0 := Stand.of_body Bd
  have e0 : s₁.heap = h0 := by rw [← hh, Bd.state]; rfl
  have N0 := Fr.nil n0
  show own_G p.tables e below s (Q_rmCC1 Z p0 h0 n0) ({ frames := 0, cells := 0, slots := 0, locals := 0 } : Room).cells ({ frames := 0, cells := 0, slots := 0, locals := 0 } : Room).slots _
  refine own_thr (a := s₁.setTop (mkF m 0 #[.val (.int p0)] [])) (fun t kt => castTop (ef_rmCC1 m p0) kt) ?_
  refine own_thr (a := s₁.setTop (mkF m 11 #[.val (.int p0)] [(.int 1)])) (fun t kt => ?_) ?_
  · refine XS.iloadN X0.here hx rfl (hb hby d28_0) rfl ?_
    refine X0.ldcInt hx hown (mvT hZ (hw _ (own_i 123 rfl))) (g := (mkF m 1 #[.val (.int p0)] [(.int p0)])) rfl (hb hby d28_1) _ ?_
    refine XS.icmpYes X0.here hx rfl (pc0 := 3) (pc' := 10) rfl (hb hby d28_3) rfl (tlt hlt).1 (by decide) (by decide) ?_
    refine XS.iconst X0.here hx rfl (hb hby d28_10) ?_
    exact kt
  exact own_end X0 hlk (v := some (.int 1)) (fun h => by rw [Bd.returns] at h; cases h) (fun fs hr => retI X0 hx Bd.returns (hb hby d28_11) hr) (by rw [e0]; exact ⟨rfl, N0, rfl⟩) (by decide : 0 ≤ _) (by decide : 0 ≤ _)
theorem d28_6 : decode jdk_89_method_18_code 6 = .ok (.iconst 2, 1) := by decide +kernel
theorem d28_7 : decode jdk_89_method_18_code 7 = .ok (.goto 4, 3) := by decide +kernel
theorem ef_rmCC2 (m : MethodId) (p0 : Int32)  : entryFrame m #[(.int p0)] 1 = mkF m 0 #[.val (.int p0)] [] := by first |  (simp [entryFrame, mkF, argsToLocals, Value.category]; done) | rfl
def Q_rmCC2 (Z : State) (p0 : Int32) (h0 : Heap) (n0 : Nat) (v : Option Value) (h : Heap) (L : List Loc) : Prop := v = some (.int 2) ∧ Fr n0 L ∧ h = h0
theorem rmCC2 (l : Launch) (Z : State) (a0 : Array Value) (hw : ∀ d ∈ tables_1, d.before a0 Z = true) (ws : List Jvm.Cond) (p0 : Int32) (h0 : Heap) (n0 : Nat) (Z0 : n0 ≤ h0.size) (hge : ¬ p0 < (65536 : Int32)) :
    MetFree l own_m19 (head1 (Jvm.Cond.code own_m19 jdk_89_method_18_code 1 (some .int) :: ws) ({ frames := 0, cells := 0, slots := 0, locals := 0 } : Room)) (fun a U => a = #[(.int p0)] ∧ Z.Warmed39 U.vm ∧ U.heap = h0) (fun _ _ _ _ _ => True) (fun _ U o U' => ∃ v L, o = .returned v ∧ Q_rmCC2 Z p0 h0 n0 v U'.heap L ∧ FrameEnd U o U' L ({ frames := 0, cells := 0, slots := 0, locals := 0 } : Room).cells ({ frames := 0, cells := 0, slots := 0, locals := 0 } : Room).slots) := by
  refine MetFree.of_bodySF (plainFor_of_name pn_java_lang_Character) hisR ?_
  intro p e s m args below meth c s₁ Bd hml0 hP hK
  obtain ⟨rfl, hZ, hh⟩ := hP
  have hx := Bd.exec
  have hby := Bd.bytes
  have hml : c.maxLocals = 1 := hml0
  have hown : s.vm.findClass "java/lang/Character" = some m.cls := findClass_of_methodNamed Bd.named
  have hnm := (name_of_methodNamed Bd.named Bd.method).1
  have hlk := Bd.notSynchronized
  have X0 : Stand p l e ({ frames := 0, cells := 0, slots := 0, locals := 0 } : Room) s m #[(.int p0)] below meth c s₁ [] 0 0 := Stand.of_body Bd
  have e0 : s₁.heap = h0 := by rw [← hh, Bd.state]; rfl
  have N0 := Fr.nil n0
  show own_G p.tables e below s (Q_rmCC2 Z p0 h0 n0) ({ frames := 0, cells := 0, slots := 0, locals := 0 } : Room).cells ({ frames := 0, cells := 0, slots := 0, locals := 0 } : Room).slots _
  refine own_thr (a := s₁.setTop (mkF m 0 #[.val (.int p0)] [])) (fun t kt => castTop (ef_rmCC2 m p0) kt) ?_
  refine own_thr (a := s₁.setTop (mkF m 11 #[.val (.int p0)] [(.int 2)])) (fun t kt => ?_) ?_
  · refine XS.iloadN X0.here hx rfl (hb hby d28_0) rfl ?_
    refine X0.ldcInt hx hown (mvT hZ (hw _ (own_i 123 rfl))) (g := (mkF m 1 #[.val (.int p0)] [(.int p0)])) rfl (hb hby d28_1) _ ?_
    refine XS.icmpNo X0.here hx rfl (hb hby d28_3) rfl (flt hge).1 ?_
    refine XS.iconst X0.here hx rfl (hb hby d28_6) ?_
    refine XS.goto X0.here hx rfl (pc0 := 7) (pc' := 11) rfl (hb hby d28_7) (by decide) (by decide) ?_
    exact kt
  exact own_end X0 hlk (v := some (.int 2)) (fun h => by rw [Bd.returns] at h; cases h) (fun fs hr => retI X0 hx Bd.returns (hb hby d28_11) hr) (by rw [e0]; exact ⟨rfl, N0, rfl⟩) (by decide : 0 ≤ _) (by decide : 0 ≤ _)
def own_cp (c d : Int32) : Int32 := if f_rmHS c = (0 : Int32) then c else if f_rmLS d = (0 : Int32) then c else f_rmTC c d
theorem d26_0 : decode jdk_52_method_7_code 0 = .ok (.getstatic 44, 3) := by decide +kernel
theorem d26_3 : decode jdk_52_method_7_code 3 = .ok (.ifCond .ne 16, 3) := by decide +kernel
theorem d26_19 : decode jdk_52_method_7_code 19 = .ok (.iload_n 3, 1) := by decide +kernel
theorem d26_20 : decode jdk_52_method_7_code 20 = .ok (.ifCond .eq 8, 3) := by decide +kernel
theorem d26_28 : decode jdk_52_method_7_code 28 = .ok (.aload_n 0, 1) := by decide +kernel
theorem d26_29 : decode jdk_52_method_7_code 29 = .ok (.iload_n 1, 1) := by decide +kernel
theorem d26_30 : decode jdk_52_method_7_code 30 = .ok (.invokestatic 71, 3) := by decide +kernel
theorem d26_33 : decode jdk_52_method_7_code 33 = .ok (.istore 4, 2) := by decide +kernel
theorem d26_35 : decode jdk_52_method_7_code 35 = .ok (.iload 4, 2) := by decide +kernel
theorem pd__28C_29Z : parseMethodDescriptor "(C)Z" = some ⟨[.char], some .boolean⟩ := by decide +kernel
theorem d26_37 : decode jdk_52_method_7_code 37 = .ok (.invokestatic 75, 3) := by decide +kernel
theorem d26_40 : decode jdk_52_method_7_code 40 = .ok (.ifCond .eq 43, 3) := by decide +kernel
theorem d26_83 : decode jdk_52_method_7_code 83 = .ok (.iload 4, 2) := by decide +kernel
theorem d26_85 : decode jdk_52_method_7_code 85 = .ok (.ireturn, 1) := by decide +kernel
theorem d26_43 : decode jdk_52_method_7_code 43 = .ok (.iinc 1 1, 3) := by decide +kernel
theorem d26_46 : decode jdk_52_method_7_code 46 = .ok (.iload_n 1, 1) := by decide +kernel
theorem d26_47 : decode jdk_52_method_7_code 47 = .ok (.iload_n 2, 1) := by decide +kernel
theorem d26_48 : decode jdk_52_method_7_code 48 = .ok (.if_icmp .ge 35, 3) := by decide +kernel
theorem ef_rmP410 (m : MethodId) (o0 : Addr)  : entryFrame m #[(.ref o0), (.int 0), (.int 1), (.int 0)] 6 = mkF m 0 #[.val (.ref o0), .val (.int 0), .val (.int 1), .val (.int 0), .unset, .unset] [] := by first |  (simp [entryFrame, mkF, argsToLocals, Value.category]; done) | rfl
def Q_rmP410 (Z : State) (o0 : Addr) (x0 : Int32) (x1 : Int32) (k0 : ClassId) (cs : Int32) (fm : Value) (h0 : Heap) (n0 : Nat) (v : Option Value) (h : Heap) (L : List Loc) : Prop := v = some (.int (own_gc x0 x1)) ∧ Fr n0 L ∧ h = h0
theorem rmP410 (l : Launch) (Z : State) (a0 : Array Value) (hw : ∀ d ∈ tables_1, d.before a0 Z = true) (ws : List Jvm.Cond) (o0 : Addr) (x0 : Int32) (x1 : Int32) (k0 : ClassId) (cs : Int32) (fm : Value) (h0 : Heap) (n0 : Nat) (Z0 : n0 ≤ h0.size) (V_o0 : Arv Z h0 o0 k0 .byte (2 : Int32) [(.int x0), (.int x1)] (.int 0)) (hKs : own_K Z cs fm) (hO : Old Z n0 h0) :
    MetFree l own_m20 (head1 (Jvm.Cond.code own_m20 jdk_52_method_7_code 6 (some .int) :: ws) ({ frames := 1, cells := 0, slots := 0, locals := 13 } : Room)) (fun a U => a = #[(.ref o0), (.int 0), (.int 1), (.int 0)] ∧ Z.Warmed39 U.vm ∧ U.heap = h0) (fun _ _ _ _ _ => True) (fun _ U o U' => ∃ v L, o = .returned v ∧ Q_rmP410 Z o0 x0 x1 k0 cs fm h0 n0 v U'.heap L ∧ FrameEnd U o U' L ({ frames := 1, cells := 0, slots := 0, locals := 13 } : Room).cells ({ frames := 1, cells := 0, slots := 0, locals := 13 } : Room).slots) := by
  refine MetFree.of_bodySF (plainFor_of_name pn_java_lang_StringUTF16) hisR ?_
  intro p e s m args below meth c s₁ Bd hml0 hP hK
  obtain ⟨rfl, hZ, hh⟩ := hP
  have hx := Bd.exec
  have hby := Bd.bytes
  have hml : c.maxLocals = 6 := hml0
  have hown : s.vm.findClass "java/lang/StringUTF16" = some m.cls := findClass_of_methodNamed Bd.named
  have hnm := (name_of_methodNamed Bd.named Bd.method).1
  have hlk := Bd.notSynchronized
  have X0 : Stand p l e ({ frames := 1, cells := 0, slots := 0, locals := 13 } : Room) s m #[(.ref o0), (.int 0), (.int 1), (.int 0)] below meth c s₁ [] 0 0 := Stand.of_body Bd
  have e0 : s₁.heap = h0 := by rw [← hh, Bd.state]; rfl
  have N0 := Fr.nil n0
  show own_G p.tables e below s (Q_rmP410 Z o0 x0 x1 k0 cs fm h0 n0) ({ frames := 1, cells := 0, slots := 0, locals := 13 } : Room).cells ({ frames := 1, cells := 0, slots := 0, locals := 13 } : Room).slots _
  refine own_thr (a := s₁.setTop (mkF m 0 #[.val (.ref o0), .val (.int 0), .val (.int 1), .val (.int 0), .unset, .unset] [])) (fun t kt => castTop (ef_rmP410 m o0) kt) ?_
  obtain ⟨T1, X1, e1, st1⟩ := getS2 X0 hx hZ hown (host := "") (Or.inl (hw _ (own_i 81 rfl))) Via.refl e0 (hKs.2.2.2.2.1.ext hO.2) (g := (mkF m 0 #[.val (.ref o0), .val (.int 0), .val (.int 1), .val (.int 0), .unset, .unset] [])) rfl (hb hby d26_0)
  refine own_thr (a := T1.setTop (mkF m 3 #[.val (.ref o0), .val (.int 0), .val (.int 1), .val (.int 0), .unset, .unset] [(.int 1)])) (fun t kt => st1 t kt) ?_
  refine own_thr (a := T1.setTop (mkF m 30 #[.val (.ref o0), .val (.int 0), .val (.int 1), .val (.int 0), .unset, .unset] [(.int 0), (.ref o0)])) (fun t kt => ?_) ?_
  · refine XS.ifYes X1.here hx rfl (pc0 := 3) (pc' := 19) rfl (hb hby d26_3) rfl ((if0 _ _).trans (feq (by decide)).2) (by decide) (by decide) ?_
    refine XS.iloadN X1.here hx rfl (hb hby d26_19) rfl ?_
    refine XS.ifYes X1.here hx rfl (pc0 := 20) (pc' := 28) rfl (hb hby d26_20) rfl ((if0 _ _).trans (teq rfl).1) (by decide) (by decide) ?_
    refine XS.aloadN X1.here hx rfl (hb hby d26_28) rfl rfl ?_
    refine XS.iloadN X1.here hx rfl (hb hby d26_29) rfl ?_
    exact kt
  obtain ⟨_, _, ⟨T2, L2, k2, n2⟩, -, X2, ⟨Lc2, hQ2, l2, y2, z2⟩, st2⟩ := Jvm.LawKit.callS X1 hx (y := own_m1) hown (mvT hZ (hw _ (own_i 84 rfl))) (mvT hZ (hw _ (own_i 85 rfl))) (mvT hZ (hw _ (own_i 63 rfl))) (mvT hZ (hw _ (own_i 86 rfl))) (by decide) (backOf (W := 0) (rmG10 l Z a0 hw [] o0 x0 x1 k0 cs fm h0 n0 Z0 V_o0 hKs hO) hZ (hw _ (own_i 86 rfl)) (hw _ (own_i 63 rfl)) (by decide) (by decide)) (g := (mkF m 30 #[.val (.ref o0), .val (.int 0), .val (.int 1), .val (.int 0), .unset, .unset] [(.int 0), (.ref o0)])) rfl (by rw [hml]; rfl) (argsL := [(.ref o0), (.int 0)]) (rest := []) (lenOf pd__28_5bBI_29C rfl) rfl (own_q rfl) (hb hby d26_30) (fun _ _ => ⟨rfl, e1, (by decide : 0 + 0 ≤ _), (by decide : 0 + 0 ≤ _)⟩)
  dsimp only [Pt.U, Pt.locs, Pt.cells, Pt.slots] at X2 l2 y2 z2 st2 hQ2
  obtain ⟨rfl, N2q, e2⟩ := hQ2
  obtain ⟨lc2, X2, N2⟩ := own_pack X2 l2 y2 z2 N0 N2q (C := 0) (S' := 0) rfl rfl
  refine own_thr (a := T2.setTop (mkF m 33 #[.val (.ref o0), .val (.int 0), .val (.int 1), .val (.int 0), .unset, .unset] [(.int (own_gc x0 x1))])) (fun t kt => st2 t kt) ?_
  refine own_thr (a := T2.setTop (mkF m 37 #[.val (.ref o0), .val (.int 0), .val (.int 1), .val (.int 0), .val (.int (own_gc x0 x1)), .unset] [(.int (own_gc x0 x1))])) (fun t kt => ?_) ?_
  · refine XS.istore X2.here hx rfl (hb hby d26_33) rfl (l' := #[.val (.ref o0), .val (.int 0), .val (.int 1), .val (.int 0), .val (.int (own_gc x0 x1)), .unset]) rfl ?_
    refine XS.iload X2.here hx rfl (hb hby d26_35) rfl ?_
    exact kt
  obtain ⟨_, _, ⟨T3, L3, k3, n3⟩, -, X3, ⟨Lc3, hQ3, l3, y3, z3⟩, st3⟩ := Jvm.LawKit.callS X2 hx (y := own_m16) hown (mvT hZ (hw _ (own_i 114 rfl))) (mvT hZ (hw _ (own_i 115 rfl))) (mvT hZ (hw _ (own_i 116 rfl))) (mvT hZ (hw _ (own_i 117 rfl))) (by decide) (backOf (W := 0) (rmHS l Z a0 hw [] (own_gc x0 x1) h0 n0 Z0) hZ (hw _ (own_i 117 rfl)) (hw _ (own_i 116 rfl)) (by decide) (by decide)) (g := (mkF m 37 #[.val (.ref o0), .val (.int 0), .val (.int 1), .val (.int 0), .val (.int (own_gc x0 x1)), .unset] [(.int (own_gc x0 x1))])) rfl (by rw [hml]; rfl) (argsL := [(.int (own_gc x0 x1))]) (rest := []) (lenOf pd__28C_29Z rfl) rfl (own_q rfl) (hb hby d26_37) (fun _ _ => ⟨rfl, e2, (by decide : 0 + 0 ≤ _), (by decide : 0 + 0 ≤ _)⟩)
  dsimp only [Pt.U, Pt.locs, Pt.cells, Pt.slots] at X3 l3 y3 z3 st3 hQ3
  obtain ⟨rfl, N3q, e3⟩ := hQ3
  obtain ⟨lc3, X3, N3⟩ := own_pack X3 l3 y3 z3 N2 N3q (C := 0) (S' := 0) rfl rfl
  refine own_thr (a := T3.setTop (mkF m 40 #[.val (.ref o0), .val (.int 0), .val (.int 1), .val (.int 0), .val (.int (own_gc x0 x1)), .unset] [(.int (f_rmHS (own_gc x0 x1)))])) (fun t kt => st3 t kt) ?_
  by_cases hc4 : (f_rmHS (own_gc x0 x1)) = (0 : Int32)
  · refine own_thr (a := T3.setTop (mkF m 85 #[.val (.ref o0), .val (.int 0), .val (.int 1), .val (.int 0), .val (.int (own_gc x0 x1)), .unset] [(.int (own_gc x0 x1))])) (fun t kt => ?_) ?_
    · refine XS.ifYes X3.here hx rfl (pc0 := 40) (pc' := 83) rfl (hb hby d26_40) rfl ((if0 _ _).trans (teq hc4).1) (by decide) (by decide) ?_
      refine XS.iload X3.here hx rfl (hb hby d26_83) rfl ?_
      exact kt
    exact own_end X3 hlk (v := some (.int (own_gc x0 x1))) (fun h => by rw [Bd.returns] at h; cases h) (fun fs hr => retI X3 hx Bd.returns (hb hby d26_85) hr) (by rw [e3]; exact ⟨rfl, N3, rfl⟩) (by decide : 0 ≤ _) (by decide : 0 ≤ _)
  · refine own_thr (a := T3.setTop (mkF m 85 #[.val (.ref o0), .val (.int 1), .val (.int 1), .val (.int 0), .val (.int (own_gc x0 x1)), .unset] [(.int (own_gc x0 x1))])) (fun t kt => ?_) ?_
    · refine XS.ifNo X3.here hx rfl (hb hby d26_40) rfl ((if0 _ _).trans (feq hc4).1) ?_
      refine XS.iinc X3.here hx rfl (hb hby d26_43) rfl (l' := #[.val (.ref o0), .val (.int 1), .val (.int 1), .val (.int 0), .val (.int (own_gc x0 x1)), .unset]) rfl ?_
      refine XS.iloadN X3.here hx rfl (hb hby d26_46) rfl ?_
      refine XS.iloadN X3.here hx rfl (hb hby d26_47) rfl ?_
      refine XS.icmpYes X3.here hx rfl (pc0 := 48) (pc' := 83) rfl (hb hby d26_48) rfl (flt (by decide)).2.1 (by decide) (by decide) ?_
      refine XS.iload X3.here hx rfl (hb hby d26_83) rfl ?_
      exact kt
    exact own_end X3 hlk (v := some (.int (own_gc x0 x1))) (fun h => by rw [Bd.returns] at h; cases h) (fun fs hr => retI X3 hx Bd.returns (hb hby d26_85) hr) (by rw [e3]; exact ⟨rfl, N3, rfl⟩) (by decide : 0 ≤ _) (by decide : 0 ≤ _)
theorem d25_0 : decode jdk_52_method_8_code 0 = .ok (.aload_n 0, 1) := by decide +kernel
theorem d25_1 : decode jdk_52_method_8_code 1 = .ok (.iload_n 1, 1) := by decide +kernel
theorem d25_2 : decode jdk_52_method_8_code 2 = .ok (.iload_n 2, 1) := by decide +kernel
theorem d25_3 : decode jdk_52_method_8_code 3 = .ok (.iconst 0, 1) := by decide +kernel
theorem pd__28_5bBIIZ_29I : parseMethodDescriptor "([BIIZ)I" = some ⟨[(.array .byte), .int, .int, .boolean], some .int⟩ := by decide +kernel
theorem d25_4 : decode jdk_52_method_8_code 4 = .ok (.invokestatic 88, 3) := by decide +kernel
theorem d25_7 : decode jdk_52_method_8_code 7 = .ok (.ireturn, 1) := by decide +kernel
theorem ef_rmP310 (m : MethodId) (o0 : Addr)  : entryFrame m #[(.ref o0), (.int 0), (.int 1)] 3 = mkF m 0 #[.val (.ref o0), .val (.int 0), .val (.int 1)] [] := by first |  (simp [entryFrame, mkF, argsToLocals, Value.category]; done) | rfl
def Q_rmP310 (Z : State) (o0 : Addr) (x0 : Int32) (x1 : Int32) (k0 : ClassId) (cs : Int32) (fm : Value) (h0 : Heap) (n0 : Nat) (v : Option Value) (h : Heap) (L : List Loc) : Prop := v = some (.int (own_gc x0 x1)) ∧ Fr n0 L ∧ h = h0
theorem rmP310 (l : Launch) (Z : State) (a0 : Array Value) (hw : ∀ d ∈ tables_1, d.before a0 Z = true) (ws : List Jvm.Cond) (o0 : Addr) (x0 : Int32) (x1 : Int32) (k0 : ClassId) (cs : Int32) (fm : Value) (h0 : Heap) (n0 : Nat) (Z0 : n0 ≤ h0.size) (V_o0 : Arv Z h0 o0 k0 .byte (2 : Int32) [(.int x0), (.int x1)] (.int 0)) (hKs : own_K Z cs fm) (hO : Old Z n0 h0) :
    MetFree l own_m21 (head1 (Jvm.Cond.code own_m21 jdk_52_method_8_code 3 (some .int) :: ws) ({ frames := 2, cells := 0, slots := 0, locals := 30 } : Room)) (fun a U => a = #[(.ref o0), (.int 0), (.int 1)] ∧ Z.Warmed39 U.vm ∧ U.heap = h0) (fun _ _ _ _ _ => True) (fun _ U o U' => ∃ v L, o = .returned v ∧ Q_rmP310 Z o0 x0 x1 k0 cs fm h0 n0 v U'.heap L ∧ FrameEnd U o U' L ({ frames := 2, cells := 0, slots := 0, locals := 30 } : Room).cells ({ frames := 2, cells := 0, slots := 0, locals := 30 } : Room).slots) := by
  refine MetFree.of_bodySF (plainFor_of_name pn_java_lang_StringUTF16) hisR ?_
  intro p e s m args below meth c s₁ Bd hml0 hP hK
  obtain ⟨rfl, hZ, hh⟩ := hP
  have hx := Bd.exec
  have hby := Bd.bytes
  have hml : c.maxLocals = 3 := hml0
  have hown : s.vm.findClass "java/lang/StringUTF16" = some m.cls := findClass_of_methodNamed Bd.named
  have hnm := (name_of_methodNamed Bd.named Bd.method).1
  have hlk := Bd.notSynchronized
  have X0 : Stand p l e ({ frames := 2, cells := 0, slots := 0, locals := 30 } : Room) s m #[(.ref o0), (.int 0), (.int 1)] below meth c s₁ [] 0 0 := Stand.of_body Bd
  have e0 : s₁.heap = h0 := by rw [← hh, Bd.state]; rfl
  have N0 := Fr.nil n0
  show own_G p.tables e below s (Q_rmP310 Z o0 x0 x1 k0 cs fm h0 n0) ({ frames := 2, cells := 0, slots := 0, locals := 30 } : Room).cells ({ frames := 2, cells := 0, slots := 0, locals := 30 } : Room).slots _
  refine own_thr (a := s₁.setTop (mkF m 0 #[.val (.ref o0), .val (.int 0), .val (.int 1)] [])) (fun t kt => castTop (ef_rmP310 m o0) kt) ?_
  refine own_thr (a := s₁.setTop (mkF m 4 #[.val (.ref o0), .val (.int 0), .val (.int 1)] [(.int 0), (.int 1), (.int 0), (.ref o0)])) (fun t kt => ?_) ?_
  · refine XS.aloadN X0.here hx rfl (hb hby d25_0) rfl rfl ?_
    refine XS.iloadN X0.here hx rfl (hb hby d25_1) rfl ?_
    refine XS.iloadN X0.here hx rfl (hb hby d25_2) rfl ?_
    refine XS.iconst X0.here hx rfl (hb hby d25_3) ?_
    exact kt
  obtain ⟨_, _, ⟨T1, L1, k1, n1⟩, -, X1, ⟨Lc1, hQ1, l1, y1, z1⟩, st1⟩ := Jvm.LawKit.callS X0 hx (y := own_m20) hown (mvT hZ (hw _ (own_i 111 rfl))) (mvT hZ (hw _ (own_i 112 rfl))) (mvT hZ (hw _ (own_i 63 rfl))) (mvT hZ (hw _ (own_i 113 rfl))) (by decide) (backOf (W := 0) (rmP410 l Z a0 hw [] o0 x0 x1 k0 cs fm h0 n0 Z0 V_o0 hKs hO) hZ (hw _ (own_i 113 rfl)) (hw _ (own_i 63 rfl)) (by decide) (by decide)) (g := (mkF m 4 #[.val (.ref o0), .val (.int 0), .val (.int 1)] [(.int 0), (.int 1), (.int 0), (.ref o0)])) rfl (by rw [hml]; rfl) (argsL := [(.ref o0), (.int 0), (.int 1), (.int 0)]) (rest := []) (lenOf pd__28_5bBIIZ_29I rfl) rfl (own_q rfl) (hb hby d25_4) (fun _ _ => ⟨rfl, e0, (by decide : 0 + 0 ≤ _), (by decide : 0 + 0 ≤ _)⟩)
  dsimp only [Pt.U, Pt.locs, Pt.cells, Pt.slots] at X1 l1 y1 z1 st1 hQ1
  obtain ⟨rfl, N1q, e1⟩ := hQ1
  obtain ⟨lc1, X1, N1⟩ := own_pack X1 l1 y1 z1 N0 N1q (C := 0) (S' := 0) rfl rfl
  refine own_thr (a := T1.setTop (mkF m 7 #[.val (.ref o0), .val (.int 0), .val (.int 1)] [(.int (own_gc x0 x1))])) (fun t kt => st1 t kt) ?_
  exact own_end X1 hlk (v := some (.int (own_gc x0 x1))) (fun h => by rw [Bd.returns] at h; cases h) (fun fs hr => retI X1 hx Bd.returns (hb hby d25_7) hr) (by rw [e1]; exact ⟨rfl, N1, rfl⟩) (by decide : 0 ≤ _) (by decide : 0 ≤ _)
theorem d26_51 : decode jdk_52_method_7_code 51 = .ok (.iload_n 3, 1) := by decide +kernel
theorem d26_52 : decode jdk_52_method_7_code 52 = .ok (.ifCond .eq 8, 3) := by decide +kernel
theorem d26_60 : decode jdk_52_method_7_code 60 = .ok (.aload_n 0, 1) := by decide +kernel
theorem d26_61 : decode jdk_52_method_7_code 61 = .ok (.iload_n 1, 1) := by decide +kernel
theorem d26_62 : decode jdk_52_method_7_code 62 = .ok (.invokestatic 71, 3) := by decide +kernel
theorem d26_65 : decode jdk_52_method_7_code 65 = .ok (.istore 5, 2) := by decide +kernel
theorem d26_67 : decode jdk_52_method_7_code 67 = .ok (.iload 5, 2) := by decide +kernel
theorem d26_69 : decode jdk_52_method_7_code 69 = .ok (.invokestatic 81, 3) := by decide +kernel
theorem d26_72 : decode jdk_52_method_7_code 72 = .ok (.ifCond .eq 11, 3) := by decide +kernel
theorem d26_75 : decode jdk_52_method_7_code 75 = .ok (.iload 4, 2) := by decide +kernel
theorem d26_77 : decode jdk_52_method_7_code 77 = .ok (.iload 5, 2) := by decide +kernel
theorem pd__28CC_29I : parseMethodDescriptor "(CC)I" = some ⟨[.char, .char], some .int⟩ := by decide +kernel
theorem d26_79 : decode jdk_52_method_7_code 79 = .ok (.invokestatic 84, 3) := by decide +kernel
theorem d26_82 : decode jdk_52_method_7_code 82 = .ok (.ireturn, 1) := by decide +kernel
theorem ef_rmP420 (m : MethodId) (o0 : Addr)  : entryFrame m #[(.ref o0), (.int 0), (.int 2), (.int 0)] 6 = mkF m 0 #[.val (.ref o0), .val (.int 0), .val (.int 2), .val (.int 0), .unset, .unset] [] := by first |  (simp [entryFrame, mkF, argsToLocals, Value.category]; done) | rfl
def Q_rmP420 (Z : State) (o0 : Addr) (x0 : Int32) (x1 : Int32) (x2 : Int32) (x3 : Int32) (k0 : ClassId) (cs : Int32) (fm : Value) (h0 : Heap) (n0 : Nat) (v : Option Value) (h : Heap) (L : List Loc) : Prop := v = some (.int (own_cp (own_gc x0 x1) (own_gc x2 x3))) ∧ Fr n0 L ∧ h = h0
theorem rmP420 (l : Launch) (Z : State) (a0 : Array Value) (hw : ∀ d ∈ tables_1, d.before a0 Z = true) (ws : List Jvm.Cond) (o0 : Addr) (x0 : Int32) (x1 : Int32) (x2 : Int32) (x3 : Int32) (k0 : ClassId) (cs : Int32) (fm : Value) (h0 : Heap) (n0 : Nat) (Z0 : n0 ≤ h0.size) (V_o0 : Arv Z h0 o0 k0 .byte (4 : Int32) [(.int x0), (.int x1), (.int x2), (.int x3)] (.int 0)) (hKs : own_K Z cs fm) (hO : Old Z n0 h0) :
    MetFree l own_m20 (head1 (Jvm.Cond.code own_m20 jdk_52_method_7_code 6 (some .int) :: ws) ({ frames := 1, cells := 0, slots := 0, locals := 13 } : Room)) (fun a U => a = #[(.ref o0), (.int 0), (.int 2), (.int 0)] ∧ Z.Warmed39 U.vm ∧ U.heap = h0) (fun _ _ _ _ _ => True) (fun _ U o U' => ∃ v L, o = .returned v ∧ Q_rmP420 Z o0 x0 x1 x2 x3 k0 cs fm h0 n0 v U'.heap L ∧ FrameEnd U o U' L ({ frames := 1, cells := 0, slots := 0, locals := 13 } : Room).cells ({ frames := 1, cells := 0, slots := 0, locals := 13 } : Room).slots) := by
  refine MetFree.of_bodySF (plainFor_of_name pn_java_lang_StringUTF16) hisR ?_
  intro p e s m args below meth c s₁ Bd hml0 hP hK
  obtain ⟨rfl, hZ, hh⟩ := hP
  have hx := Bd.exec
  have hby := Bd.bytes
  have hml : c.maxLocals = 6 := hml0
  have hown : s.vm.findClass "java/lang/StringUTF16" = some m.cls := findClass_of_methodNamed Bd.named
  have hnm := (name_of_methodNamed Bd.named Bd.method).1
  have hlk := Bd.notSynchronized
  have X0 : Stand p l e ({ frames := 1, cells := 0, slots := 0, locals := 13 } : Room) s m #[(.ref o0), (.int 0), (.int 2), (.int 0)] below meth c s₁ [] 0 0 := Stand.of_body Bd
  have e0 : s₁.heap = h0 := by rw [← hh, Bd.state]; rfl
  have N0 := Fr.nil n0
  show own_G p.tables e below s (Q_rmP420 Z o0 x0 x1 x2 x3 k0 cs fm h0 n0) ({ frames := 1, cells := 0, slots := 0, locals := 13 } : Room).cells ({ frames := 1, cells := 0, slots := 0, locals := 13 } : Room).slots _
  refine own_thr (a := s₁.setTop (mkF m 0 #[.val (.ref o0), .val (.int 0), .val (.int 2), .val (.int 0), .unset, .unset] [])) (fun t kt => castTop (ef_rmP420 m o0) kt) ?_
  obtain ⟨T1, X1, e1, st1⟩ := getS2 X0 hx hZ hown (host := "") (Or.inl (hw _ (own_i 81 rfl))) Via.refl e0 (hKs.2.2.2.2.1.ext hO.2) (g := (mkF m 0 #[.val (.ref o0), .val (.int 0), .val (.int 2), .val (.int 0), .unset, .unset] [])) rfl (hb hby d26_0)
  refine own_thr (a := T1.setTop (mkF m 3 #[.val (.ref o0), .val (.int 0), .val (.int 2), .val (.int 0), .unset, .unset] [(.int 1)])) (fun t kt => st1 t kt) ?_
  refine own_thr (a := T1.setTop (mkF m 30 #[.val (.ref o0), .val (.int 0), .val (.int 2), .val (.int 0), .unset, .unset] [(.int 0), (.ref o0)])) (fun t kt => ?_) ?_
  · refine XS.ifYes X1.here hx rfl (pc0 := 3) (pc' := 19) rfl (hb hby d26_3) rfl ((if0 _ _).trans (feq (by decide)).2) (by decide) (by decide) ?_
    refine XS.iloadN X1.here hx rfl (hb hby d26_19) rfl ?_
    refine XS.ifYes X1.here hx rfl (pc0 := 20) (pc' := 28) rfl (hb hby d26_20) rfl ((if0 _ _).trans (teq rfl).1) (by decide) (by decide) ?_
    refine XS.aloadN X1.here hx rfl (hb hby d26_28) rfl rfl ?_
    refine XS.iloadN X1.here hx rfl (hb hby d26_29) rfl ?_
    exact kt
  obtain ⟨_, _, ⟨T2, L2, k2, n2⟩, -, X2, ⟨Lc2, hQ2, l2, y2, z2⟩, st2⟩ := Jvm.LawKit.callS X1 hx (y := own_m1) hown (mvT hZ (hw _ (own_i 84 rfl))) (mvT hZ (hw _ (own_i 85 rfl))) (mvT hZ (hw _ (own_i 63 rfl))) (mvT hZ (hw _ (own_i 86 rfl))) (by decide) (backOf (W := 0) (rmG20 l Z a0 hw [] o0 x0 x1 x2 x3 k0 cs fm h0 n0 Z0 V_o0 hKs hO) hZ (hw _ (own_i 86 rfl)) (hw _ (own_i 63 rfl)) (by decide) (by decide)) (g := (mkF m 30 #[.val (.ref o0), .val (.int 0), .val (.int 2), .val (.int 0), .unset, .unset] [(.int 0), (.ref o0)])) rfl (by rw [hml]; rfl) (argsL := [(.ref o0), (.int 0)]) (rest := []) (lenOf pd__28_5bBI_29C rfl) rfl (own_q rfl) (hb hby d26_30) (fun _ _ => ⟨rfl, e1, (by decide : 0 + 0 ≤ _), (by decide : 0 + 0 ≤ _)⟩)
  dsimp only [Pt.U, Pt.locs, Pt.cells, Pt.slots] at X2 l2 y2 z2 st2 hQ2
  obtain ⟨rfl, N2q, e2⟩ := hQ2
  obtain ⟨lc2, X2, N2⟩ := own_pack X2 l2 y2 z2 N0 N2q (C := 0) (S' := 0) rfl rfl
  refine own_thr (a := T2.setTop (mkF m 33 #[.val (.ref o0), .val (.int 0), .val (.int 2), .val (.int 0), .unset, .unset] [(.int (own_gc x0 x1))])) (fun t kt => st2 t kt) ?_
  refine own_thr (a := T2.setTop (mkF m 37 #[.val (.ref o0), .val (.int 0), .val (.int 2), .val (.int 0), .val (.int (own_gc x0 x1)), .unset] [(.int (own_gc x0 x1))])) (fun t kt => ?_) ?_
  · refine XS.istore X2.here hx rfl (hb hby d26_33) rfl (l' := #[.val (.ref o0), .val (.int 0), .val (.int 2), .val (.int 0), .val (.int (own_gc x0 x1)), .unset]) rfl ?_
    refine XS.iload X2.here hx rfl (hb hby d26_35) rfl ?_
    exact kt
  obtain ⟨_, _, ⟨T3, L3, k3, n3⟩, -, X3, ⟨Lc3, hQ3, l3, y3, z3⟩, st3⟩ := Jvm.LawKit.callS X2 hx (y := own_m16) hown (mvT hZ (hw _ (own_i 114 rfl))) (mvT hZ (hw _ (own_i 115 rfl))) (mvT hZ (hw _ (own_i 116 rfl))) (mvT hZ (hw _ (own_i 117 rfl))) (by decide) (backOf (W := 0) (rmHS l Z a0 hw [] (own_gc x0 x1) h0 n0 Z0) hZ (hw _ (own_i 117 rfl)) (hw _ (own_i 116 rfl)) (by decide) (by decide)) (g := (mkF m 37 #[.val (.ref o0), .val (.int 0), .val (.int 2), .val (.int 0), .val (.int (own_gc x0 x1)), .unset] [(.int (own_gc x0 x1))])) rfl (by rw [hml]; rfl) (argsL := [(.int (own_gc x0 x1))]) (rest := []) (lenOf pd__28C_29Z rfl) rfl (own_q rfl) (hb hby d26_37) (fun _ _ => ⟨rfl, e2, (by decide : 0 + 0 ≤ _), (by decide : 0 + 0 ≤ _)⟩)
  dsimp only [Pt.U, Pt.locs, Pt.cells, Pt.slots] at X3 l3 y3 z3 st3 hQ3
  obtain ⟨rfl, N3q, e3⟩ := hQ3
  obtain ⟨lc3, X3, N3⟩ := own_pack X3 l3 y3 z3 N2 N3q (C := 0) (S' := 0) rfl rfl
  refine own_thr (a := T3.setTop (mkF m 40 #[.val (.ref o0), .val (.int 0), .val (.int 2), .val (.int 0), .val (.int (own_gc x0 x1)), .unset] [(.int (f_rmHS (own_gc x0 x1)))])) (fun t kt => st3 t kt) ?_
  by_cases hc4 : (f_rmHS (own_gc x0 x1)) = (0 : Int32)
  · refine own_thr (a := T3.setTop (mkF m 85 #[.val (.ref o0), .val (.int 0), .val (.int 2), .val (.int 0), .val (.int (own_gc x0 x1)), .unset] [(.int (own_gc x0 x1))])) (fun t kt => ?_) ?_
    · refine XS.ifYes X3.here hx rfl (pc0 := 40) (pc' := 83) rfl (hb hby d26_40) rfl ((if0 _ _).trans (teq hc4).1) (by decide) (by decide) ?_
      refine XS.iload X3.here hx rfl (hb hby d26_83) rfl ?_
      exact kt
    exact own_end X3 hlk (v := some (.int (own_gc x0 x1))) (fun h => by rw [Bd.returns] at h; cases h) (fun fs hr => retI X3 hx Bd.returns (hb hby d26_85) hr) (by rw [e3]; exact ⟨(by rw [own_cp, if_pos hc4]), N3, rfl⟩) (by decide : 0 ≤ _) (by decide : 0 ≤ _)
  · refine own_thr (a := T3.setTop (mkF m 62 #[.val (.ref o0), .val (.int 1), .val (.int 2), .val (.int 0), .val (.int (own_gc x0 x1)), .unset] [(.int 1), (.ref o0)])) (fun t kt => ?_) ?_
    · refine XS.ifNo X3.here hx rfl (hb hby d26_40) rfl ((if0 _ _).trans (feq hc4).1) ?_
      refine XS.iinc X3.here hx rfl (hb hby d26_43) rfl (l' := #[.val (.ref o0), .val (.int 1), .val (.int 2), .val (.int 0), .val (.int (own_gc x0 x1)), .unset]) rfl ?_
      refine XS.iloadN X3.here hx rfl (hb hby d26_46) rfl ?_
      refine XS.iloadN X3.here hx rfl (hb hby d26_47) rfl ?_
      refine XS.icmpNo X3.here hx rfl (hb hby d26_48) rfl (tlt (by decide)).2.1 ?_
      refine XS.iloadN X3.here hx rfl (hb hby d26_51) rfl ?_
      refine XS.ifYes X3.here hx rfl (pc0 := 52) (pc' := 60) rfl (hb hby d26_52) rfl ((if0 _ _).trans (teq rfl).1) (by decide) (by decide) ?_
      refine XS.aloadN X3.here hx rfl (hb hby d26_60) rfl rfl ?_
      refine XS.iloadN X3.here hx rfl (hb hby d26_61) rfl ?_
      exact kt
    obtain ⟨_, _, ⟨T5, L5, k5, n5⟩, -, X5, ⟨Lc5, hQ5, l5, y5, z5⟩, st5⟩ := Jvm.LawKit.callS X3 hx (y := own_m1) hown (mvT hZ (hw _ (own_i 84 rfl))) (mvT hZ (hw _ (own_i 85 rfl))) (mvT hZ (hw _ (own_i 63 rfl))) (mvT hZ (hw _ (own_i 86 rfl))) (by decide) (backOf (W := 0) (rmG21 l Z a0 hw [] o0 x0 x1 x2 x3 k0 cs fm h0 n0 Z0 V_o0 hKs hO) hZ (hw _ (own_i 86 rfl)) (hw _ (own_i 63 rfl)) (by decide) (by decide)) (g := (mkF m 62 #[.val (.ref o0), .val (.int 1), .val (.int 2), .val (.int 0), .val (.int (own_gc x0 x1)), .unset] [(.int 1), (.ref o0)])) rfl (by rw [hml]; rfl) (argsL := [(.ref o0), (.int 1)]) (rest := []) (lenOf pd__28_5bBI_29C rfl) rfl (own_q rfl) (hb hby d26_62) (fun _ _ => ⟨rfl, e3, (by decide : 0 + 0 ≤ _), (by decide : 0 + 0 ≤ _)⟩)
    dsimp only [Pt.U, Pt.locs, Pt.cells, Pt.slots] at X5 l5 y5 z5 st5 hQ5
    obtain ⟨rfl, N5q, e5⟩ := hQ5
    obtain ⟨lc5, X5, N5⟩ := own_pack X5 l5 y5 z5 N3 N5q (C := 0) (S' := 0) rfl rfl
    refine own_thr (a := T5.setTop (mkF m 65 #[.val (.ref o0), .val (.int 1), .val (.int 2), .val (.int 0), .val (.int (own_gc x0 x1)), .unset] [(.int (own_gc x2 x3))])) (fun t kt => st5 t kt) ?_
    refine own_thr (a := T5.setTop (mkF m 69 #[.val (.ref o0), .val (.int 1), .val (.int 2), .val (.int 0), .val (.int (own_gc x0 x1)), .val (.int (own_gc x2 x3))] [(.int (own_gc x2 x3))])) (fun t kt => ?_) ?_
    · refine XS.istore X5.here hx rfl (hb hby d26_65) rfl (l' := #[.val (.ref o0), .val (.int 1), .val (.int 2), .val (.int 0), .val (.int (own_gc x0 x1)), .val (.int (own_gc x2 x3))]) rfl ?_
      refine XS.iload X5.here hx rfl (hb hby d26_67) rfl ?_
      exact kt
    obtain ⟨_, _, ⟨T6, L6, k6, n6⟩, -, X6, ⟨Lc6, hQ6, l6, y6, z6⟩, st6⟩ := Jvm.LawKit.callS X5 hx (y := own_m17) hown (mvT hZ (hw _ (own_i 138 rfl))) (mvT hZ (hw _ (own_i 139 rfl))) (mvT hZ (hw _ (own_i 116 rfl))) (mvT hZ (hw _ (own_i 140 rfl))) (by decide) (backOf (W := 0) (rmLS l Z a0 hw [] (own_gc x2 x3) h0 n0 Z0) hZ (hw _ (own_i 140 rfl)) (hw _ (own_i 116 rfl)) (by decide) (by decide)) (g := (mkF m 69 #[.val (.ref o0), .val (.int 1), .val (.int 2), .val (.int 0), .val (.int (own_gc x0 x1)), .val (.int (own_gc x2 x3))] [(.int (own_gc x2 x3))])) rfl (by rw [hml]; rfl) (argsL := [(.int (own_gc x2 x3))]) (rest := []) (lenOf pd__28C_29Z rfl) rfl (own_q rfl) (hb hby d26_69) (fun _ _ => ⟨rfl, e5, (by decide : 0 + 0 ≤ _), (by decide : 0 + 0 ≤ _)⟩)
    dsimp only [Pt.U, Pt.locs, Pt.cells, Pt.slots] at X6 l6 y6 z6 st6 hQ6
    obtain ⟨rfl, N6q, e6⟩ := hQ6
    obtain ⟨lc6, X6, N6⟩ := own_pack X6 l6 y6 z6 N5 N6q (C := 0) (S' := 0) rfl rfl
    refine own_thr (a := T6.setTop (mkF m 72 #[.val (.ref o0), .val (.int 1), .val (.int 2), .val (.int 0), .val (.int (own_gc x0 x1)), .val (.int (own_gc x2 x3))] [(.int (f_rmLS (own_gc x2 x3)))])) (fun t kt => st6 t kt) ?_
    by_cases hc7 : (f_rmLS (own_gc x2 x3)) = (0 : Int32)
    · refine own_thr (a := T6.setTop (mkF m 85 #[.val (.ref o0), .val (.int 1), .val (.int 2), .val (.int 0), .val (.int (own_gc x0 x1)), .val (.int (own_gc x2 x3))] [(.int (own_gc x0 x1))])) (fun t kt => ?_) ?_
      · refine XS.ifYes X6.here hx rfl (pc0 := 72) (pc' := 83) rfl (hb hby d26_72) rfl ((if0 _ _).trans (teq hc7).1) (by decide) (by decide) ?_
        refine XS.iload X6.here hx rfl (hb hby d26_83) rfl ?_
        exact kt
      exact own_end X6 hlk (v := some (.int (own_gc x0 x1))) (fun h => by rw [Bd.returns] at h; cases h) (fun fs hr => retI X6 hx Bd.returns (hb hby d26_85) hr) (by rw [e6]; exact ⟨(by rw [own_cp, if_neg hc4, if_pos hc7]), N6, rfl⟩) (by decide : 0 ≤ _) (by decide : 0 ≤ _)
    · refine own_thr (a := T6.setTop (mkF m 79 #[.val (.ref o0), .val (.int 1), .val (.int 2), .val (.int 0), .val (.int (own_gc x0 x1)), .val (.int (own_gc x2 x3))] [(.int (own_gc x2 x3)), (.int (own_gc x0 x1))])) (fun t kt => ?_) ?_
      · refine XS.ifNo X6.here hx rfl (hb hby d26_72) rfl ((if0 _ _).trans (feq hc7).1) ?_
        refine XS.iload X6.here hx rfl (hb hby d26_75) rfl ?_
        refine XS.iload X6.here hx rfl (hb hby d26_77) rfl ?_
        exact kt
      obtain ⟨_, _, ⟨T8, L8, k8, n8⟩, -, X8, ⟨Lc8, hQ8, l8, y8, z8⟩, st8⟩ := Jvm.LawKit.callS X6 hx (y := own_m18) hown (mvT hZ (hw _ (own_i 142 rfl))) (mvT hZ (hw _ (own_i 143 rfl))) (mvT hZ (hw _ (own_i 116 rfl))) (mvT hZ (hw _ (own_i 144 rfl))) (by decide) (backOf (W := 0) (rmTC l Z a0 hw [] (own_gc x0 x1) (own_gc x2 x3) h0 n0 Z0) hZ (hw _ (own_i 144 rfl)) (hw _ (own_i 116 rfl)) (by decide) (by decide)) (g := (mkF m 79 #[.val (.ref o0), .val (.int 1), .val (.int 2), .val (.int 0), .val (.int (own_gc x0 x1)), .val (.int (own_gc x2 x3))] [(.int (own_gc x2 x3)), (.int (own_gc x0 x1))])) rfl (by rw [hml]; rfl) (argsL := [(.int (own_gc x0 x1)), (.int (own_gc x2 x3))]) (rest := []) (lenOf pd__28CC_29I rfl) rfl (own_q rfl) (hb hby d26_79) (fun _ _ => ⟨rfl, e6, (by decide : 0 + 0 ≤ _), (by decide : 0 + 0 ≤ _)⟩)
      dsimp only [Pt.U, Pt.locs, Pt.cells, Pt.slots] at X8 l8 y8 z8 st8 hQ8
      obtain ⟨rfl, N8q, e8⟩ := hQ8
      obtain ⟨lc8, X8, N8⟩ := own_pack X8 l8 y8 z8 N6 N8q (C := 0) (S' := 0) rfl rfl
      refine own_thr (a := T8.setTop (mkF m 82 #[.val (.ref o0), .val (.int 1), .val (.int 2), .val (.int 0), .val (.int (own_gc x0 x1)), .val (.int (own_gc x2 x3))] [(.int (f_rmTC (own_gc x0 x1) (own_gc x2 x3)))])) (fun t kt => st8 t kt) ?_
      exact own_end X8 hlk (v := some (.int (f_rmTC (own_gc x0 x1) (own_gc x2 x3)))) (fun h => by rw [Bd.returns] at h; cases h) (fun fs hr => retI X8 hx Bd.returns (hb hby d26_82) hr) (by rw [e8]; exact ⟨(by rw [own_cp, if_neg hc4, if_neg hc7]), N8, rfl⟩) (by decide : 0 ≤ _) (by decide : 0 ≤ _)
theorem ef_rmP320 (m : MethodId) (o0 : Addr)  : entryFrame m #[(.ref o0), (.int 0), (.int 2)] 3 = mkF m 0 #[.val (.ref o0), .val (.int 0), .val (.int 2)] [] := by first |  (simp [entryFrame, mkF, argsToLocals, Value.category]; done) | rfl
def Q_rmP320 (Z : State) (o0 : Addr) (x0 : Int32) (x1 : Int32) (x2 : Int32) (x3 : Int32) (k0 : ClassId) (cs : Int32) (fm : Value) (h0 : Heap) (n0 : Nat) (v : Option Value) (h : Heap) (L : List Loc) : Prop := v = some (.int (own_cp (own_gc x0 x1) (own_gc x2 x3))) ∧ Fr n0 L ∧ h = h0
theorem rmP320 (l : Launch) (Z : State) (a0 : Array Value) (hw : ∀ d ∈ tables_1, d.before a0 Z = true) (ws : List Jvm.Cond) (o0 : Addr) (x0 : Int32) (x1 : Int32) (x2 : Int32) (x3 : Int32) (k0 : ClassId) (cs : Int32) (fm : Value) (h0 : Heap) (n0 : Nat) (Z0 : n0 ≤ h0.size) (V_o0 : Arv Z h0 o0 k0 .byte (4 : Int32) [(.int x0), (.int x1), (.int x2), (.int x3)] (.int 0)) (hKs : own_K Z cs fm) (hO : Old Z n0 h0) :
    MetFree l own_m21 (head1 (Jvm.Cond.code own_m21 jdk_52_method_8_code 3 (some .int) :: ws) ({ frames := 2, cells := 0, slots := 0, locals := 30 } : Room)) (fun a U => a = #[(.ref o0), (.int 0), (.int 2)] ∧ Z.Warmed39 U.vm ∧ U.heap = h0) (fun _ _ _ _ _ => True) (fun _ U o U' => ∃ v L, o = .returned v ∧ Q_rmP320 Z o0 x0 x1 x2 x3 k0 cs fm h0 n0 v U'.heap L ∧ FrameEnd U o U' L ({ frames := 2, cells := 0, slots := 0, locals := 30 } : Room).cells ({ frames := 2, cells := 0, slots := 0, locals := 30 } : Room).slots) := by
  refine MetFree.of_bodySF (plainFor_of_name pn_java_lang_StringUTF16) hisR ?_
  intro p e s m args below meth c s₁ Bd hml0 hP hK
  obtain ⟨rfl, hZ, hh⟩ := hP
  have hx := Bd.exec
  have hby := Bd.bytes
  have hml : c.maxLocals = 3 := hml0
  have hown : s.vm.findClass "java/lang/StringUTF16" = some m.cls := findClass_of_methodNamed Bd.named
  have hnm := (name_of_methodNamed Bd.named Bd.method).1
  have hlk := Bd.notSynchronized
  have X0 : Stand p l e ({ frames := 2, cells := 0, slots := 0, locals := 30 } : Room) s m #[(.ref o0), (.int 0), (.int 2)] below meth c s₁ [] 0 0 := Stand.of_body Bd
  have e0 : s₁.heap = h0 := by rw [← hh, Bd.state]; rfl
  have N0 := Fr.nil n0
  show own_G p.tables e below s (Q_rmP320 Z o0 x0 x1 x2 x3 k0 cs fm h0 n0) ({ frames := 2, cells := 0, slots := 0, locals := 30 } : Room).cells ({ frames := 2, cells := 0, slots := 0, locals := 30 } : Room).slots _
  refine own_thr (a := s₁.setTop (mkF m 0 #[.val (.ref o0), .val (.int 0), .val (.int 2)] [])) (fun t kt => castTop (ef_rmP320 m o0) kt) ?_
  refine own_thr (a := s₁.setTop (mkF m 4 #[.val (.ref o0), .val (.int 0), .val (.int 2)] [(.int 0), (.int 2), (.int 0), (.ref o0)])) (fun t kt => ?_) ?_
  · refine XS.aloadN X0.here hx rfl (hb hby d25_0) rfl rfl ?_
    refine XS.iloadN X0.here hx rfl (hb hby d25_1) rfl ?_
    refine XS.iloadN X0.here hx rfl (hb hby d25_2) rfl ?_
    refine XS.iconst X0.here hx rfl (hb hby d25_3) ?_
    exact kt
  obtain ⟨_, _, ⟨T1, L1, k1, n1⟩, -, X1, ⟨Lc1, hQ1, l1, y1, z1⟩, st1⟩ := Jvm.LawKit.callS X0 hx (y := own_m20) hown (mvT hZ (hw _ (own_i 111 rfl))) (mvT hZ (hw _ (own_i 112 rfl))) (mvT hZ (hw _ (own_i 63 rfl))) (mvT hZ (hw _ (own_i 113 rfl))) (by decide) (backOf (W := 0) (rmP420 l Z a0 hw [] o0 x0 x1 x2 x3 k0 cs fm h0 n0 Z0 V_o0 hKs hO) hZ (hw _ (own_i 113 rfl)) (hw _ (own_i 63 rfl)) (by decide) (by decide)) (g := (mkF m 4 #[.val (.ref o0), .val (.int 0), .val (.int 2)] [(.int 0), (.int 2), (.int 0), (.ref o0)])) rfl (by rw [hml]; rfl) (argsL := [(.ref o0), (.int 0), (.int 2), (.int 0)]) (rest := []) (lenOf pd__28_5bBIIZ_29I rfl) rfl (own_q rfl) (hb hby d25_4) (fun _ _ => ⟨rfl, e0, (by decide : 0 + 0 ≤ _), (by decide : 0 + 0 ≤ _)⟩)
  dsimp only [Pt.U, Pt.locs, Pt.cells, Pt.slots] at X1 l1 y1 z1 st1 hQ1
  obtain ⟨rfl, N1q, e1⟩ := hQ1
  obtain ⟨lc1, X1, N1⟩ := own_pack X1 l1 y1 z1 N0 N1q (C := 0) (S' := 0) rfl rfl
  refine own_thr (a := T1.setTop (mkF m 7 #[.val (.ref o0), .val (.int 0), .val (.int 2)] [(.int (own_cp (own_gc x0 x1) (own_gc x2 x3)))])) (fun t kt => st1 t kt) ?_
  exact own_end X1 hlk (v := some (.int (own_cp (own_gc x0 x1) (own_gc x2 x3)))) (fun h => by rw [Bd.returns] at h; cases h) (fun fs hr => retI X1 hx Bd.returns (hb hby d25_7) hr) (by rw [e1]; exact ⟨rfl, N1, rfl⟩) (by decide : 0 ≤ _) (by decide : 0 ≤ _)
theorem ef_rmP421 (m : MethodId) (o0 : Addr)  : entryFrame m #[(.ref o0), (.int 1), (.int 2), (.int 0)] 6 = mkF m 0 #[.val (.ref o0), .val (.int 1), .val (.int 2), .val (.int 0), .unset, .unset] [] := by first |  (simp [entryFrame, mkF, argsToLocals, Value.category]; done) | rfl
def Q_rmP421 (Z : State) (o0 : Addr) (x0 : Int32) (x1 : Int32) (x2 : Int32) (x3 : Int32) (k0 : ClassId) (cs : Int32) (fm : Value) (h0 : Heap) (n0 : Nat) (v : Option Value) (h : Heap) (L : List Loc) : Prop := v = some (.int (own_gc x2 x3)) ∧ Fr n0 L ∧ h = h0
theorem rmP421 (l : Launch) (Z : State) (a0 : Array Value) (hw : ∀ d ∈ tables_1, d.before a0 Z = true) (ws : List Jvm.Cond) (o0 : Addr) (x0 : Int32) (x1 : Int32) (x2 : Int32) (x3 : Int32) (k0 : ClassId) (cs : Int32) (fm : Value) (h0 : Heap) (n0 : Nat) (Z0 : n0 ≤ h0.size) (V_o0 : Arv Z h0 o0 k0 .byte (4 : Int32) [(.int x0), (.int x1), (.int x2), (.int x3)] (.int 0)) (hKs : own_K Z cs fm) (hO : Old Z n0 h0) :
    MetFree l own_m20 (head1 (Jvm.Cond.code own_m20 jdk_52_method_7_code 6 (some .int) :: ws) ({ frames := 1, cells := 0, slots := 0, locals := 13 } : Room)) (fun a U => a = #[(.ref o0), (.int 1), (.int 2), (.int 0)] ∧ Z.Warmed39 U.vm ∧ U.heap = h0) (fun _ _ _ _ _ => True) (fun _ U o U' => ∃ v L, o = .returned v ∧ Q_rmP421 Z o0 x0 x1 x2 x3 k0 cs fm h0 n0 v U'.heap L ∧ FrameEnd U o U' L ({ frames := 1, cells := 0, slots := 0, locals := 13 } : Room).cells ({ frames := 1, cells := 0, slots := 0, locals := 13 } : Room).slots) := by
  refine MetFree.of_bodySF (plainFor_of_name pn_java_lang_StringUTF16) hisR ?_
  intro p e s m args below meth c s₁ Bd hml0 hP hK
  obtain ⟨rfl, hZ, hh⟩ := hP
  have hx := Bd.exec
  have hby := Bd.bytes
  have hml : c.maxLocals = 6 := hml0
  have hown : s.vm.findClass "java/lang/StringUTF16" = some m.cls := findClass_of_methodNamed Bd.named
  have hnm := (name_of_methodNamed Bd.named Bd.method).1
  have hlk := Bd.notSynchronized
  have X0 : Stand p l e ({ frames := 1, cells := 0, slots := 0, locals := 13 } : Room) s m #[(.ref o0), (.int 1), (.int 2), (.int 0)] below meth c s₁ [] 0 0 := Stand.of_body Bd
  have e0 : s₁.heap = h0 := by rw [← hh, Bd.state]; rfl
  have N0 := Fr.nil n0
  show own_G p.tables e below s (Q_rmP421 Z o0 x0 x1 x2 x3 k0 cs fm h0 n0) ({ frames := 1, cells := 0, slots := 0, locals := 13 } : Room).cells ({ frames := 1, cells := 0, slots := 0, locals := 13 } : Room).slots _
  refine own_thr (a := s₁.setTop (mkF m 0 #[.val (.ref o0), .val (.int 1), .val (.int 2), .val (.int 0), .unset, .unset] [])) (fun t kt => castTop (ef_rmP421 m o0) kt) ?_
  obtain ⟨T1, X1, e1, st1⟩ := getS2 X0 hx hZ hown (host := "") (Or.inl (hw _ (own_i 81 rfl))) Via.refl e0 (hKs.2.2.2.2.1.ext hO.2) (g := (mkF m 0 #[.val (.ref o0), .val (.int 1), .val (.int 2), .val (.int 0), .unset, .unset] [])) rfl (hb hby d26_0)
  refine own_thr (a := T1.setTop (mkF m 3 #[.val (.ref o0), .val (.int 1), .val (.int 2), .val (.int 0), .unset, .unset] [(.int 1)])) (fun t kt => st1 t kt) ?_
  refine own_thr (a := T1.setTop (mkF m 30 #[.val (.ref o0), .val (.int 1), .val (.int 2), .val (.int 0), .unset, .unset] [(.int 1), (.ref o0)])) (fun t kt => ?_) ?_
  · refine XS.ifYes X1.here hx rfl (pc0 := 3) (pc' := 19) rfl (hb hby d26_3) rfl ((if0 _ _).trans (feq (by decide)).2) (by decide) (by decide) ?_
    refine XS.iloadN X1.here hx rfl (hb hby d26_19) rfl ?_
    refine XS.ifYes X1.here hx rfl (pc0 := 20) (pc' := 28) rfl (hb hby d26_20) rfl ((if0 _ _).trans (teq rfl).1) (by decide) (by decide) ?_
    refine XS.aloadN X1.here hx rfl (hb hby d26_28) rfl rfl ?_
    refine XS.iloadN X1.here hx rfl (hb hby d26_29) rfl ?_
    exact kt
  obtain ⟨_, _, ⟨T2, L2, k2, n2⟩, -, X2, ⟨Lc2, hQ2, l2, y2, z2⟩, st2⟩ := Jvm.LawKit.callS X1 hx (y := own_m1) hown (mvT hZ (hw _ (own_i 84 rfl))) (mvT hZ (hw _ (own_i 85 rfl))) (mvT hZ (hw _ (own_i 63 rfl))) (mvT hZ (hw _ (own_i 86 rfl))) (by decide) (backOf (W := 0) (rmG21 l Z a0 hw [] o0 x0 x1 x2 x3 k0 cs fm h0 n0 Z0 V_o0 hKs hO) hZ (hw _ (own_i 86 rfl)) (hw _ (own_i 63 rfl)) (by decide) (by decide)) (g := (mkF m 30 #[.val (.ref o0), .val (.int 1), .val (.int 2), .val (.int 0), .unset, .unset] [(.int 1), (.ref o0)])) rfl (by rw [hml]; rfl) (argsL := [(.ref o0), (.int 1)]) (rest := []) (lenOf pd__28_5bBI_29C rfl) rfl (own_q rfl) (hb hby d26_30) (fun _ _ => ⟨rfl, e1, (by decide : 0 + 0 ≤ _), (by decide : 0 + 0 ≤ _)⟩)
  dsimp only [Pt.U, Pt.locs, Pt.cells, Pt.slots] at X2 l2 y2 z2 st2 hQ2
  obtain ⟨rfl, N2q, e2⟩ := hQ2
  obtain ⟨lc2, X2, N2⟩ := own_pack X2 l2 y2 z2 N0 N2q (C := 0) (S' := 0) rfl rfl
  refine own_thr (a := T2.setTop (mkF m 33 #[.val (.ref o0), .val (.int 1), .val (.int 2), .val (.int 0), .unset, .unset] [(.int (own_gc x2 x3))])) (fun t kt => st2 t kt) ?_
  refine own_thr (a := T2.setTop (mkF m 37 #[.val (.ref o0), .val (.int 1), .val (.int 2), .val (.int 0), .val (.int (own_gc x2 x3)), .unset] [(.int (own_gc x2 x3))])) (fun t kt => ?_) ?_
  · refine XS.istore X2.here hx rfl (hb hby d26_33) rfl (l' := #[.val (.ref o0), .val (.int 1), .val (.int 2), .val (.int 0), .val (.int (own_gc x2 x3)), .unset]) rfl ?_
    refine XS.iload X2.here hx rfl (hb hby d26_35) rfl ?_
    exact kt
  obtain ⟨_, _, ⟨T3, L3, k3, n3⟩, -, X3, ⟨Lc3, hQ3, l3, y3, z3⟩, st3⟩ := Jvm.LawKit.callS X2 hx (y := own_m16) hown (mvT hZ (hw _ (own_i 114 rfl))) (mvT hZ (hw _ (own_i 115 rfl))) (mvT hZ (hw _ (own_i 116 rfl))) (mvT hZ (hw _ (own_i 117 rfl))) (by decide) (backOf (W := 0) (rmHS l Z a0 hw [] (own_gc x2 x3) h0 n0 Z0) hZ (hw _ (own_i 117 rfl)) (hw _ (own_i 116 rfl)) (by decide) (by decide)) (g := (mkF m 37 #[.val (.ref o0), .val (.int 1), .val (.int 2), .val (.int 0), .val (.int (own_gc x2 x3)), .unset] [(.int (own_gc x2 x3))])) rfl (by rw [hml]; rfl) (argsL := [(.int (own_gc x2 x3))]) (rest := []) (lenOf pd__28C_29Z rfl) rfl (own_q rfl) (hb hby d26_37) (fun _ _ => ⟨rfl, e2, (by decide : 0 + 0 ≤ _), (by decide : 0 + 0 ≤ _)⟩)
  dsimp only [Pt.U, Pt.locs, Pt.cells, Pt.slots] at X3 l3 y3 z3 st3 hQ3
  obtain ⟨rfl, N3q, e3⟩ := hQ3
  obtain ⟨lc3, X3, N3⟩ := own_pack X3 l3 y3 z3 N2 N3q (C := 0) (S' := 0) rfl rfl
  refine own_thr (a := T3.setTop (mkF m 40 #[.val (.ref o0), .val (.int 1), .val (.int 2), .val (.int 0), .val (.int (own_gc x2 x3)), .unset] [(.int (f_rmHS (own_gc x2 x3)))])) (fun t kt => st3 t kt) ?_
  by_cases hc4 : (f_rmHS (own_gc x2 x3)) = (0 : Int32)
  · refine own_thr (a := T3.setTop (mkF m 85 #[.val (.ref o0), .val (.int 1), .val (.int 2), .val (.int 0), .val (.int (own_gc x2 x3)), .unset] [(.int (own_gc x2 x3))])) (fun t kt => ?_) ?_
    · refine XS.ifYes X3.here hx rfl (pc0 := 40) (pc' := 83) rfl (hb hby d26_40) rfl ((if0 _ _).trans (teq hc4).1) (by decide) (by decide) ?_
      refine XS.iload X3.here hx rfl (hb hby d26_83) rfl ?_
      exact kt
    exact own_end X3 hlk (v := some (.int (own_gc x2 x3))) (fun h => by rw [Bd.returns] at h; cases h) (fun fs hr => retI X3 hx Bd.returns (hb hby d26_85) hr) (by rw [e3]; exact ⟨rfl, N3, rfl⟩) (by decide : 0 ≤ _) (by decide : 0 ≤ _)
  · refine own_thr (a := T3.setTop (mkF m 85 #[.val (.ref o0), .val (.int 2), .val (.int 2), .val (.int 0), .val (.int (own_gc x2 x3)), .unset] [(.int (own_gc x2 x3))])) (fun t kt => ?_) ?_
    · refine XS.ifNo X3.here hx rfl (hb hby d26_40) rfl ((if0 _ _).trans (feq hc4).1) ?_
      refine XS.iinc X3.here hx rfl (hb hby d26_43) rfl (l' := #[.val (.ref o0), .val (.int 2), .val (.int 2), .val (.int 0), .val (.int (own_gc x2 x3)), .unset]) rfl ?_
      refine XS.iloadN X3.here hx rfl (hb hby d26_46) rfl ?_
      refine XS.iloadN X3.here hx rfl (hb hby d26_47) rfl ?_
      refine XS.icmpYes X3.here hx rfl (pc0 := 48) (pc' := 83) rfl (hb hby d26_48) rfl (flt (by decide)).2.1 (by decide) (by decide) ?_
      refine XS.iload X3.here hx rfl (hb hby d26_83) rfl ?_
      exact kt
    exact own_end X3 hlk (v := some (.int (own_gc x2 x3))) (fun h => by rw [Bd.returns] at h; cases h) (fun fs hr => retI X3 hx Bd.returns (hb hby d26_85) hr) (by rw [e3]; exact ⟨rfl, N3, rfl⟩) (by decide : 0 ≤ _) (by decide : 0 ≤ _)
theorem ef_rmP321 (m : MethodId) (o0 : Addr)  : entryFrame m #[(.ref o0), (.int 1), (.int 2)] 3 = mkF m 0 #[.val (.ref o0), .val (.int 1), .val (.int 2)] [] := by first |  (simp [entryFrame, mkF, argsToLocals, Value.category]; done) | rfl
def Q_rmP321 (Z : State) (o0 : Addr) (x0 : Int32) (x1 : Int32) (x2 : Int32) (x3 : Int32) (k0 : ClassId) (cs : Int32) (fm : Value) (h0 : Heap) (n0 : Nat) (v : Option Value) (h : Heap) (L : List Loc) : Prop := v = some (.int (own_gc x2 x3)) ∧ Fr n0 L ∧ h = h0
theorem rmP321 (l : Launch) (Z : State) (a0 : Array Value) (hw : ∀ d ∈ tables_1, d.before a0 Z = true) (ws : List Jvm.Cond) (o0 : Addr) (x0 : Int32) (x1 : Int32) (x2 : Int32) (x3 : Int32) (k0 : ClassId) (cs : Int32) (fm : Value) (h0 : Heap) (n0 : Nat) (Z0 : n0 ≤ h0.size) (V_o0 : Arv Z h0 o0 k0 .byte (4 : Int32) [(.int x0), (.int x1), (.int x2), (.int x3)] (.int 0)) (hKs : own_K Z cs fm) (hO : Old Z n0 h0) :
    MetFree l own_m21 (head1 (Jvm.Cond.code own_m21 jdk_52_method_8_code 3 (some .int) :: ws) ({ frames := 2, cells := 0, slots := 0, locals := 30 } : Room)) (fun a U => a = #[(.ref o0), (.int 1), (.int 2)] ∧ Z.Warmed39 U.vm ∧ U.heap = h0) (fun _ _ _ _ _ => True) (fun _ U o U' => ∃ v L, o = .returned v ∧ Q_rmP321 Z o0 x0 x1 x2 x3 k0 cs fm h0 n0 v U'.heap L ∧ FrameEnd U o U' L ({ frames := 2, cells := 0, slots := 0, locals := 30 } : Room).cells ({ frames := 2, cells := 0, slots := 0, locals := 30 } : Room).slots) := by
  refine MetFree.of_bodySF (plainFor_of_name pn_java_lang_StringUTF16) hisR ?_
  intro p e s m args below meth c s₁ Bd hml0 hP hK
  obtain ⟨rfl, hZ, hh⟩ := hP
  have hx := Bd.exec
  have hby := Bd.bytes
  have hml : c.maxLocals = 3 := hml0
  have hown : s.vm.findClass "java/lang/StringUTF16" = some m.cls := findClass_of_methodNamed Bd.named
  have hnm := (name_of_methodNamed Bd.named Bd.method).1
  have hlk := Bd.notSynchronized
  have X0 : Stand p l e ({ frames := 2, cells := 0, slots := 0, locals := 30 } : Room) s m #[(.ref o0), (.int 1), (.int 2)] below meth c s₁ [] 0 0 := Stand.of_body Bd
  have e0 : s₁.heap = h0 := by rw [← hh, Bd.state]; rfl
  have N0 := Fr.nil n0
  show own_G p.tables e below s (Q_rmP321 Z o0 x0 x1 x2 x3 k0 cs fm h0 n0) ({ frames := 2, cells := 0, slots := 0, locals := 30 } : Room).cells ({ frames := 2, cells := 0, slots := 0, locals := 30 } : Room).slots _
  refine own_thr (a := s₁.setTop (mkF m 0 #[.val (.ref o0), .val (.int 1), .val (.int 2)] [])) (fun t kt => castTop (ef_rmP321 m o0) kt) ?_
  refine own_thr (a := s₁.setTop (mkF m 4 #[.val (.ref o0), .val (.int 1), .val (.int 2)] [(.int 0), (.int 2), (.int 1), (.ref o0)])) (fun t kt => ?_) ?_
  · refine XS.aloadN X0.here hx rfl (hb hby d25_0) rfl rfl ?_
    refine XS.iloadN X0.here hx rfl (hb hby d25_1) rfl ?_
    refine XS.iloadN X0.here hx rfl (hb hby d25_2) rfl ?_
    refine XS.iconst X0.here hx rfl (hb hby d25_3) ?_
    exact kt
  obtain ⟨_, _, ⟨T1, L1, k1, n1⟩, -, X1, ⟨Lc1, hQ1, l1, y1, z1⟩, st1⟩ := Jvm.LawKit.callS X0 hx (y := own_m20) hown (mvT hZ (hw _ (own_i 111 rfl))) (mvT hZ (hw _ (own_i 112 rfl))) (mvT hZ (hw _ (own_i 63 rfl))) (mvT hZ (hw _ (own_i 113 rfl))) (by decide) (backOf (W := 0) (rmP421 l Z a0 hw [] o0 x0 x1 x2 x3 k0 cs fm h0 n0 Z0 V_o0 hKs hO) hZ (hw _ (own_i 113 rfl)) (hw _ (own_i 63 rfl)) (by decide) (by decide)) (g := (mkF m 4 #[.val (.ref o0), .val (.int 1), .val (.int 2)] [(.int 0), (.int 2), (.int 1), (.ref o0)])) rfl (by rw [hml]; rfl) (argsL := [(.ref o0), (.int 1), (.int 2), (.int 0)]) (rest := []) (lenOf pd__28_5bBIIZ_29I rfl) rfl (own_q rfl) (hb hby d25_4) (fun _ _ => ⟨rfl, e0, (by decide : 0 + 0 ≤ _), (by decide : 0 + 0 ≤ _)⟩)
  dsimp only [Pt.U, Pt.locs, Pt.cells, Pt.slots] at X1 l1 y1 z1 st1 hQ1
  obtain ⟨rfl, N1q, e1⟩ := hQ1
  obtain ⟨lc1, X1, N1⟩ := own_pack X1 l1 y1 z1 N0 N1q (C := 0) (S' := 0) rfl rfl
  refine own_thr (a := T1.setTop (mkF m 7 #[.val (.ref o0), .val (.int 1), .val (.int 2)] [(.int (own_gc x2 x3))])) (fun t kt => st1 t kt) ?_
  exact own_end X1 hlk (v := some (.int (own_gc x2 x3))) (fun h => by rw [Bd.returns] at h; cases h) (fun fs hr => retI X1 hx Bd.returns (hb hby d25_7) hr) (by rw [e1]; exact ⟨rfl, N1, rfl⟩) (by decide : 0 ≤ _) (by decide : 0 ≤ _)
theorem own_cpl {c d x : Int32} (h : c = x &&& (255 : Int32)) : own_cp c d = c := by
  have hm := c_mask x 255 8 (by decide) (by decide)
  have e : (55296 : Int32).toInt = 55296 := rfl
  have hlt : c < (55296 : Int32) := by rw [h, Int32.lt_iff_toInt_lt]; omega
  unfold own_cp f_rmHS
  rw [if_pos (if_pos hlt)]
theorem d7_0 : decode jdk_42_method_54_code 0 = .ok (.aload_n 0, 1) := by decide +kernel
theorem d7_1 : decode jdk_42_method_54_code 1 = .ok (.getfield 9, 3) := by decide +kernel
theorem d7_4 : decode jdk_42_method_54_code 4 = .ok (.arraylength, 1) := by decide +kernel
theorem d7_5 : decode jdk_42_method_54_code 5 = .ok (.aload_n 0, 1) := by decide +kernel
theorem pd__28_29B : parseMethodDescriptor "()B" = some ⟨[], some .byte⟩ := by decide +kernel
theorem d7_6 : decode jdk_42_method_54_code 6 = .ok (.invokevirtual 335, 3) := by decide +kernel
theorem d7_9 : decode jdk_42_method_54_code 9 = .ok (.ishr, 1) := by decide +kernel
theorem d7_10 : decode jdk_42_method_54_code 10 = .ok (.ireturn, 1) := by decide +kernel
theorem ef_rmLU0 (m : MethodId) (o0 : Addr)  : entryFrame m #[(.ref o0)] 1 = mkF m 0 #[.val (.ref o0)] [] := by first |  (simp [entryFrame, mkF, argsToLocals, Value.category]; done) | rfl
def Q_rmLU0 (Z : State) (o0 : Addr) (cs : Int32) (fm : Value) (h0 : Heap) (n0 : Nat) (v : Option Value) (h : Heap) (L : List Loc) : Prop := v = some (.int 0) ∧ Fr n0 L ∧ h = h0
theorem rmLU0 (l : Launch) (Z : State) (a0 : Array Value) (hw : ∀ d ∈ tables_1, d.before a0 Z = true) (ws : List Jvm.Cond) (o0 : Addr) (cs : Int32) (fm : Value) (h0 : Heap) (n0 : Nat) (Z0 : n0 ≤ h0.size) (U : own_U0 Z h0 o0) (hKs : own_K Z cs fm) (hO : Old Z n0 h0) :
    MetFree l own_m22 (head1 (Jvm.Cond.code own_m22 jdk_42_method_54_code 1 (some .int) :: ws) ({ frames := 1, cells := 0, slots := 0, locals := 13 } : Room)) (fun a U => a = #[(.ref o0)] ∧ Z.Warmed39 U.vm ∧ U.heap = h0) (fun _ _ _ _ _ => True) (fun _ U o U' => ∃ v L, o = .returned v ∧ Q_rmLU0 Z o0 cs fm h0 n0 v U'.heap L ∧ FrameEnd U o U' L ({ frames := 1, cells := 0, slots := 0, locals := 13 } : Room).cells ({ frames := 1, cells := 0, slots := 0, locals := 13 } : Room).slots) := by
  refine MetFree.of_bodySF (plainFor_of_name pn_java_lang_String) hisR ?_
  intro p e s m args below meth c s₁ Bd hml0 hP hK
  obtain ⟨rfl, hZ, hh⟩ := hP
  have hx := Bd.exec
  have hby := Bd.bytes
  have hml : c.maxLocals = 1 := hml0
  have hown : s.vm.findClass "java/lang/String" = some m.cls := findClass_of_methodNamed Bd.named
  have hnm := (name_of_methodNamed Bd.named Bd.method).1
  have hlk := Bd.notSynchronized
  have X0 : Stand p l e ({ frames := 1, cells := 0, slots := 0, locals := 13 } : Room) s m #[(.ref o0)] below meth c s₁ [] 0 0 := Stand.of_body Bd
  have e0 : s₁.heap = h0 := by rw [← hh, Bd.state]; rfl
  have N0 := Fr.nil n0
  show own_G p.tables e below s (Q_rmLU0 Z o0 cs fm h0 n0) ({ frames := 1, cells := 0, slots := 0, locals := 13 } : Room).cells ({ frames := 1, cells := 0, slots := 0, locals := 13 } : Room).slots _
  refine own_thr (a := s₁.setTop (mkF m 0 #[.val (.ref o0)] [])) (fun t kt => castTop (ef_rmLU0 m o0) kt) ?_
  obtain ⟨E0, C0, b, k, V0, A0⟩ := id U
  refine own_thr (a := s₁.setTop (mkF m 1 #[.val (.ref o0)] [(.ref o0)])) (fun t kt => ?_) ?_
  · refine XS.aloadN X0.here hx rfl (hb hby d7_0) rfl rfl ?_
    exact kt
  obtain ⟨T1, X1, e1, st1⟩ := getF X0 hx hZ hown (host := "") (Or.inl (hw _ (own_i 31 rfl))) Via.refl e0 V0 (g := (mkF m 1 #[.val (.ref o0)] [(.ref o0)])) rfl rfl (hb hby d7_1)
  refine own_thr (a := T1.setTop (mkF m 4 #[.val (.ref o0)] [(.ref b)])) (fun t kt => st1 t kt) ?_
  obtain ⟨cl2, Ar2, -, S2, M2, -, -⟩ := id A0
  refine own_thr (a := T1.setTop (mkF m 6 #[.val (.ref o0)] [(.ref o0), (.int 0)])) (fun t kt => ?_) ?_
  · refine X1.arraylength hx (by rw [e1]; exact Ar2.1) (State.isArrayOf_alike hZ.alike Ar2.2.1) (g := (mkF m 4 #[.val (.ref o0)] [(.ref b)])) rfl rfl (hb hby d7_4) _ ?_
    rw [len_of S2 M2]
    refine XS.aloadN X1.here hx rfl (hb hby d7_5) rfl rfl ?_
    exact kt
  obtain ⟨cq3, kq3, q3a, q3b, q3c⟩ := isOf hZ e1 E0
  obtain ⟨_, _, ⟨T3, L3, k3, n3⟩, -, X3, ⟨Lc3, hQ3, l3, y3, z3⟩, st3⟩ := X1.virtualBack hx (y := own_m12) (z := own_m12) hown (mvT hZ (hw _ (own_i 42 rfl))) (mvT hZ (hw _ (own_i 43 rfl))) (notFace_of_selects (args := #[]) (mvT hZ (hw _ (own_i 45 rfl)))) (mvT hZ (hw _ (own_i 45 rfl))) (mvT hZ (hw _ (own_i 44 rfl))) (by decide) (backOf (W := 1) (rmCO0 l Z a0 hw [] o0 cs fm h0 n0 Z0 E0 C0 hKs hO) hZ (hw _ (own_i 46 rfl)) (hw _ (own_i 13 rfl)) (by decide) (by decide)) q3a q3c (g := (mkF m 6 #[.val (.ref o0)] [(.ref o0), (.int 0)])) rfl (by rw [hml]; rfl) (Steps.refl _) (argsL := []) (rest := [(.int 0)]) (lenOf pd__28_29B rfl) rfl (own_q rfl) (hb hby d7_6) (fun _ _ => ⟨rfl, e1, (by decide : 0 + 0 ≤ _), (by decide : 0 + 0 ≤ _)⟩)
  dsimp only [Pt.U, Pt.locs, Pt.cells, Pt.slots] at X3 l3 y3 z3 st3 hQ3
  obtain ⟨rfl, N3q, e3⟩ := hQ3
  obtain ⟨lc3, X3, N3⟩ := own_pack X3 l3 y3 z3 N0 N3q (C := 0) (S' := 0) rfl rfl
  refine own_thr (a := T3.setTop (mkF m 9 #[.val (.ref o0)] [(.int 0), (.int 0)])) (fun t kt => st3.trans kt) ?_
  refine own_thr (a := T3.setTop (mkF m 10 #[.val (.ref o0)] [(.int 0)])) (fun t kt => ?_) ?_
  · refine XS.ishr X3.here hx rfl (hb hby d7_9) rfl ?_
    exact kt
  exact own_end X3 hlk (v := some (.int 0)) (fun h => by rw [Bd.returns] at h; cases h) (fun fs hr => retI X3 hx Bd.returns (hb hby d7_10) hr) (by rw [e3]; exact ⟨rfl, N3, rfl⟩) (by decide : 0 ≤ _) (by decide : 0 ≤ _)
theorem ef_rmLU1 (m : MethodId) (o0 : Addr)  : entryFrame m #[(.ref o0)] 1 = mkF m 0 #[.val (.ref o0)] [] := by first |  (simp [entryFrame, mkF, argsToLocals, Value.category]; done) | rfl
def Q_rmLU1 (Z : State) (o0 : Addr) (w0 : Int32) (cs : Int32) (fm : Value) (h0 : Heap) (n0 : Nat) (v : Option Value) (h : Heap) (L : List Loc) : Prop := v = some (.int 1) ∧ Fr n0 L ∧ h = h0
theorem rmLU1 (l : Launch) (Z : State) (a0 : Array Value) (hw : ∀ d ∈ tables_1, d.before a0 Z = true) (ws : List Jvm.Cond) (o0 : Addr) (w0 : Int32) (cs : Int32) (fm : Value) (h0 : Heap) (n0 : Nat) (Z0 : n0 ≤ h0.size) (U : own_U1 Z h0 o0 w0) (hKs : own_K Z cs fm) (hO : Old Z n0 h0) :
    MetFree l own_m22 (head1 (Jvm.Cond.code own_m22 jdk_42_method_54_code 1 (some .int) :: ws) ({ frames := 1, cells := 0, slots := 0, locals := 13 } : Room)) (fun a U => a = #[(.ref o0)] ∧ Z.Warmed39 U.vm ∧ U.heap = h0) (fun _ _ _ _ _ => True) (fun _ U o U' => ∃ v L, o = .returned v ∧ Q_rmLU1 Z o0 w0 cs fm h0 n0 v U'.heap L ∧ FrameEnd U o U' L ({ frames := 1, cells := 0, slots := 0, locals := 13 } : Room).cells ({ frames := 1, cells := 0, slots := 0, locals := 13 } : Room).slots) := by
  refine MetFree.of_bodySF (plainFor_of_name pn_java_lang_String) hisR ?_
  intro p e s m args below meth c s₁ Bd hml0 hP hK
  obtain ⟨rfl, hZ, hh⟩ := hP
  have hx := Bd.exec
  have hby := Bd.bytes
  have hml : c.maxLocals = 1 := hml0
  have hown : s.vm.findClass "java/lang/String" = some m.cls := findClass_of_methodNamed Bd.named
  have hnm := (name_of_methodNamed Bd.named Bd.method).1
  have hlk := Bd.notSynchronized
  have X0 : Stand p l e ({ frames := 1, cells := 0, slots := 0, locals := 13 } : Room) s m #[(.ref o0)] below meth c s₁ [] 0 0 := Stand.of_body Bd
  have e0 : s₁.heap = h0 := by rw [← hh, Bd.state]; rfl
  have N0 := Fr.nil n0
  show own_G p.tables e below s (Q_rmLU1 Z o0 w0 cs fm h0 n0) ({ frames := 1, cells := 0, slots := 0, locals := 13 } : Room).cells ({ frames := 1, cells := 0, slots := 0, locals := 13 } : Room).slots _
  refine own_thr (a := s₁.setTop (mkF m 0 #[.val (.ref o0)] [])) (fun t kt => castTop (ef_rmLU1 m o0) kt) ?_
  obtain ⟨E0, ⟨C0, b, k, x0, V0, A0, qq0⟩ | ⟨C0, b, k, x0, x1, V0, A0, qq0⟩⟩ := id U
  · skip
    refine own_thr (a := s₁.setTop (mkF m 1 #[.val (.ref o0)] [(.ref o0)])) (fun t kt => ?_) ?_
    · refine XS.aloadN X0.here hx rfl (hb hby d7_0) rfl rfl ?_
      exact kt
    obtain ⟨T1, X1, e1, st1⟩ := getF X0 hx hZ hown (host := "") (Or.inl (hw _ (own_i 31 rfl))) Via.refl e0 V0 (g := (mkF m 1 #[.val (.ref o0)] [(.ref o0)])) rfl rfl (hb hby d7_1)
    refine own_thr (a := T1.setTop (mkF m 4 #[.val (.ref o0)] [(.ref b)])) (fun t kt => st1 t kt) ?_
    obtain ⟨cl2, Ar2, -, S2, M2, -, -⟩ := id A0
    refine own_thr (a := T1.setTop (mkF m 6 #[.val (.ref o0)] [(.ref o0), (.int 1)])) (fun t kt => ?_) ?_
    · refine X1.arraylength hx (by rw [e1]; exact Ar2.1) (State.isArrayOf_alike hZ.alike Ar2.2.1) (g := (mkF m 4 #[.val (.ref o0)] [(.ref b)])) rfl rfl (hb hby d7_4) _ ?_
      rw [len_of S2 M2]
      refine XS.aloadN X1.here hx rfl (hb hby d7_5) rfl rfl ?_
      exact kt
    obtain ⟨cq3, kq3, q3a, q3b, q3c⟩ := isOf hZ e1 E0
    obtain ⟨_, _, ⟨T3, L3, k3, n3⟩, -, X3, ⟨Lc3, hQ3, l3, y3, z3⟩, st3⟩ := X1.virtualBack hx (y := own_m12) (z := own_m12) hown (mvT hZ (hw _ (own_i 42 rfl))) (mvT hZ (hw _ (own_i 43 rfl))) (notFace_of_selects (args := #[]) (mvT hZ (hw _ (own_i 45 rfl)))) (mvT hZ (hw _ (own_i 45 rfl))) (mvT hZ (hw _ (own_i 44 rfl))) (by decide) (backOf (W := 1) (rmCO0 l Z a0 hw [] o0 cs fm h0 n0 Z0 E0 C0 hKs hO) hZ (hw _ (own_i 46 rfl)) (hw _ (own_i 13 rfl)) (by decide) (by decide)) q3a q3c (g := (mkF m 6 #[.val (.ref o0)] [(.ref o0), (.int 1)])) rfl (by rw [hml]; rfl) (Steps.refl _) (argsL := []) (rest := [(.int 1)]) (lenOf pd__28_29B rfl) rfl (own_q rfl) (hb hby d7_6) (fun _ _ => ⟨rfl, e1, (by decide : 0 + 0 ≤ _), (by decide : 0 + 0 ≤ _)⟩)
    dsimp only [Pt.U, Pt.locs, Pt.cells, Pt.slots] at X3 l3 y3 z3 st3 hQ3
    obtain ⟨rfl, N3q, e3⟩ := hQ3
    obtain ⟨lc3, X3, N3⟩ := own_pack X3 l3 y3 z3 N0 N3q (C := 0) (S' := 0) rfl rfl
    refine own_thr (a := T3.setTop (mkF m 9 #[.val (.ref o0)] [(.int 0), (.int 1)])) (fun t kt => st3.trans kt) ?_
    refine own_thr (a := T3.setTop (mkF m 10 #[.val (.ref o0)] [(.int 1)])) (fun t kt => ?_) ?_
    · refine XS.ishr X3.here hx rfl (hb hby d7_9) rfl ?_
      exact kt
    exact own_end X3 hlk (v := some (.int 1)) (fun h => by rw [Bd.returns] at h; cases h) (fun fs hr => retI X3 hx Bd.returns (hb hby d7_10) hr) (by rw [e3]; exact ⟨rfl, N3, rfl⟩) (by decide : 0 ≤ _) (by decide : 0 ≤ _)
  · skip
    refine own_thr (a := s₁.setTop (mkF m 1 #[.val (.ref o0)] [(.ref o0)])) (fun t kt => ?_) ?_
    · refine XS.aloadN X0.here hx rfl (hb hby d7_0) rfl rfl ?_
      exact kt
    obtain ⟨T4, X4, e4, st4⟩ := getF X0 hx hZ hown (host := "") (Or.inl (hw _ (own_i 31 rfl))) Via.refl e0 V0 (g := (mkF m 1 #[.val (.ref o0)] [(.ref o0)])) rfl rfl (hb hby d7_1)
    refine own_thr (a := T4.setTop (mkF m 4 #[.val (.ref o0)] [(.ref b)])) (fun t kt => st4 t kt) ?_
    obtain ⟨cl5, Ar5, -, S5, M5, -, -⟩ := id A0
    refine own_thr (a := T4.setTop (mkF m 6 #[.val (.ref o0)] [(.ref o0), (.int 2)])) (fun t kt => ?_) ?_
    · refine X4.arraylength hx (by rw [e4]; exact Ar5.1) (State.isArrayOf_alike hZ.alike Ar5.2.1) (g := (mkF m 4 #[.val (.ref o0)] [(.ref b)])) rfl rfl (hb hby d7_4) _ ?_
      rw [len_of S5 M5]
      refine XS.aloadN X4.here hx rfl (hb hby d7_5) rfl rfl ?_
      exact kt
    obtain ⟨cq6, kq6, q6a, q6b, q6c⟩ := isOf hZ e4 E0
    obtain ⟨_, _, ⟨T6, L6, k6, n6⟩, -, X6, ⟨Lc6, hQ6, l6, y6, z6⟩, st6⟩ := X4.virtualBack hx (y := own_m12) (z := own_m12) hown (mvT hZ (hw _ (own_i 42 rfl))) (mvT hZ (hw _ (own_i 43 rfl))) (notFace_of_selects (args := #[]) (mvT hZ (hw _ (own_i 45 rfl)))) (mvT hZ (hw _ (own_i 45 rfl))) (mvT hZ (hw _ (own_i 44 rfl))) (by decide) (backOf (W := 1) (rmCO1 l Z a0 hw [] o0 cs fm h0 n0 Z0 E0 C0 hKs hO) hZ (hw _ (own_i 46 rfl)) (hw _ (own_i 13 rfl)) (by decide) (by decide)) q6a q6c (g := (mkF m 6 #[.val (.ref o0)] [(.ref o0), (.int 2)])) rfl (by rw [hml]; rfl) (Steps.refl _) (argsL := []) (rest := [(.int 2)]) (lenOf pd__28_29B rfl) rfl (own_q rfl) (hb hby d7_6) (fun _ _ => ⟨rfl, e4, (by decide : 0 + 0 ≤ _), (by decide : 0 + 0 ≤ _)⟩)
    dsimp only [Pt.U, Pt.locs, Pt.cells, Pt.slots] at X6 l6 y6 z6 st6 hQ6
    obtain ⟨rfl, N6q, e6⟩ := hQ6
    obtain ⟨lc6, X6, N6⟩ := own_pack X6 l6 y6 z6 N0 N6q (C := 0) (S' := 0) rfl rfl
    refine own_thr (a := T6.setTop (mkF m 9 #[.val (.ref o0)] [(.int 1), (.int 2)])) (fun t kt => st6.trans kt) ?_
    refine own_thr (a := T6.setTop (mkF m 10 #[.val (.ref o0)] [(.int 1)])) (fun t kt => ?_) ?_
    · refine XS.ishr X6.here hx rfl (hb hby d7_9) rfl ?_
      exact kt
    exact own_end X6 hlk (v := some (.int 1)) (fun h => by rw [Bd.returns] at h; cases h) (fun fs hr => retI X6 hx Bd.returns (hb hby d7_10) hr) (by rw [e6]; exact ⟨rfl, N6, rfl⟩) (by decide : 0 ≤ _) (by decide : 0 ≤ _)
theorem ef_rmLU2 (m : MethodId) (o0 : Addr)  : entryFrame m #[(.ref o0)] 1 = mkF m 0 #[.val (.ref o0)] [] := by first |  (simp [entryFrame, mkF, argsToLocals, Value.category]; done) | rfl
def Q_rmLU2 (Z : State) (o0 : Addr) (w0 : Int32) (w1 : Int32) (cs : Int32) (fm : Value) (h0 : Heap) (n0 : Nat) (v : Option Value) (h : Heap) (L : List Loc) : Prop := v = some (.int 2) ∧ Fr n0 L ∧ h = h0
theorem rmLU2 (l : Launch) (Z : State) (a0 : Array Value) (hw : ∀ d ∈ tables_1, d.before a0 Z = true) (ws : List Jvm.Cond) (o0 : Addr) (w0 : Int32) (w1 : Int32) (cs : Int32) (fm : Value) (h0 : Heap) (n0 : Nat) (Z0 : n0 ≤ h0.size) (U : own_U2 Z h0 o0 w0 w1) (hKs : own_K Z cs fm) (hO : Old Z n0 h0) :
    MetFree l own_m22 (head1 (Jvm.Cond.code own_m22 jdk_42_method_54_code 1 (some .int) :: ws) ({ frames := 1, cells := 0, slots := 0, locals := 13 } : Room)) (fun a U => a = #[(.ref o0)] ∧ Z.Warmed39 U.vm ∧ U.heap = h0) (fun _ _ _ _ _ => True) (fun _ U o U' => ∃ v L, o = .returned v ∧ Q_rmLU2 Z o0 w0 w1 cs fm h0 n0 v U'.heap L ∧ FrameEnd U o U' L ({ frames := 1, cells := 0, slots := 0, locals := 13 } : Room).cells ({ frames := 1, cells := 0, slots := 0, locals := 13 } : Room).slots) := by
  refine MetFree.of_bodySF (plainFor_of_name pn_java_lang_String) hisR ?_
  intro p e s m args below meth c s₁ Bd hml0 hP hK
  obtain ⟨rfl, hZ, hh⟩ := hP
  have hx := Bd.exec
  have hby := Bd.bytes
  have hml : c.maxLocals = 1 := hml0
  have hown : s.vm.findClass "java/lang/String" = some m.cls := findClass_of_methodNamed Bd.named
  have hnm := (name_of_methodNamed Bd.named Bd.method).1
  have hlk := Bd.notSynchronized
  have X0 : Stand p l e ({ frames := 1, cells := 0, slots := 0, locals := 13 } : Room) s m #[(.ref o0)] below meth c s₁ [] 0 0 := Stand.of_body Bd
  have e0 : s₁.heap = h0 := by rw [← hh, Bd.state]; rfl
  have N0 := Fr.nil n0
  show own_G p.tables e below s (Q_rmLU2 Z o0 w0 w1 cs fm h0 n0) ({ frames := 1, cells := 0, slots := 0, locals := 13 } : Room).cells ({ frames := 1, cells := 0, slots := 0, locals := 13 } : Room).slots _
  refine own_thr (a := s₁.setTop (mkF m 0 #[.val (.ref o0)] [])) (fun t kt => castTop (ef_rmLU2 m o0) kt) ?_
  obtain ⟨E0, ⟨C0, b, k, x0, x1, V0, A0, qq0, qq1⟩ | ⟨C0, b, k, x0, x1, x2, x3, V0, A0, qq0, qq1⟩⟩ := id U
  · skip
    refine own_thr (a := s₁.setTop (mkF m 1 #[.val (.ref o0)] [(.ref o0)])) (fun t kt => ?_) ?_
    · refine XS.aloadN X0.here hx rfl (hb hby d7_0) rfl rfl ?_
      exact kt
    obtain ⟨T1, X1, e1, st1⟩ := getF X0 hx hZ hown (host := "") (Or.inl (hw _ (own_i 31 rfl))) Via.refl e0 V0 (g := (mkF m 1 #[.val (.ref o0)] [(.ref o0)])) rfl rfl (hb hby d7_1)
    refine own_thr (a := T1.setTop (mkF m 4 #[.val (.ref o0)] [(.ref b)])) (fun t kt => st1 t kt) ?_
    obtain ⟨cl2, Ar2, -, S2, M2, -, -⟩ := id A0
    refine own_thr (a := T1.setTop (mkF m 6 #[.val (.ref o0)] [(.ref o0), (.int 2)])) (fun t kt => ?_) ?_
    · refine X1.arraylength hx (by rw [e1]; exact Ar2.1) (State.isArrayOf_alike hZ.alike Ar2.2.1) (g := (mkF m 4 #[.val (.ref o0)] [(.ref b)])) rfl rfl (hb hby d7_4) _ ?_
      rw [len_of S2 M2]
      refine XS.aloadN X1.here hx rfl (hb hby d7_5) rfl rfl ?_
      exact kt
    obtain ⟨cq3, kq3, q3a, q3b, q3c⟩ := isOf hZ e1 E0
    obtain ⟨_, _, ⟨T3, L3, k3, n3⟩, -, X3, ⟨Lc3, hQ3, l3, y3, z3⟩, st3⟩ := X1.virtualBack hx (y := own_m12) (z := own_m12) hown (mvT hZ (hw _ (own_i 42 rfl))) (mvT hZ (hw _ (own_i 43 rfl))) (notFace_of_selects (args := #[]) (mvT hZ (hw _ (own_i 45 rfl)))) (mvT hZ (hw _ (own_i 45 rfl))) (mvT hZ (hw _ (own_i 44 rfl))) (by decide) (backOf (W := 1) (rmCO0 l Z a0 hw [] o0 cs fm h0 n0 Z0 E0 C0 hKs hO) hZ (hw _ (own_i 46 rfl)) (hw _ (own_i 13 rfl)) (by decide) (by decide)) q3a q3c (g := (mkF m 6 #[.val (.ref o0)] [(.ref o0), (.int 2)])) rfl (by rw [hml]; rfl) (Steps.refl _) (argsL := []) (rest := [(.int 2)]) (lenOf pd__28_29B rfl) rfl (own_q rfl) (hb hby d7_6) (fun _ _ => ⟨rfl, e1, (by decide : 0 + 0 ≤ _), (by decide : 0 + 0 ≤ _)⟩)
    dsimp only [Pt.U, Pt.locs, Pt.cells, Pt.slots] at X3 l3 y3 z3 st3 hQ3
    obtain ⟨rfl, N3q, e3⟩ := hQ3
    obtain ⟨lc3, X3, N3⟩ := own_pack X3 l3 y3 z3 N0 N3q (C := 0) (S' := 0) rfl rfl
    refine own_thr (a := T3.setTop (mkF m 9 #[.val (.ref o0)] [(.int 0), (.int 2)])) (fun t kt => st3.trans kt) ?_
    refine own_thr (a := T3.setTop (mkF m 10 #[.val (.ref o0)] [(.int 2)])) (fun t kt => ?_) ?_
    · refine XS.ishr X3.here hx rfl (hb hby d7_9) rfl ?_
      exact kt
    exact own_end X3 hlk (v := some (.int 2)) (fun h => by rw [Bd.returns] at h; cases h) (fun fs hr => retI X3 hx Bd.returns (hb hby d7_10) hr) (by rw [e3]; exact ⟨rfl, N3, rfl⟩) (by decide : 0 ≤ _) (by decide : 0 ≤ _)
  · skip
    refine own_thr (a := s₁.setTop (mkF m 1 #[.val (.ref o0)] [(.ref o0)])) (fun t kt => ?_) ?_
    · refine XS.aloadN X0.here hx rfl (hb hby d7_0) rfl rfl ?_
      exact kt
    obtain ⟨T4, X4, e4, st4⟩ := getF X0 hx hZ hown (host := "") (Or.inl (hw _ (own_i 31 rfl))) Via.refl e0 V0 (g := (mkF m 1 #[.val (.ref o0)] [(.ref o0)])) rfl rfl (hb hby d7_1)
    refine own_thr (a := T4.setTop (mkF m 4 #[.val (.ref o0)] [(.ref b)])) (fun t kt => st4 t kt) ?_
    obtain ⟨cl5, Ar5, -, S5, M5, -, -⟩ := id A0
    refine own_thr (a := T4.setTop (mkF m 6 #[.val (.ref o0)] [(.ref o0), (.int 4)])) (fun t kt => ?_) ?_
    · refine X4.arraylength hx (by rw [e4]; exact Ar5.1) (State.isArrayOf_alike hZ.alike Ar5.2.1) (g := (mkF m 4 #[.val (.ref o0)] [(.ref b)])) rfl rfl (hb hby d7_4) _ ?_
      rw [len_of S5 M5]
      refine XS.aloadN X4.here hx rfl (hb hby d7_5) rfl rfl ?_
      exact kt
    obtain ⟨cq6, kq6, q6a, q6b, q6c⟩ := isOf hZ e4 E0
    obtain ⟨_, _, ⟨T6, L6, k6, n6⟩, -, X6, ⟨Lc6, hQ6, l6, y6, z6⟩, st6⟩ := X4.virtualBack hx (y := own_m12) (z := own_m12) hown (mvT hZ (hw _ (own_i 42 rfl))) (mvT hZ (hw _ (own_i 43 rfl))) (notFace_of_selects (args := #[]) (mvT hZ (hw _ (own_i 45 rfl)))) (mvT hZ (hw _ (own_i 45 rfl))) (mvT hZ (hw _ (own_i 44 rfl))) (by decide) (backOf (W := 1) (rmCO1 l Z a0 hw [] o0 cs fm h0 n0 Z0 E0 C0 hKs hO) hZ (hw _ (own_i 46 rfl)) (hw _ (own_i 13 rfl)) (by decide) (by decide)) q6a q6c (g := (mkF m 6 #[.val (.ref o0)] [(.ref o0), (.int 4)])) rfl (by rw [hml]; rfl) (Steps.refl _) (argsL := []) (rest := [(.int 4)]) (lenOf pd__28_29B rfl) rfl (own_q rfl) (hb hby d7_6) (fun _ _ => ⟨rfl, e4, (by decide : 0 + 0 ≤ _), (by decide : 0 + 0 ≤ _)⟩)
    dsimp only [Pt.U, Pt.locs, Pt.cells, Pt.slots] at X6 l6 y6 z6 st6 hQ6
    obtain ⟨rfl, N6q, e6⟩ := hQ6
    obtain ⟨lc6, X6, N6⟩ := own_pack X6 l6 y6 z6 N0 N6q (C := 0) (S' := 0) rfl rfl
    refine own_thr (a := T6.setTop (mkF m 9 #[.val (.ref o0)] [(.int 1), (.int 4)])) (fun t kt => st6.trans kt) ?_
    refine own_thr (a := T6.setTop (mkF m 10 #[.val (.ref o0)] [(.int 2)])) (fun t kt => ?_) ?_
    · refine XS.ishr X6.here hx rfl (hb hby d7_9) rfl ?_
      exact kt
    exact own_end X6 hlk (v := some (.int 2)) (fun h => by rw [Bd.returns] at h; cases h) (fun fs hr => retI X6 hx Bd.returns (hb hby d7_10) hr) (by rw [e6]; exact ⟨rfl, N6, rfl⟩) (by decide : 0 ≤ _) (by decide : 0 ≤ _)
theorem d21_0 : decode jdk_42_method_57_code 0 = .ok (.aload_n 0, 1) := by decide +kernel
theorem pd__28_29Z : parseMethodDescriptor "()Z" = some ⟨[], some .boolean⟩ := by decide +kernel
theorem d21_1 : decode jdk_42_method_57_code 1 = .ok (.invokevirtual 492, 3) := by decide +kernel
theorem d21_4 : decode jdk_42_method_57_code 4 = .ok (.ifCond .eq 23, 3) := by decide +kernel
theorem d21_7 : decode jdk_42_method_57_code 7 = .ok (.iload_n 1, 1) := by decide +kernel
theorem d21_8 : decode jdk_42_method_57_code 8 = .ok (.aload_n 0, 1) := by decide +kernel
theorem d21_9 : decode jdk_42_method_57_code 9 = .ok (.getfield 9, 3) := by decide +kernel
theorem d21_12 : decode jdk_42_method_57_code 12 = .ok (.arraylength, 1) := by decide +kernel
theorem pd__28II_29V : parseMethodDescriptor "(II)V" = some ⟨[.int, .int], none⟩ := by decide +kernel
theorem d21_13 : decode jdk_42_method_57_code 13 = .ok (.invokestatic 499, 3) := by decide +kernel
theorem d21_16 : decode jdk_42_method_57_code 16 = .ok (.aload_n 0, 1) := by decide +kernel
theorem d21_17 : decode jdk_42_method_57_code 17 = .ok (.getfield 9, 3) := by decide +kernel
theorem d21_20 : decode jdk_42_method_57_code 20 = .ok (.iload_n 1, 1) := by decide +kernel
theorem d21_21 : decode jdk_42_method_57_code 21 = .ok (.baload, 1) := by decide +kernel
theorem d21_22 : decode jdk_42_method_57_code 22 = .ok (.sipush 255, 3) := by decide +kernel
theorem d21_25 : decode jdk_42_method_57_code 25 = .ok (.iand, 1) := by decide +kernel
theorem d21_26 : decode jdk_42_method_57_code 26 = .ok (.ireturn, 1) := by decide +kernel
theorem d21_27 : decode jdk_42_method_57_code 27 = .ok (.aload_n 0, 1) := by decide +kernel
theorem d21_28 : decode jdk_42_method_57_code 28 = .ok (.getfield 9, 3) := by decide +kernel
theorem d21_31 : decode jdk_42_method_57_code 31 = .ok (.arraylength, 1) := by decide +kernel
theorem d21_32 : decode jdk_42_method_57_code 32 = .ok (.iconst 1, 1) := by decide +kernel
theorem d21_33 : decode jdk_42_method_57_code 33 = .ok (.ishr, 1) := by decide +kernel
theorem d21_34 : decode jdk_42_method_57_code 34 = .ok (.istore_n 2, 1) := by decide +kernel
theorem d21_35 : decode jdk_42_method_57_code 35 = .ok (.iload_n 1, 1) := by decide +kernel
theorem d21_36 : decode jdk_42_method_57_code 36 = .ok (.iload_n 2, 1) := by decide +kernel
theorem d21_37 : decode jdk_42_method_57_code 37 = .ok (.invokestatic 499, 3) := by decide +kernel
theorem d21_40 : decode jdk_42_method_57_code 40 = .ok (.aload_n 0, 1) := by decide +kernel
theorem d21_41 : decode jdk_42_method_57_code 41 = .ok (.getfield 9, 3) := by decide +kernel
theorem d21_44 : decode jdk_42_method_57_code 44 = .ok (.iload_n 1, 1) := by decide +kernel
theorem d21_45 : decode jdk_42_method_57_code 45 = .ok (.iload_n 2, 1) := by decide +kernel
theorem pd__28_5bBII_29I : parseMethodDescriptor "([BII)I" = some ⟨[(.array .byte), .int, .int], some .int⟩ := by decide +kernel
theorem d21_46 : decode jdk_42_method_57_code 46 = .ok (.invokestatic 502, 3) := by decide +kernel
theorem d21_49 : decode jdk_42_method_57_code 49 = .ok (.ireturn, 1) := by decide +kernel
theorem ef_rmCU10 (m : MethodId) (o0 : Addr)  : entryFrame m #[(.ref o0), (.int 0)] 3 = mkF m 0 #[.val (.ref o0), .val (.int 0), .unset] [] := by first |  (simp [entryFrame, mkF, argsToLocals, Value.category]; done) | rfl
def Q_rmCU10 (Z : State) (o0 : Addr) (w0 : Int32) (cs : Int32) (fm : Value) (h0 : Heap) (n0 : Nat) (v : Option Value) (h : Heap) (L : List Loc) : Prop := v = some (.int w0) ∧ Fr n0 L ∧ h = h0
theorem rmCU10 (l : Launch) (Z : State) (a0 : Array Value) (hw : ∀ d ∈ tables_1, d.before a0 Z = true) (ws : List Jvm.Cond) (o0 : Addr) (w0 : Int32) (cs : Int32) (fm : Value) (h0 : Heap) (n0 : Nat) (Z0 : n0 ≤ h0.size) (U : own_U1 Z h0 o0 w0) (hKs : own_K Z cs fm) (hO : Old Z n0 h0) :
    MetFree l own_m23 (head1 (Jvm.Cond.code own_m23 jdk_42_method_57_code 3 (some .int) :: ws) ({ frames := 3, cells := 0, slots := 0, locals := 44 } : Room)) (fun a U => a = #[(.ref o0), (.int 0)] ∧ Z.Warmed39 U.vm ∧ U.heap = h0) (fun _ _ _ _ _ => True) (fun _ U o U' => ∃ v L, o = .returned v ∧ Q_rmCU10 Z o0 w0 cs fm h0 n0 v U'.heap L ∧ FrameEnd U o U' L ({ frames := 3, cells := 0, slots := 0, locals := 44 } : Room).cells ({ frames := 3, cells := 0, slots := 0, locals := 44 } : Room).slots) := by
  refine MetFree.of_bodySF (plainFor_of_name pn_java_lang_String) hisR ?_
  intro p e s m args below meth c s₁ Bd hml0 hP hK
  obtain ⟨rfl, hZ, hh⟩ := hP
  have hx := Bd.exec
  have hby := Bd.bytes
  have hml : c.maxLocals = 3 := hml0
  have hown : s.vm.findClass "java/lang/String" = some m.cls := findClass_of_methodNamed Bd.named
  have hnm := (name_of_methodNamed Bd.named Bd.method).1
  have hlk := Bd.notSynchronized
  have X0 : Stand p l e ({ frames := 3, cells := 0, slots := 0, locals := 44 } : Room) s m #[(.ref o0), (.int 0)] below meth c s₁ [] 0 0 := Stand.of_body Bd
  have e0 : s₁.heap = h0 := by rw [← hh, Bd.state]; rfl
  have N0 := Fr.nil n0
  show own_G p.tables e below s (Q_rmCU10 Z o0 w0 cs fm h0 n0) ({ frames := 3, cells := 0, slots := 0, locals := 44 } : Room).cells ({ frames := 3, cells := 0, slots := 0, locals := 44 } : Room).slots _
  refine own_thr (a := s₁.setTop (mkF m 0 #[.val (.ref o0), .val (.int 0), .unset] [])) (fun t kt => castTop (ef_rmCU10 m o0) kt) ?_
  obtain ⟨E0, ⟨C0, b, k, x0, V0, A0, qq0⟩ | ⟨C0, b, k, x0, x1, V0, A0, qq0⟩⟩ := id U
  · skip
    refine own_thr (a := s₁.setTop (mkF m 1 #[.val (.ref o0), .val (.int 0), .unset] [(.ref o0)])) (fun t kt => ?_) ?_
    · refine XS.aloadN X0.here hx rfl (hb hby d21_0) rfl rfl ?_
      exact kt
    obtain ⟨cq1, kq1, q1a, q1b, q1c⟩ := isOf hZ e0 E0
    obtain ⟨_, _, ⟨T1, L1, k1, n1⟩, -, X1, ⟨Lc1, hQ1, l1, y1, z1⟩, st1⟩ := X0.virtualBack hx (y := own_m13) (z := own_m13) hown (mvT hZ (hw _ (own_i 95 rfl))) (mvT hZ (hw _ (own_i 96 rfl))) (notFace_of_selects (args := #[]) (mvT hZ (hw _ (own_i 98 rfl)))) (mvT hZ (hw _ (own_i 98 rfl))) (mvT hZ (hw _ (own_i 97 rfl))) (by decide) (backOf (W := 0) (rmIL0 l Z a0 hw [] o0 cs fm h0 n0 Z0 E0 C0 hKs hO) hZ (hw _ (own_i 99 rfl)) (hw _ (own_i 13 rfl)) (by decide) (by decide)) q1a q1c (g := (mkF m 1 #[.val (.ref o0), .val (.int 0), .unset] [(.ref o0)])) rfl (by rw [hml]; rfl) (Steps.refl _) (argsL := []) (rest := []) (lenOf pd__28_29Z rfl) rfl (own_q rfl) (hb hby d21_1) (fun _ _ => ⟨rfl, e0, (by decide : 0 + 0 ≤ _), (by decide : 0 + 0 ≤ _)⟩)
    dsimp only [Pt.U, Pt.locs, Pt.cells, Pt.slots] at X1 l1 y1 z1 st1 hQ1
    obtain ⟨rfl, N1q, e1⟩ := hQ1
    obtain ⟨lc1, X1, N1⟩ := own_pack X1 l1 y1 z1 N0 N1q (C := 0) (S' := 0) rfl rfl
    refine own_thr (a := T1.setTop (mkF m 4 #[.val (.ref o0), .val (.int 0), .unset] [(.int 1)])) (fun t kt => st1.trans kt) ?_
    refine own_thr (a := T1.setTop (mkF m 9 #[.val (.ref o0), .val (.int 0), .unset] [(.ref o0), (.int 0)])) (fun t kt => ?_) ?_
    · refine XS.ifNo X1.here hx rfl (hb hby d21_4) rfl ((if0 _ _).trans (feq (by decide)).1) ?_
      refine XS.iloadN X1.here hx rfl (hb hby d21_7) rfl ?_
      refine XS.aloadN X1.here hx rfl (hb hby d21_8) rfl rfl ?_
      exact kt
    obtain ⟨T2, X2, e2, st2⟩ := getF X1 hx hZ hown (host := "") (Or.inl (hw _ (own_i 31 rfl))) Via.refl e1 V0 (g := (mkF m 9 #[.val (.ref o0), .val (.int 0), .unset] [(.ref o0), (.int 0)])) rfl rfl (hb hby d21_9)
    refine own_thr (a := T2.setTop (mkF m 12 #[.val (.ref o0), .val (.int 0), .unset] [(.ref b), (.int 0)])) (fun t kt => st2 t kt) ?_
    obtain ⟨cl3, Ar3, -, S3, M3, -, -⟩ := id A0
    refine own_thr (a := T2.setTop (mkF m 13 #[.val (.ref o0), .val (.int 0), .unset] [(.int 1), (.int 0)])) (fun t kt => ?_) ?_
    · refine X2.arraylength hx (by rw [e2]; exact Ar3.1) (State.isArrayOf_alike hZ.alike Ar3.2.1) (g := (mkF m 12 #[.val (.ref o0), .val (.int 0), .unset] [(.ref b), (.int 0)])) rfl rfl (hb hby d21_12) _ ?_
      rw [len_of S3 M3]
      exact kt
    obtain ⟨_, _, ⟨T4, L4, k4, n4⟩, -, X4, ⟨Lc4, hQ4, l4, y4, z4⟩, st4⟩ := Jvm.LawKit.callS X2 hx (y := own_m15) hown (mvT hZ (hw _ (own_i 100 rfl))) (mvT hZ (hw _ (own_i 101 rfl))) (mvT hZ (hw _ (own_i 13 rfl))) (mvT hZ (hw _ (own_i 102 rfl))) (by decide) (backOf (W := 0) (rmCI l Z a0 hw [] (0 : Int32) (1 : Int32) cs fm h0 n0 Z0 hKs hO (by decide) (by decide)) hZ (hw _ (own_i 102 rfl)) (hw _ (own_i 13 rfl)) (by decide) (by decide)) (g := (mkF m 13 #[.val (.ref o0), .val (.int 0), .unset] [(.int 1), (.int 0)])) rfl (by rw [hml]; rfl) (argsL := [(.int 0), (.int 1)]) (rest := []) (lenOf pd__28II_29V rfl) rfl (own_q rfl) (hb hby d21_13) (fun _ _ => ⟨rfl, e2, (by decide : 0 + 0 ≤ _), (by decide : 0 + 0 ≤ _)⟩)
    dsimp only [Pt.U, Pt.locs, Pt.cells, Pt.slots] at X4 l4 y4 z4 st4 hQ4
    obtain ⟨rfl, N4q, e4⟩ := hQ4
    obtain ⟨lc4, X4, N4⟩ := own_pack X4 l4 y4 z4 N1 N4q (C := 0) (S' := 0) rfl rfl
    refine own_thr (a := T4.setTop (mkF m 16 #[.val (.ref o0), .val (.int 0), .unset] [])) (fun t kt => st4 t kt) ?_
    refine own_thr (a := T4.setTop (mkF m 17 #[.val (.ref o0), .val (.int 0), .unset] [(.ref o0)])) (fun t kt => ?_) ?_
    · refine XS.aloadN X4.here hx rfl (hb hby d21_16) rfl rfl ?_
      exact kt
    obtain ⟨T5, X5, e5, st5⟩ := getF X4 hx hZ hown (host := "") (Or.inl (hw _ (own_i 31 rfl))) Via.refl e4 V0 (g := (mkF m 17 #[.val (.ref o0), .val (.int 0), .unset] [(.ref o0)])) rfl rfl (hb hby d21_17)
    refine own_thr (a := T5.setTop (mkF m 20 #[.val (.ref o0), .val (.int 0), .unset] [(.ref b)])) (fun t kt => st5 t kt) ?_
    refine own_thr (a := T5.setTop (mkF m 21 #[.val (.ref o0), .val (.int 0), .unset] [(.int 0), (.ref b)])) (fun t kt => ?_) ?_
    · refine XS.iloadN X5.here hx rfl (hb hby d21_20) rfl ?_
      exact kt
    obtain ⟨cl6, Ar6, -, S6, M6, H6, -⟩ := id A0
    have hin6 : ¬ ((0 : Int32) < 0 ∨ cl6.slots.size ≤ ((0 : Int32)).toNatClampNeg) := inb_of S6 ⟨by decide, by decide⟩
    have hat6 : cl6.slots[((0 : Int32)).toNatClampNeg]? = some (.int x0) := Has.at H6 hin6 rfl
    refine own_thr (a := T5.setTop (mkF m 26 #[.val (.ref o0), .val (.int 0), .unset] [(.int (x0 &&& (255 : Int32)))])) (fun t kt => ?_) ?_
    · refine X5.baloadBytes hx (j := (0 : Int32)) (v := (.int x0)) (by rw [e5]; exact Ar6.1) (State.isArrayOf_alike hZ.alike Ar6.2.1) Ar6.2.2 hin6 hat6 (g := (mkF m 21 #[.val (.ref o0), .val (.int 0), .unset] [(.int 0), (.ref b)])) rfl rfl (hb hby d21_21) _ ?_
      refine XS.sipush X5.here hx rfl (hb hby d21_22) ?_
      refine XS.iand X5.here hx rfl (hb hby d21_25) rfl ?_
      exact kt
    exact own_end X5 hlk (v := some (.int (x0 &&& (255 : Int32)))) (fun h => by rw [Bd.returns] at h; cases h) (fun fs hr => retI X5 hx Bd.returns (hb hby d21_26) hr) (by rw [e5]; exact ⟨(congrArg (fun z => some (Value.int z)) qq0.symm), N4, rfl⟩) (by decide : 0 ≤ _) (by decide : 0 ≤ _)
  · skip
    refine own_thr (a := s₁.setTop (mkF m 1 #[.val (.ref o0), .val (.int 0), .unset] [(.ref o0)])) (fun t kt => ?_) ?_
    · refine XS.aloadN X0.here hx rfl (hb hby d21_0) rfl rfl ?_
      exact kt
    obtain ⟨cq7, kq7, q7a, q7b, q7c⟩ := isOf hZ e0 E0
    obtain ⟨_, _, ⟨T7, L7, k7, n7⟩, -, X7, ⟨Lc7, hQ7, l7, y7, z7⟩, st7⟩ := X0.virtualBack hx (y := own_m13) (z := own_m13) hown (mvT hZ (hw _ (own_i 95 rfl))) (mvT hZ (hw _ (own_i 96 rfl))) (notFace_of_selects (args := #[]) (mvT hZ (hw _ (own_i 98 rfl)))) (mvT hZ (hw _ (own_i 98 rfl))) (mvT hZ (hw _ (own_i 97 rfl))) (by decide) (backOf (W := 0) (rmIL1 l Z a0 hw [] o0 cs fm h0 n0 Z0 E0 C0 hKs hO) hZ (hw _ (own_i 99 rfl)) (hw _ (own_i 13 rfl)) (by decide) (by decide)) q7a q7c (g := (mkF m 1 #[.val (.ref o0), .val (.int 0), .unset] [(.ref o0)])) rfl (by rw [hml]; rfl) (Steps.refl _) (argsL := []) (rest := []) (lenOf pd__28_29Z rfl) rfl (own_q rfl) (hb hby d21_1) (fun _ _ => ⟨rfl, e0, (by decide : 0 + 0 ≤ _), (by decide : 0 + 0 ≤ _)⟩)
    dsimp only [Pt.U, Pt.locs, Pt.cells, Pt.slots] at X7 l7 y7 z7 st7 hQ7
    obtain ⟨rfl, N7q, e7⟩ := hQ7
    obtain ⟨lc7, X7, N7⟩ := own_pack X7 l7 y7 z7 N0 N7q (C := 0) (S' := 0) rfl rfl
    refine own_thr (a := T7.setTop (mkF m 4 #[.val (.ref o0), .val (.int 0), .unset] [(.int 0)])) (fun t kt => st7.trans kt) ?_
    refine own_thr (a := T7.setTop (mkF m 28 #[.val (.ref o0), .val (.int 0), .unset] [(.ref o0)])) (fun t kt => ?_) ?_
    · refine XS.ifYes X7.here hx rfl (pc0 := 4) (pc' := 27) rfl (hb hby d21_4) rfl ((if0 _ _).trans (teq rfl).1) (by decide) (by decide) ?_
      refine XS.aloadN X7.here hx rfl (hb hby d21_27) rfl rfl ?_
      exact kt
    obtain ⟨T8, X8, e8, st8⟩ := getF X7 hx hZ hown (host := "") (Or.inl (hw _ (own_i 31 rfl))) Via.refl e7 V0 (g := (mkF m 28 #[.val (.ref o0), .val (.int 0), .unset] [(.ref o0)])) rfl rfl (hb hby d21_28)
    refine own_thr (a := T8.setTop (mkF m 31 #[.val (.ref o0), .val (.int 0), .unset] [(.ref b)])) (fun t kt => st8 t kt) ?_
    obtain ⟨cl9, Ar9, -, S9, M9, -, -⟩ := id A0
    refine own_thr (a := T8.setTop (mkF m 37 #[.val (.ref o0), .val (.int 0), .val (.int 1)] [(.int 1), (.int 0)])) (fun t kt => ?_) ?_
    · refine X8.arraylength hx (by rw [e8]; exact Ar9.1) (State.isArrayOf_alike hZ.alike Ar9.2.1) (g := (mkF m 31 #[.val (.ref o0), .val (.int 0), .unset] [(.ref b)])) rfl rfl (hb hby d21_31) _ ?_
      rw [len_of S9 M9]
      refine XS.iconst X8.here hx rfl (hb hby d21_32) ?_
      refine XS.ishr X8.here hx rfl (hb hby d21_33) rfl ?_
      refine XS.istoreN X8.here hx rfl (hb hby d21_34) rfl (l' := #[.val (.ref o0), .val (.int 0), .val (.int 1)]) rfl ?_
      refine XS.iloadN X8.here hx rfl (hb hby d21_35) rfl ?_
      refine XS.iloadN X8.here hx rfl (hb hby d21_36) rfl ?_
      exact kt
    obtain ⟨_, _, ⟨T10, L10, k10, n10⟩, -, X10, ⟨Lc10, hQ10, l10, y10, z10⟩, st10⟩ := Jvm.LawKit.callS X8 hx (y := own_m15) hown (mvT hZ (hw _ (own_i 100 rfl))) (mvT hZ (hw _ (own_i 101 rfl))) (mvT hZ (hw _ (own_i 13 rfl))) (mvT hZ (hw _ (own_i 102 rfl))) (by decide) (backOf (W := 0) (rmCI l Z a0 hw [] (0 : Int32) (1 : Int32) cs fm h0 n0 Z0 hKs hO (by decide) (by decide)) hZ (hw _ (own_i 102 rfl)) (hw _ (own_i 13 rfl)) (by decide) (by decide)) (g := (mkF m 37 #[.val (.ref o0), .val (.int 0), .val (.int 1)] [(.int 1), (.int 0)])) rfl (by rw [hml]; rfl) (argsL := [(.int 0), (.int 1)]) (rest := []) (lenOf pd__28II_29V rfl) rfl (own_q rfl) (hb hby d21_37) (fun _ _ => ⟨rfl, e8, (by decide : 0 + 0 ≤ _), (by decide : 0 + 0 ≤ _)⟩)
    dsimp only [Pt.U, Pt.locs, Pt.cells, Pt.slots] at X10 l10 y10 z10 st10 hQ10
    obtain ⟨rfl, N10q, e10⟩ := hQ10
    obtain ⟨lc10, X10, N10⟩ := own_pack X10 l10 y10 z10 N7 N10q (C := 0) (S' := 0) rfl rfl
    refine own_thr (a := T10.setTop (mkF m 40 #[.val (.ref o0), .val (.int 0), .val (.int 1)] [])) (fun t kt => st10 t kt) ?_
    refine own_thr (a := T10.setTop (mkF m 41 #[.val (.ref o0), .val (.int 0), .val (.int 1)] [(.ref o0)])) (fun t kt => ?_) ?_
    · refine XS.aloadN X10.here hx rfl (hb hby d21_40) rfl rfl ?_
      exact kt
    obtain ⟨T11, X11, e11, st11⟩ := getF X10 hx hZ hown (host := "") (Or.inl (hw _ (own_i 31 rfl))) Via.refl e10 V0 (g := (mkF m 41 #[.val (.ref o0), .val (.int 0), .val (.int 1)] [(.ref o0)])) rfl rfl (hb hby d21_41)
    refine own_thr (a := T11.setTop (mkF m 44 #[.val (.ref o0), .val (.int 0), .val (.int 1)] [(.ref b)])) (fun t kt => st11 t kt) ?_
    refine own_thr (a := T11.setTop (mkF m 46 #[.val (.ref o0), .val (.int 0), .val (.int 1)] [(.int 1), (.int 0), (.ref b)])) (fun t kt => ?_) ?_
    · refine XS.iloadN X11.here hx rfl (hb hby d21_44) rfl ?_
      refine XS.iloadN X11.here hx rfl (hb hby d21_45) rfl ?_
      exact kt
    obtain ⟨_, _, ⟨T12, L12, k12, n12⟩, -, X12, ⟨Lc12, hQ12, l12, y12, z12⟩, st12⟩ := Jvm.LawKit.callS X11 hx (y := own_m21) hown (mvT hZ (hw _ (own_i 108 rfl))) (mvT hZ (hw _ (own_i 109 rfl))) (mvT hZ (hw _ (own_i 63 rfl))) (mvT hZ (hw _ (own_i 110 rfl))) (by decide) (backOf (W := 0) (rmP310 l Z a0 hw [] b x0 x1 k cs fm h0 n0 Z0 A0 hKs hO) hZ (hw _ (own_i 110 rfl)) (hw _ (own_i 63 rfl)) (by decide) (by decide)) (g := (mkF m 46 #[.val (.ref o0), .val (.int 0), .val (.int 1)] [(.int 1), (.int 0), (.ref b)])) rfl (by rw [hml]; rfl) (argsL := [(.ref b), (.int 0), (.int 1)]) (rest := []) (lenOf pd__28_5bBII_29I rfl) rfl (own_q rfl) (hb hby d21_46) (fun _ _ => ⟨rfl, e11, (by decide : 0 + 0 ≤ _), (by decide : 0 + 0 ≤ _)⟩)
    dsimp only [Pt.U, Pt.locs, Pt.cells, Pt.slots] at X12 l12 y12 z12 st12 hQ12
    obtain ⟨rfl, N12q, e12⟩ := hQ12
    obtain ⟨lc12, X12, N12⟩ := own_pack X12 l12 y12 z12 N10 N12q (C := 0) (S' := 0) rfl rfl
    refine own_thr (a := T12.setTop (mkF m 49 #[.val (.ref o0), .val (.int 0), .val (.int 1)] [(.int (own_gc x0 x1))])) (fun t kt => st12 t kt) ?_
    exact own_end X12 hlk (v := some (.int (own_gc x0 x1))) (fun h => by rw [Bd.returns] at h; cases h) (fun fs hr => retI X12 hx Bd.returns (hb hby d21_49) hr) (by rw [e12]; exact ⟨(congrArg (fun z => some (Value.int z)) qq0.symm), N12, rfl⟩) (by decide : 0 ≤ _) (by decide : 0 ≤ _)
theorem ef_rmCU20 (m : MethodId) (o0 : Addr)  : entryFrame m #[(.ref o0), (.int 0)] 3 = mkF m 0 #[.val (.ref o0), .val (.int 0), .unset] [] := by first |  (simp [entryFrame, mkF, argsToLocals, Value.category]; done) | rfl
def Q_rmCU20 (Z : State) (o0 : Addr) (w0 : Int32) (w1 : Int32) (cs : Int32) (fm : Value) (h0 : Heap) (n0 : Nat) (v : Option Value) (h : Heap) (L : List Loc) : Prop := v = some (.int (own_cp w0 w1)) ∧ Fr n0 L ∧ h = h0
theorem rmCU20 (l : Launch) (Z : State) (a0 : Array Value) (hw : ∀ d ∈ tables_1, d.before a0 Z = true) (ws : List Jvm.Cond) (o0 : Addr) (w0 : Int32) (w1 : Int32) (cs : Int32) (fm : Value) (h0 : Heap) (n0 : Nat) (Z0 : n0 ≤ h0.size) (U : own_U2 Z h0 o0 w0 w1) (hKs : own_K Z cs fm) (hO : Old Z n0 h0) :
    MetFree l own_m23 (head1 (Jvm.Cond.code own_m23 jdk_42_method_57_code 3 (some .int) :: ws) ({ frames := 3, cells := 0, slots := 0, locals := 44 } : Room)) (fun a U => a = #[(.ref o0), (.int 0)] ∧ Z.Warmed39 U.vm ∧ U.heap = h0) (fun _ _ _ _ _ => True) (fun _ U o U' => ∃ v L, o = .returned v ∧ Q_rmCU20 Z o0 w0 w1 cs fm h0 n0 v U'.heap L ∧ FrameEnd U o U' L ({ frames := 3, cells := 0, slots := 0, locals := 44 } : Room).cells ({ frames := 3, cells := 0, slots := 0, locals := 44 } : Room).slots) := by
  refine MetFree.of_bodySF (plainFor_of_name pn_java_lang_String) hisR ?_
  intro p e s m args below meth c s₁ Bd hml0 hP hK
  obtain ⟨rfl, hZ, hh⟩ := hP
  have hx := Bd.exec
  have hby := Bd.bytes
  have hml : c.maxLocals = 3 := hml0
  have hown : s.vm.findClass "java/lang/String" = some m.cls := findClass_of_methodNamed Bd.named
  have hnm := (name_of_methodNamed Bd.named Bd.method).1
  have hlk := Bd.notSynchronized
  have X0 : Stand p l e ({ frames := 3, cells := 0, slots := 0, locals := 44 } : Room) s m #[(.ref o0), (.int 0)] below meth c s₁ [] 0 0 := Stand.of_body Bd
  have e0 : s₁.heap = h0 := by rw [← hh, Bd.state]; rfl
  have N0 := Fr.nil n0
  show own_G p.tables e below s (Q_rmCU20 Z o0 w0 w1 cs fm h0 n0) ({ frames := 3, cells := 0, slots := 0, locals := 44 } : Room).cells ({ frames := 3, cells := 0, slots := 0, locals := 44 } : Room).slots _
  refine own_thr (a := s₁.setTop (mkF m 0 #[.val (.ref o0), .val (.int 0), .unset] [])) (fun t kt => castTop (ef_rmCU20 m o0) kt) ?_
  obtain ⟨E0, ⟨C0, b, k, x0, x1, V0, A0, qq0, qq1⟩ | ⟨C0, b, k, x0, x1, x2, x3, V0, A0, qq0, qq1⟩⟩ := id U
  · skip
    refine own_thr (a := s₁.setTop (mkF m 1 #[.val (.ref o0), .val (.int 0), .unset] [(.ref o0)])) (fun t kt => ?_) ?_
    · refine XS.aloadN X0.here hx rfl (hb hby d21_0) rfl rfl ?_
      exact kt
    obtain ⟨cq1, kq1, q1a, q1b, q1c⟩ := isOf hZ e0 E0
    obtain ⟨_, _, ⟨T1, L1, k1, n1⟩, -, X1, ⟨Lc1, hQ1, l1, y1, z1⟩, st1⟩ := X0.virtualBack hx (y := own_m13) (z := own_m13) hown (mvT hZ (hw _ (own_i 95 rfl))) (mvT hZ (hw _ (own_i 96 rfl))) (notFace_of_selects (args := #[]) (mvT hZ (hw _ (own_i 98 rfl)))) (mvT hZ (hw _ (own_i 98 rfl))) (mvT hZ (hw _ (own_i 97 rfl))) (by decide) (backOf (W := 0) (rmIL0 l Z a0 hw [] o0 cs fm h0 n0 Z0 E0 C0 hKs hO) hZ (hw _ (own_i 99 rfl)) (hw _ (own_i 13 rfl)) (by decide) (by decide)) q1a q1c (g := (mkF m 1 #[.val (.ref o0), .val (.int 0), .unset] [(.ref o0)])) rfl (by rw [hml]; rfl) (Steps.refl _) (argsL := []) (rest := []) (lenOf pd__28_29Z rfl) rfl (own_q rfl) (hb hby d21_1) (fun _ _ => ⟨rfl, e0, (by decide : 0 + 0 ≤ _), (by decide : 0 + 0 ≤ _)⟩)
    dsimp only [Pt.U, Pt.locs, Pt.cells, Pt.slots] at X1 l1 y1 z1 st1 hQ1
    obtain ⟨rfl, N1q, e1⟩ := hQ1
    obtain ⟨lc1, X1, N1⟩ := own_pack X1 l1 y1 z1 N0 N1q (C := 0) (S' := 0) rfl rfl
    refine own_thr (a := T1.setTop (mkF m 4 #[.val (.ref o0), .val (.int 0), .unset] [(.int 1)])) (fun t kt => st1.trans kt) ?_
    refine own_thr (a := T1.setTop (mkF m 9 #[.val (.ref o0), .val (.int 0), .unset] [(.ref o0), (.int 0)])) (fun t kt => ?_) ?_
    · refine XS.ifNo X1.here hx rfl (hb hby d21_4) rfl ((if0 _ _).trans (feq (by decide)).1) ?_
      refine XS.iloadN X1.here hx rfl (hb hby d21_7) rfl ?_
      refine XS.aloadN X1.here hx rfl (hb hby d21_8) rfl rfl ?_
      exact kt
    obtain ⟨T2, X2, e2, st2⟩ := getF X1 hx hZ hown (host := "") (Or.inl (hw _ (own_i 31 rfl))) Via.refl e1 V0 (g := (mkF m 9 #[.val (.ref o0), .val (.int 0), .unset] [(.ref o0), (.int 0)])) rfl rfl (hb hby d21_9)
    refine own_thr (a := T2.setTop (mkF m 12 #[.val (.ref o0), .val (.int 0), .unset] [(.ref b), (.int 0)])) (fun t kt => st2 t kt) ?_
    obtain ⟨cl3, Ar3, -, S3, M3, -, -⟩ := id A0
    refine own_thr (a := T2.setTop (mkF m 13 #[.val (.ref o0), .val (.int 0), .unset] [(.int 2), (.int 0)])) (fun t kt => ?_) ?_
    · refine X2.arraylength hx (by rw [e2]; exact Ar3.1) (State.isArrayOf_alike hZ.alike Ar3.2.1) (g := (mkF m 12 #[.val (.ref o0), .val (.int 0), .unset] [(.ref b), (.int 0)])) rfl rfl (hb hby d21_12) _ ?_
      rw [len_of S3 M3]
      exact kt
    obtain ⟨_, _, ⟨T4, L4, k4, n4⟩, -, X4, ⟨Lc4, hQ4, l4, y4, z4⟩, st4⟩ := Jvm.LawKit.callS X2 hx (y := own_m15) hown (mvT hZ (hw _ (own_i 100 rfl))) (mvT hZ (hw _ (own_i 101 rfl))) (mvT hZ (hw _ (own_i 13 rfl))) (mvT hZ (hw _ (own_i 102 rfl))) (by decide) (backOf (W := 0) (rmCI l Z a0 hw [] (0 : Int32) (2 : Int32) cs fm h0 n0 Z0 hKs hO (by decide) (by decide)) hZ (hw _ (own_i 102 rfl)) (hw _ (own_i 13 rfl)) (by decide) (by decide)) (g := (mkF m 13 #[.val (.ref o0), .val (.int 0), .unset] [(.int 2), (.int 0)])) rfl (by rw [hml]; rfl) (argsL := [(.int 0), (.int 2)]) (rest := []) (lenOf pd__28II_29V rfl) rfl (own_q rfl) (hb hby d21_13) (fun _ _ => ⟨rfl, e2, (by decide : 0 + 0 ≤ _), (by decide : 0 + 0 ≤ _)⟩)
    dsimp only [Pt.U, Pt.locs, Pt.cells, Pt.slots] at X4 l4 y4 z4 st4 hQ4
    obtain ⟨rfl, N4q, e4⟩ := hQ4
    obtain ⟨lc4, X4, N4⟩ := own_pack X4 l4 y4 z4 N1 N4q (C := 0) (S' := 0) rfl rfl
    refine own_thr (a := T4.setTop (mkF m 16 #[.val (.ref o0), .val (.int 0), .unset] [])) (fun t kt => st4 t kt) ?_
    refine own_thr (a := T4.setTop (mkF m 17 #[.val (.ref o0), .val (.int 0), .unset] [(.ref o0)])) (fun t kt => ?_) ?_
    · refine XS.aloadN X4.here hx rfl (hb hby d21_16) rfl rfl ?_
      exact kt
    obtain ⟨T5, X5, e5, st5⟩ := getF X4 hx hZ hown (host := "") (Or.inl (hw _ (own_i 31 rfl))) Via.refl e4 V0 (g := (mkF m 17 #[.val (.ref o0), .val (.int 0), .unset] [(.ref o0)])) rfl rfl (hb hby d21_17)
    refine own_thr (a := T5.setTop (mkF m 20 #[.val (.ref o0), .val (.int 0), .unset] [(.ref b)])) (fun t kt => st5 t kt) ?_
    refine own_thr (a := T5.setTop (mkF m 21 #[.val (.ref o0), .val (.int 0), .unset] [(.int 0), (.ref b)])) (fun t kt => ?_) ?_
    · refine XS.iloadN X5.here hx rfl (hb hby d21_20) rfl ?_
      exact kt
    obtain ⟨cl6, Ar6, -, S6, M6, H6, -⟩ := id A0
    have hin6 : ¬ ((0 : Int32) < 0 ∨ cl6.slots.size ≤ ((0 : Int32)).toNatClampNeg) := inb_of S6 ⟨by decide, by decide⟩
    have hat6 : cl6.slots[((0 : Int32)).toNatClampNeg]? = some (.int x0) := Has.at H6 hin6 rfl
    refine own_thr (a := T5.setTop (mkF m 26 #[.val (.ref o0), .val (.int 0), .unset] [(.int (x0 &&& (255 : Int32)))])) (fun t kt => ?_) ?_
    · refine X5.baloadBytes hx (j := (0 : Int32)) (v := (.int x0)) (by rw [e5]; exact Ar6.1) (State.isArrayOf_alike hZ.alike Ar6.2.1) Ar6.2.2 hin6 hat6 (g := (mkF m 21 #[.val (.ref o0), .val (.int 0), .unset] [(.int 0), (.ref b)])) rfl rfl (hb hby d21_21) _ ?_
      refine XS.sipush X5.here hx rfl (hb hby d21_22) ?_
      refine XS.iand X5.here hx rfl (hb hby d21_25) rfl ?_
      exact kt
    exact own_end X5 hlk (v := some (.int (x0 &&& (255 : Int32)))) (fun h => by rw [Bd.returns] at h; cases h) (fun fs hr => retI X5 hx Bd.returns (hb hby d21_26) hr) (by rw [e5]; exact ⟨(congrArg (fun z => some (Value.int z)) (qq0.symm.trans (own_cpl qq0).symm)), N4, rfl⟩) (by decide : 0 ≤ _) (by decide : 0 ≤ _)
  · skip
    refine own_thr (a := s₁.setTop (mkF m 1 #[.val (.ref o0), .val (.int 0), .unset] [(.ref o0)])) (fun t kt => ?_) ?_
    · refine XS.aloadN X0.here hx rfl (hb hby d21_0) rfl rfl ?_
      exact kt
    obtain ⟨cq7, kq7, q7a, q7b, q7c⟩ := isOf hZ e0 E0
    obtain ⟨_, _, ⟨T7, L7, k7, n7⟩, -, X7, ⟨Lc7, hQ7, l7, y7, z7⟩, st7⟩ := X0.virtualBack hx (y := own_m13) (z := own_m13) hown (mvT hZ (hw _ (own_i 95 rfl))) (mvT hZ (hw _ (own_i 96 rfl))) (notFace_of_selects (args := #[]) (mvT hZ (hw _ (own_i 98 rfl)))) (mvT hZ (hw _ (own_i 98 rfl))) (mvT hZ (hw _ (own_i 97 rfl))) (by decide) (backOf (W := 0) (rmIL1 l Z a0 hw [] o0 cs fm h0 n0 Z0 E0 C0 hKs hO) hZ (hw _ (own_i 99 rfl)) (hw _ (own_i 13 rfl)) (by decide) (by decide)) q7a q7c (g := (mkF m 1 #[.val (.ref o0), .val (.int 0), .unset] [(.ref o0)])) rfl (by rw [hml]; rfl) (Steps.refl _) (argsL := []) (rest := []) (lenOf pd__28_29Z rfl) rfl (own_q rfl) (hb hby d21_1) (fun _ _ => ⟨rfl, e0, (by decide : 0 + 0 ≤ _), (by decide : 0 + 0 ≤ _)⟩)
    dsimp only [Pt.U, Pt.locs, Pt.cells, Pt.slots] at X7 l7 y7 z7 st7 hQ7
    obtain ⟨rfl, N7q, e7⟩ := hQ7
    obtain ⟨lc7, X7, N7⟩ := own_pack X7 l7 y7 z7 N0 N7q (C := 0) (S' := 0) rfl rfl
    refine own_thr (a := T7.setTop (mkF m 4 #[.val (.ref o0), .val (.int 0), .unset] [(.int 0)])) (fun t kt => st7.trans kt) ?_
    refine own_thr (a := T7.setTop (mkF m 28 #[.val (.ref o0), .val (.int 0), .unset] [(.ref o0)])) (fun t kt => ?_) ?_
    · refine XS.ifYes X7.here hx rfl (pc0 := 4) (pc' := 27) rfl (hb hby d21_4) rfl ((if0 _ _).trans (teq rfl).1) (by decide) (by decide) ?_
      refine XS.aloadN X7.here hx rfl (hb hby d21_27) rfl rfl ?_
      exact kt
    obtain ⟨T8, X8, e8, st8⟩ := getF X7 hx hZ hown (host := "") (Or.inl (hw _ (own_i 31 rfl))) Via.refl e7 V0 (g := (mkF m 28 #[.val (.ref o0), .val (.int 0), .unset] [(.ref o0)])) rfl rfl (hb hby d21_28)
    refine own_thr (a := T8.setTop (mkF m 31 #[.val (.ref o0), .val (.int 0), .unset] [(.ref b)])) (fun t kt => st8 t kt) ?_
    obtain ⟨cl9, Ar9, -, S9, M9, -, -⟩ := id A0
    refine own_thr (a := T8.setTop (mkF m 37 #[.val (.ref o0), .val (.int 0), .val (.int 2)] [(.int 2), (.int 0)])) (fun t kt => ?_) ?_
    · refine X8.arraylength hx (by rw [e8]; exact Ar9.1) (State.isArrayOf_alike hZ.alike Ar9.2.1) (g := (mkF m 31 #[.val (.ref o0), .val (.int 0), .unset] [(.ref b)])) rfl rfl (hb hby d21_31) _ ?_
      rw [len_of S9 M9]
      refine XS.iconst X8.here hx rfl (hb hby d21_32) ?_
      refine XS.ishr X8.here hx rfl (hb hby d21_33) rfl ?_
      refine XS.istoreN X8.here hx rfl (hb hby d21_34) rfl (l' := #[.val (.ref o0), .val (.int 0), .val (.int 2)]) rfl ?_
      refine XS.iloadN X8.here hx rfl (hb hby d21_35) rfl ?_
      refine XS.iloadN X8.here hx rfl (hb hby d21_36) rfl ?_
      exact kt
    obtain ⟨_, _, ⟨T10, L10, k10, n10⟩, -, X10, ⟨Lc10, hQ10, l10, y10, z10⟩, st10⟩ := Jvm.LawKit.callS X8 hx (y := own_m15) hown (mvT hZ (hw _ (own_i 100 rfl))) (mvT hZ (hw _ (own_i 101 rfl))) (mvT hZ (hw _ (own_i 13 rfl))) (mvT hZ (hw _ (own_i 102 rfl))) (by decide) (backOf (W := 0) (rmCI l Z a0 hw [] (0 : Int32) (2 : Int32) cs fm h0 n0 Z0 hKs hO (by decide) (by decide)) hZ (hw _ (own_i 102 rfl)) (hw _ (own_i 13 rfl)) (by decide) (by decide)) (g := (mkF m 37 #[.val (.ref o0), .val (.int 0), .val (.int 2)] [(.int 2), (.int 0)])) rfl (by rw [hml]; rfl) (argsL := [(.int 0), (.int 2)]) (rest := []) (lenOf pd__28II_29V rfl) rfl (own_q rfl) (hb hby d21_37) (fun _ _ => ⟨rfl, e8, (by decide : 0 + 0 ≤ _), (by decide : 0 + 0 ≤ _)⟩)
    dsimp only [Pt.U, Pt.locs, Pt.cells, Pt.slots] at X10 l10 y10 z10 st10 hQ10
    obtain ⟨rfl, N10q, e10⟩ := hQ10
    obtain ⟨lc10, X10, N10⟩ := own_pack X10 l10 y10 z10 N7 N10q (C := 0) (S' := 0) rfl rfl
    refine own_thr (a := T10.setTop (mkF m 40 #[.val (.ref o0), .val (.int 0), .val (.int 2)] [])) (fun t kt => st10 t kt) ?_
    refine own_thr (a := T10.setTop (mkF m 41 #[.val (.ref o0), .val (.int 0), .val (.int 2)] [(.ref o0)])) (fun t kt => ?_) ?_
    · refine XS.aloadN X10.here hx rfl (hb hby d21_40) rfl rfl ?_
      exact kt
    obtain ⟨T11, X11, e11, st11⟩ := getF X10 hx hZ hown (host := "") (Or.inl (hw _ (own_i 31 rfl))) Via.refl e10 V0 (g := (mkF m 41 #[.val (.ref o0), .val (.int 0), .val (.int 2)] [(.ref o0)])) rfl rfl (hb hby d21_41)
    refine own_thr (a := T11.setTop (mkF m 44 #[.val (.ref o0), .val (.int 0), .val (.int 2)] [(.ref b)])) (fun t kt => st11 t kt) ?_
    refine own_thr (a := T11.setTop (mkF m 46 #[.val (.ref o0), .val (.int 0), .val (.int 2)] [(.int 2), (.int 0), (.ref b)])) (fun t kt => ?_) ?_
    · refine XS.iloadN X11.here hx rfl (hb hby d21_44) rfl ?_
      refine XS.iloadN X11.here hx rfl (hb hby d21_45) rfl ?_
      exact kt
    obtain ⟨_, _, ⟨T12, L12, k12, n12⟩, -, X12, ⟨Lc12, hQ12, l12, y12, z12⟩, st12⟩ := Jvm.LawKit.callS X11 hx (y := own_m21) hown (mvT hZ (hw _ (own_i 108 rfl))) (mvT hZ (hw _ (own_i 109 rfl))) (mvT hZ (hw _ (own_i 63 rfl))) (mvT hZ (hw _ (own_i 110 rfl))) (by decide) (backOf (W := 0) (rmP320 l Z a0 hw [] b x0 x1 x2 x3 k cs fm h0 n0 Z0 A0 hKs hO) hZ (hw _ (own_i 110 rfl)) (hw _ (own_i 63 rfl)) (by decide) (by decide)) (g := (mkF m 46 #[.val (.ref o0), .val (.int 0), .val (.int 2)] [(.int 2), (.int 0), (.ref b)])) rfl (by rw [hml]; rfl) (argsL := [(.ref b), (.int 0), (.int 2)]) (rest := []) (lenOf pd__28_5bBII_29I rfl) rfl (own_q rfl) (hb hby d21_46) (fun _ _ => ⟨rfl, e11, (by decide : 0 + 0 ≤ _), (by decide : 0 + 0 ≤ _)⟩)
    dsimp only [Pt.U, Pt.locs, Pt.cells, Pt.slots] at X12 l12 y12 z12 st12 hQ12
    obtain ⟨rfl, N12q, e12⟩ := hQ12
    obtain ⟨lc12, X12, N12⟩ := own_pack X12 l12 y12 z12 N10 N12q (C := 0) (S' := 0) rfl rfl
    refine own_thr (a := T12.setTop (mkF m 49 #[.val (.ref o0), .val (.int 0), .val (.int 2)] [(.int (own_cp (own_gc x0 x1) (own_gc x2 x3)))])) (fun t kt => st12 t kt) ?_
    exact own_end X12 hlk (v := some (.int (own_cp (own_gc x0 x1) (own_gc x2 x3)))) (fun h => by rw [Bd.returns] at h; cases h) (fun fs hr => retI X12 hx Bd.returns (hb hby d21_49) hr) (by rw [e12]; exact ⟨(by rw [qq0, qq1]), N12, rfl⟩) (by decide : 0 ≤ _) (by decide : 0 ≤ _)
theorem ef_rmCU21 (m : MethodId) (o0 : Addr)  : entryFrame m #[(.ref o0), (.int 1)] 3 = mkF m 0 #[.val (.ref o0), .val (.int 1), .unset] [] := by first |  (simp [entryFrame, mkF, argsToLocals, Value.category]; done) | rfl
def Q_rmCU21 (Z : State) (o0 : Addr) (w0 : Int32) (w1 : Int32) (cs : Int32) (fm : Value) (h0 : Heap) (n0 : Nat) (v : Option Value) (h : Heap) (L : List Loc) : Prop := v = some (.int w1) ∧ Fr n0 L ∧ h = h0
theorem rmCU21 (l : Launch) (Z : State) (a0 : Array Value) (hw : ∀ d ∈ tables_1, d.before a0 Z = true) (ws : List Jvm.Cond) (o0 : Addr) (w0 : Int32) (w1 : Int32) (cs : Int32) (fm : Value) (h0 : Heap) (n0 : Nat) (Z0 : n0 ≤ h0.size) (U : own_U2 Z h0 o0 w0 w1) (hKs : own_K Z cs fm) (hO : Old Z n0 h0) :
    MetFree l own_m23 (head1 (Jvm.Cond.code own_m23 jdk_42_method_57_code 3 (some .int) :: ws) ({ frames := 3, cells := 0, slots := 0, locals := 44 } : Room)) (fun a U => a = #[(.ref o0), (.int 1)] ∧ Z.Warmed39 U.vm ∧ U.heap = h0) (fun _ _ _ _ _ => True) (fun _ U o U' => ∃ v L, o = .returned v ∧ Q_rmCU21 Z o0 w0 w1 cs fm h0 n0 v U'.heap L ∧ FrameEnd U o U' L ({ frames := 3, cells := 0, slots := 0, locals := 44 } : Room).cells ({ frames := 3, cells := 0, slots := 0, locals := 44 } : Room).slots) := by
  refine MetFree.of_bodySF (plainFor_of_name pn_java_lang_String) hisR ?_
  intro p e s m args below meth c s₁ Bd hml0 hP hK
  obtain ⟨rfl, hZ, hh⟩ := hP
  have hx := Bd.exec
  have hby := Bd.bytes
  have hml : c.maxLocals = 3 := hml0
  have hown : s.vm.findClass "java/lang/String" = some m.cls := findClass_of_methodNamed Bd.named
  have hnm := (name_of_methodNamed Bd.named Bd.method).1
  have hlk := Bd.notSynchronized
  have X0 : Stand p l e ({ frames := 3, cells := 0, slots := 0, locals := 44 } : Room) s m #[(.ref o0), (.int 1)] below meth c s₁ [] 0 0 := Stand.of_body Bd
  have e0 : s₁.heap = h0 := by rw [← hh, Bd.state]; rfl
  have N0 := Fr.nil n0
  show own_G p.tables e below s (Q_rmCU21 Z o0 w0 w1 cs fm h0 n0) ({ frames := 3, cells := 0, slots := 0, locals := 44 } : Room).cells ({ frames := 3, cells := 0, slots := 0, locals := 44 } : Room).slots _
  refine own_thr (a := s₁.setTop (mkF m 0 #[.val (.ref o0), .val (.int 1), .unset] [])) (fun t kt => castTop (ef_rmCU21 m o0) kt) ?_
  obtain ⟨E0, ⟨C0, b, k, x0, x1, V0, A0, qq0, qq1⟩ | ⟨C0, b, k, x0, x1, x2, x3, V0, A0, qq0, qq1⟩⟩ := id U
  · skip
    refine own_thr (a := s₁.setTop (mkF m 1 #[.val (.ref o0), .val (.int 1), .unset] [(.ref o0)])) (fun t kt => ?_) ?_
    · refine XS.aloadN X0.here hx rfl (hb hby d21_0) rfl rfl ?_
      exact kt
    obtain ⟨cq1, kq1, q1a, q1b, q1c⟩ := isOf hZ e0 E0
    obtain ⟨_, _, ⟨T1, L1, k1, n1⟩, -, X1, ⟨Lc1, hQ1, l1, y1, z1⟩, st1⟩ := X0.virtualBack hx (y := own_m13) (z := own_m13) hown (mvT hZ (hw _ (own_i 95 rfl))) (mvT hZ (hw _ (own_i 96 rfl))) (notFace_of_selects (args := #[]) (mvT hZ (hw _ (own_i 98 rfl)))) (mvT hZ (hw _ (own_i 98 rfl))) (mvT hZ (hw _ (own_i 97 rfl))) (by decide) (backOf (W := 0) (rmIL0 l Z a0 hw [] o0 cs fm h0 n0 Z0 E0 C0 hKs hO) hZ (hw _ (own_i 99 rfl)) (hw _ (own_i 13 rfl)) (by decide) (by decide)) q1a q1c (g := (mkF m 1 #[.val (.ref o0), .val (.int 1), .unset] [(.ref o0)])) rfl (by rw [hml]; rfl) (Steps.refl _) (argsL := []) (rest := []) (lenOf pd__28_29Z rfl) rfl (own_q rfl) (hb hby d21_1) (fun _ _ => ⟨rfl, e0, (by decide : 0 + 0 ≤ _), (by decide : 0 + 0 ≤ _)⟩)
    dsimp only [Pt.U, Pt.locs, Pt.cells, Pt.slots] at X1 l1 y1 z1 st1 hQ1
    obtain ⟨rfl, N1q, e1⟩ := hQ1
    obtain ⟨lc1, X1, N1⟩ := own_pack X1 l1 y1 z1 N0 N1q (C := 0) (S' := 0) rfl rfl
    refine own_thr (a := T1.setTop (mkF m 4 #[.val (.ref o0), .val (.int 1), .unset] [(.int 1)])) (fun t kt => st1.trans kt) ?_
    refine own_thr (a := T1.setTop (mkF m 9 #[.val (.ref o0), .val (.int 1), .unset] [(.ref o0), (.int 1)])) (fun t kt => ?_) ?_
    · refine XS.ifNo X1.here hx rfl (hb hby d21_4) rfl ((if0 _ _).trans (feq (by decide)).1) ?_
      refine XS.iloadN X1.here hx rfl (hb hby d21_7) rfl ?_
      refine XS.aloadN X1.here hx rfl (hb hby d21_8) rfl rfl ?_
      exact kt
    obtain ⟨T2, X2, e2, st2⟩ := getF X1 hx hZ hown (host := "") (Or.inl (hw _ (own_i 31 rfl))) Via.refl e1 V0 (g := (mkF m 9 #[.val (.ref o0), .val (.int 1), .unset] [(.ref o0), (.int 1)])) rfl rfl (hb hby d21_9)
    refine own_thr (a := T2.setTop (mkF m 12 #[.val (.ref o0), .val (.int 1), .unset] [(.ref b), (.int 1)])) (fun t kt => st2 t kt) ?_
    obtain ⟨cl3, Ar3, -, S3, M3, -, -⟩ := id A0
    refine own_thr (a := T2.setTop (mkF m 13 #[.val (.ref o0), .val (.int 1), .unset] [(.int 2), (.int 1)])) (fun t kt => ?_) ?_
    · refine X2.arraylength hx (by rw [e2]; exact Ar3.1) (State.isArrayOf_alike hZ.alike Ar3.2.1) (g := (mkF m 12 #[.val (.ref o0), .val (.int 1), .unset] [(.ref b), (.int 1)])) rfl rfl (hb hby d21_12) _ ?_
      rw [len_of S3 M3]
      exact kt
    obtain ⟨_, _, ⟨T4, L4, k4, n4⟩, -, X4, ⟨Lc4, hQ4, l4, y4, z4⟩, st4⟩ := Jvm.LawKit.callS X2 hx (y := own_m15) hown (mvT hZ (hw _ (own_i 100 rfl))) (mvT hZ (hw _ (own_i 101 rfl))) (mvT hZ (hw _ (own_i 13 rfl))) (mvT hZ (hw _ (own_i 102 rfl))) (by decide) (backOf (W := 0) (rmCI l Z a0 hw [] (1 : Int32) (2 : Int32) cs fm h0 n0 Z0 hKs hO (by decide) (by decide)) hZ (hw _ (own_i 102 rfl)) (hw _ (own_i 13 rfl)) (by decide) (by decide)) (g := (mkF m 13 #[.val (.ref o0), .val (.int 1), .unset] [(.int 2), (.int 1)])) rfl (by rw [hml]; rfl) (argsL := [(.int 1), (.int 2)]) (rest := []) (lenOf pd__28II_29V rfl) rfl (own_q rfl) (hb hby d21_13) (fun _ _ => ⟨rfl, e2, (by decide : 0 + 0 ≤ _), (by decide : 0 + 0 ≤ _)⟩)
    dsimp only [Pt.U, Pt.locs, Pt.cells, Pt.slots] at X4 l4 y4 z4 st4 hQ4
    obtain ⟨rfl, N4q, e4⟩ := hQ4
    obtain ⟨lc4, X4, N4⟩ := own_pack X4 l4 y4 z4 N1 N4q (C := 0) (S' := 0) rfl rfl
    refine own_thr (a := T4.setTop (mkF m 16 #[.val (.ref o0), .val (.int 1), .unset] [])) (fun t kt => st4 t kt) ?_
    refine own_thr (a := T4.setTop (mkF m 17 #[.val (.ref o0), .val (.int 1), .unset] [(.ref o0)])) (fun t kt => ?_) ?_
    · refine XS.aloadN X4.here hx rfl (hb hby d21_16) rfl rfl ?_
      exact kt
    obtain ⟨T5, X5, e5, st5⟩ := getF X4 hx hZ hown (host := "") (Or.inl (hw _ (own_i 31 rfl))) Via.refl e4 V0 (g := (mkF m 17 #[.val (.ref o0), .val (.int 1), .unset] [(.ref o0)])) rfl rfl (hb hby d21_17)
    refine own_thr (a := T5.setTop (mkF m 20 #[.val (.ref o0), .val (.int 1), .unset] [(.ref b)])) (fun t kt => st5 t kt) ?_
    refine own_thr (a := T5.setTop (mkF m 21 #[.val (.ref o0), .val (.int 1), .unset] [(.int 1), (.ref b)])) (fun t kt => ?_) ?_
    · refine XS.iloadN X5.here hx rfl (hb hby d21_20) rfl ?_
      exact kt
    obtain ⟨cl6, Ar6, -, S6, M6, H6, -⟩ := id A0
    have hin6 : ¬ ((1 : Int32) < 0 ∨ cl6.slots.size ≤ ((1 : Int32)).toNatClampNeg) := inb_of S6 ⟨by decide, by decide⟩
    have hat6 : cl6.slots[((1 : Int32)).toNatClampNeg]? = some (.int x1) := Has.at H6 hin6 rfl
    refine own_thr (a := T5.setTop (mkF m 26 #[.val (.ref o0), .val (.int 1), .unset] [(.int (x1 &&& (255 : Int32)))])) (fun t kt => ?_) ?_
    · refine X5.baloadBytes hx (j := (1 : Int32)) (v := (.int x1)) (by rw [e5]; exact Ar6.1) (State.isArrayOf_alike hZ.alike Ar6.2.1) Ar6.2.2 hin6 hat6 (g := (mkF m 21 #[.val (.ref o0), .val (.int 1), .unset] [(.int 1), (.ref b)])) rfl rfl (hb hby d21_21) _ ?_
      refine XS.sipush X5.here hx rfl (hb hby d21_22) ?_
      refine XS.iand X5.here hx rfl (hb hby d21_25) rfl ?_
      exact kt
    exact own_end X5 hlk (v := some (.int (x1 &&& (255 : Int32)))) (fun h => by rw [Bd.returns] at h; cases h) (fun fs hr => retI X5 hx Bd.returns (hb hby d21_26) hr) (by rw [e5]; exact ⟨(congrArg (fun z => some (Value.int z)) qq1.symm), N4, rfl⟩) (by decide : 0 ≤ _) (by decide : 0 ≤ _)
  · skip
    refine own_thr (a := s₁.setTop (mkF m 1 #[.val (.ref o0), .val (.int 1), .unset] [(.ref o0)])) (fun t kt => ?_) ?_
    · refine XS.aloadN X0.here hx rfl (hb hby d21_0) rfl rfl ?_
      exact kt
    obtain ⟨cq7, kq7, q7a, q7b, q7c⟩ := isOf hZ e0 E0
    obtain ⟨_, _, ⟨T7, L7, k7, n7⟩, -, X7, ⟨Lc7, hQ7, l7, y7, z7⟩, st7⟩ := X0.virtualBack hx (y := own_m13) (z := own_m13) hown (mvT hZ (hw _ (own_i 95 rfl))) (mvT hZ (hw _ (own_i 96 rfl))) (notFace_of_selects (args := #[]) (mvT hZ (hw _ (own_i 98 rfl)))) (mvT hZ (hw _ (own_i 98 rfl))) (mvT hZ (hw _ (own_i 97 rfl))) (by decide) (backOf (W := 0) (rmIL1 l Z a0 hw [] o0 cs fm h0 n0 Z0 E0 C0 hKs hO) hZ (hw _ (own_i 99 rfl)) (hw _ (own_i 13 rfl)) (by decide) (by decide)) q7a q7c (g := (mkF m 1 #[.val (.ref o0), .val (.int 1), .unset] [(.ref o0)])) rfl (by rw [hml]; rfl) (Steps.refl _) (argsL := []) (rest := []) (lenOf pd__28_29Z rfl) rfl (own_q rfl) (hb hby d21_1) (fun _ _ => ⟨rfl, e0, (by decide : 0 + 0 ≤ _), (by decide : 0 + 0 ≤ _)⟩)
    dsimp only [Pt.U, Pt.locs, Pt.cells, Pt.slots] at X7 l7 y7 z7 st7 hQ7
    obtain ⟨rfl, N7q, e7⟩ := hQ7
    obtain ⟨lc7, X7, N7⟩ := own_pack X7 l7 y7 z7 N0 N7q (C := 0) (S' := 0) rfl rfl
    refine own_thr (a := T7.setTop (mkF m 4 #[.val (.ref o0), .val (.int 1), .unset] [(.int 0)])) (fun t kt => st7.trans kt) ?_
    refine own_thr (a := T7.setTop (mkF m 28 #[.val (.ref o0), .val (.int 1), .unset] [(.ref o0)])) (fun t kt => ?_) ?_
    · refine XS.ifYes X7.here hx rfl (pc0 := 4) (pc' := 27) rfl (hb hby d21_4) rfl ((if0 _ _).trans (teq rfl).1) (by decide) (by decide) ?_
      refine XS.aloadN X7.here hx rfl (hb hby d21_27) rfl rfl ?_
      exact kt
    obtain ⟨T8, X8, e8, st8⟩ := getF X7 hx hZ hown (host := "") (Or.inl (hw _ (own_i 31 rfl))) Via.refl e7 V0 (g := (mkF m 28 #[.val (.ref o0), .val (.int 1), .unset] [(.ref o0)])) rfl rfl (hb hby d21_28)
    refine own_thr (a := T8.setTop (mkF m 31 #[.val (.ref o0), .val (.int 1), .unset] [(.ref b)])) (fun t kt => st8 t kt) ?_
    obtain ⟨cl9, Ar9, -, S9, M9, -, -⟩ := id A0
    refine own_thr (a := T8.setTop (mkF m 37 #[.val (.ref o0), .val (.int 1), .val (.int 2)] [(.int 2), (.int 1)])) (fun t kt => ?_) ?_
    · refine X8.arraylength hx (by rw [e8]; exact Ar9.1) (State.isArrayOf_alike hZ.alike Ar9.2.1) (g := (mkF m 31 #[.val (.ref o0), .val (.int 1), .unset] [(.ref b)])) rfl rfl (hb hby d21_31) _ ?_
      rw [len_of S9 M9]
      refine XS.iconst X8.here hx rfl (hb hby d21_32) ?_
      refine XS.ishr X8.here hx rfl (hb hby d21_33) rfl ?_
      refine XS.istoreN X8.here hx rfl (hb hby d21_34) rfl (l' := #[.val (.ref o0), .val (.int 1), .val (.int 2)]) rfl ?_
      refine XS.iloadN X8.here hx rfl (hb hby d21_35) rfl ?_
      refine XS.iloadN X8.here hx rfl (hb hby d21_36) rfl ?_
      exact kt
    obtain ⟨_, _, ⟨T10, L10, k10, n10⟩, -, X10, ⟨Lc10, hQ10, l10, y10, z10⟩, st10⟩ := Jvm.LawKit.callS X8 hx (y := own_m15) hown (mvT hZ (hw _ (own_i 100 rfl))) (mvT hZ (hw _ (own_i 101 rfl))) (mvT hZ (hw _ (own_i 13 rfl))) (mvT hZ (hw _ (own_i 102 rfl))) (by decide) (backOf (W := 0) (rmCI l Z a0 hw [] (1 : Int32) (2 : Int32) cs fm h0 n0 Z0 hKs hO (by decide) (by decide)) hZ (hw _ (own_i 102 rfl)) (hw _ (own_i 13 rfl)) (by decide) (by decide)) (g := (mkF m 37 #[.val (.ref o0), .val (.int 1), .val (.int 2)] [(.int 2), (.int 1)])) rfl (by rw [hml]; rfl) (argsL := [(.int 1), (.int 2)]) (rest := []) (lenOf pd__28II_29V rfl) rfl (own_q rfl) (hb hby d21_37) (fun _ _ => ⟨rfl, e8, (by decide : 0 + 0 ≤ _), (by decide : 0 + 0 ≤ _)⟩)
    dsimp only [Pt.U, Pt.locs, Pt.cells, Pt.slots] at X10 l10 y10 z10 st10 hQ10
    obtain ⟨rfl, N10q, e10⟩ := hQ10
    obtain ⟨lc10, X10, N10⟩ := own_pack X10 l10 y10 z10 N7 N10q (C := 0) (S' := 0) rfl rfl
    refine own_thr (a := T10.setTop (mkF m 40 #[.val (.ref o0), .val (.int 1), .val (.int 2)] [])) (fun t kt => st10 t kt) ?_
    refine own_thr (a := T10.setTop (mkF m 41 #[.val (.ref o0), .val (.int 1), .val (.int 2)] [(.ref o0)])) (fun t kt => ?_) ?_
    · refine XS.aloadN X10.here hx rfl (hb hby d21_40) rfl rfl ?_
      exact kt
    obtain ⟨T11, X11, e11, st11⟩ := getF X10 hx hZ hown (host := "") (Or.inl (hw _ (own_i 31 rfl))) Via.refl e10 V0 (g := (mkF m 41 #[.val (.ref o0), .val (.int 1), .val (.int 2)] [(.ref o0)])) rfl rfl (hb hby d21_41)
    refine own_thr (a := T11.setTop (mkF m 44 #[.val (.ref o0), .val (.int 1), .val (.int 2)] [(.ref b)])) (fun t kt => st11 t kt) ?_
    refine own_thr (a := T11.setTop (mkF m 46 #[.val (.ref o0), .val (.int 1), .val (.int 2)] [(.int 2), (.int 1), (.ref b)])) (fun t kt => ?_) ?_
    · refine XS.iloadN X11.here hx rfl (hb hby d21_44) rfl ?_
      refine XS.iloadN X11.here hx rfl (hb hby d21_45) rfl ?_
      exact kt
    obtain ⟨_, _, ⟨T12, L12, k12, n12⟩, -, X12, ⟨Lc12, hQ12, l12, y12, z12⟩, st12⟩ := Jvm.LawKit.callS X11 hx (y := own_m21) hown (mvT hZ (hw _ (own_i 108 rfl))) (mvT hZ (hw _ (own_i 109 rfl))) (mvT hZ (hw _ (own_i 63 rfl))) (mvT hZ (hw _ (own_i 110 rfl))) (by decide) (backOf (W := 0) (rmP321 l Z a0 hw [] b x0 x1 x2 x3 k cs fm h0 n0 Z0 A0 hKs hO) hZ (hw _ (own_i 110 rfl)) (hw _ (own_i 63 rfl)) (by decide) (by decide)) (g := (mkF m 46 #[.val (.ref o0), .val (.int 1), .val (.int 2)] [(.int 2), (.int 1), (.ref b)])) rfl (by rw [hml]; rfl) (argsL := [(.ref b), (.int 1), (.int 2)]) (rest := []) (lenOf pd__28_5bBII_29I rfl) rfl (own_q rfl) (hb hby d21_46) (fun _ _ => ⟨rfl, e11, (by decide : 0 + 0 ≤ _), (by decide : 0 + 0 ≤ _)⟩)
    dsimp only [Pt.U, Pt.locs, Pt.cells, Pt.slots] at X12 l12 y12 z12 st12 hQ12
    obtain ⟨rfl, N12q, e12⟩ := hQ12
    obtain ⟨lc12, X12, N12⟩ := own_pack X12 l12 y12 z12 N10 N12q (C := 0) (S' := 0) rfl rfl
    refine own_thr (a := T12.setTop (mkF m 49 #[.val (.ref o0), .val (.int 1), .val (.int 2)] [(.int (own_gc x2 x3))])) (fun t kt => st12 t kt) ?_
    exact own_end X12 hlk (v := some (.int (own_gc x2 x3))) (fun h => by rw [Bd.returns] at h; cases h) (fun fs hr => retI X12 hx Bd.returns (hb hby d21_49) hr) (by rw [e12]; exact ⟨(congrArg (fun z => some (Value.int z)) qq1.symm), N12, rfl⟩) (by decide : 0 ≤ _) (by decide : 0 ≤ _)
theorem d9_0 : decode jdk_33_method_40_code 0 = .ok (.iload_n 0, 1) := by decide +kernel
theorem d9_1 : decode jdk_33_method_40_code 1 = .ok (.iload_n 1, 1) := by decide +kernel
theorem d9_2 : decode jdk_33_method_40_code 2 = .ok (.if_icmp .ge 7, 3) := by decide +kernel
theorem d9_5 : decode jdk_33_method_40_code 5 = .ok (.iconst (-1), 1) := by decide +kernel
theorem d9_6 : decode jdk_33_method_40_code 6 = .ok (.goto 13, 3) := by decide +kernel
theorem d9_19 : decode jdk_33_method_40_code 19 = .ok (.ireturn, 1) := by decide +kernel
theorem d9_9 : decode jdk_33_method_40_code 9 = .ok (.iload_n 0, 1) := by decide +kernel
theorem d9_10 : decode jdk_33_method_40_code 10 = .ok (.iload_n 1, 1) := by decide +kernel
theorem d9_11 : decode jdk_33_method_40_code 11 = .ok (.if_icmp .ne 7, 3) := by decide +kernel
theorem d9_14 : decode jdk_33_method_40_code 14 = .ok (.iconst 0, 1) := by decide +kernel
theorem d9_15 : decode jdk_33_method_40_code 15 = .ok (.goto 4, 3) := by decide +kernel
theorem d9_18 : decode jdk_33_method_40_code 18 = .ok (.iconst 1, 1) := by decide +kernel
theorem pn_java_lang_Integer : plainName "java/lang/Integer" = true := by first | (simp [plainName, overriddenIn]; done) | decide +kernel
theorem ef_rmIC (m : MethodId) (p0 : Int32) (p1 : Int32)  : entryFrame m #[(.int p0), (.int p1)] 2 = mkF m 0 #[.val (.int p0), .val (.int p1)] [] := by first |  (simp [entryFrame, mkF, argsToLocals, Value.category]; done) | rfl
def f_rmIC (p0 : Int32) (p1 : Int32) : Int32 := if p0 < p1 then (-1 : Int32) else if p0 = p1 then (0 : Int32) else (1 : Int32)
def Q_rmIC (Z : State) (p0 : Int32) (p1 : Int32) (h0 : Heap) (n0 : Nat) (v : Option Value) (h : Heap) (L : List Loc) : Prop := v = some (.int (f_rmIC p0 p1)) ∧ Fr n0 L ∧ h = h0
theorem rmIC (l : Launch) (Z : State) (a0 : Array Value) (hw : ∀ d ∈ tables_1, d.before a0 Z = true) (ws : List Jvm.Cond) (p0 : Int32) (p1 : Int32) (h0 : Heap) (n0 : Nat) (Z0 : n0 ≤ h0.size) :
    MetFree l own_m24 (head1 (Jvm.Cond.code own_m24 jdk_33_method_40_code 2 (some .int) :: ws) ({ frames := 0, cells := 0, slots := 0, locals := 0 } : Room)) (fun a U => a = #[(.int p0), (.int p1)] ∧ Z.Warmed39 U.vm ∧ U.heap = h0) (fun _ _ _ _ _ => True) (fun _ U o U' => ∃ v L, o = .returned v ∧ Q_rmIC Z p0 p1 h0 n0 v U'.heap L ∧ FrameEnd U o U' L ({ frames := 0, cells := 0, slots := 0, locals := 0 } : Room).cells ({ frames := 0, cells := 0, slots := 0, locals := 0 } : Room).slots) := by
  refine MetFree.of_bodySF (plainFor_of_name pn_java_lang_Integer) hisR ?_
  intro p e s m args below meth c s₁ Bd hml0 hP hK
  obtain ⟨rfl, hZ, hh⟩ := hP
  have hx := Bd.exec
  have hby := Bd.bytes
  have hml : c.maxLocals = 2 := hml0
  have hown : s.vm.findClass "java/lang/Integer" = some m.cls := findClass_of_methodNamed Bd.named
  have hnm := (name_of_methodNamed Bd.named Bd.method).1
  have hlk := Bd.notSynchronized
  have X0 : Stand p l e ({ frames := 0, cells := 0, slots := 0, locals := 0 } : Room) s m #[(.int p0), (.int p1)] below meth c s₁ [] 0 0 := Stand.of_body Bd
  have e0 : s₁.heap = h0 := by rw [← hh, Bd.state]; rfl
  have N0 := Fr.nil n0
  show own_G p.tables e below s (Q_rmIC Z p0 p1 h0 n0) ({ frames := 0, cells := 0, slots := 0, locals := 0 } : Room).cells ({ frames := 0, cells := 0, slots := 0, locals := 0 } : Room).slots _
  refine own_thr (a := s₁.setTop (mkF m 0 #[.val (.int p0), .val (.int p1)] [])) (fun t kt => castTop (ef_rmIC m p0 p1) kt) ?_
  refine own_thr (a := s₁.setTop (mkF m 2 #[.val (.int p0), .val (.int p1)] [(.int p1), (.int p0)])) (fun t kt => ?_) ?_
  · refine XS.iloadN X0.here hx rfl (hb hby d9_0) rfl ?_
    refine XS.iloadN X0.here hx rfl (hb hby d9_1) rfl ?_
    exact kt
  by_cases hc1 : p0 < p1
  · refine own_thr (a := s₁.setTop (mkF m 19 #[.val (.int p0), .val (.int p1)] [(.int (-1 : Int32))])) (fun t kt => ?_) ?_
    · refine XS.icmpNo X0.here hx rfl (hb hby d9_2) rfl (tlt hc1).2.1 ?_
      refine XS.iconst X0.here hx rfl (hb hby d9_5) ?_
      refine XS.goto X0.here hx rfl (pc0 := 6) (pc' := 19) rfl (hb hby d9_6) (by decide) (by decide) ?_
      exact kt
    exact own_end X0 hlk (v := some (.int (-1 : Int32))) (fun h => by rw [Bd.returns] at h; cases h) (fun fs hr => retI X0 hx Bd.returns (hb hby d9_19) hr) (by rw [e0]; exact ⟨(by rw [f_rmIC, if_pos hc1]), N0, rfl⟩) (by decide : 0 ≤ _) (by decide : 0 ≤ _)
  · refine own_thr (a := s₁.setTop (mkF m 11 #[.val (.int p0), .val (.int p1)] [(.int p1), (.int p0)])) (fun t kt => ?_) ?_
    · refine XS.icmpYes X0.here hx rfl (pc0 := 2) (pc' := 9) rfl (hb hby d9_2) rfl (flt hc1).2.1 (by decide) (by decide) ?_
      refine XS.iloadN X0.here hx rfl (hb hby d9_9) rfl ?_
      refine XS.iloadN X0.here hx rfl (hb hby d9_10) rfl ?_
      exact kt
    by_cases hc2 : p0 = p1
    · refine own_thr (a := s₁.setTop (mkF m 19 #[.val (.int p0), .val (.int p1)] [(.int 0)])) (fun t kt => ?_) ?_
      · refine XS.icmpNo X0.here hx rfl (hb hby d9_11) rfl (teq hc2).2 ?_
        refine XS.iconst X0.here hx rfl (hb hby d9_14) ?_
        refine XS.goto X0.here hx rfl (pc0 := 15) (pc' := 19) rfl (hb hby d9_15) (by decide) (by decide) ?_
        exact kt
      exact own_end X0 hlk (v := some (.int 0)) (fun h => by rw [Bd.returns] at h; cases h) (fun fs hr => retI X0 hx Bd.returns (hb hby d9_19) hr) (by rw [e0]; exact ⟨(by rw [f_rmIC, if_neg hc1, if_pos hc2]), N0, rfl⟩) (by decide : 0 ≤ _) (by decide : 0 ≤ _)
    · refine own_thr (a := s₁.setTop (mkF m 19 #[.val (.int p0), .val (.int p1)] [(.int 1)])) (fun t kt => ?_) ?_
      · refine XS.icmpYes X0.here hx rfl (pc0 := 11) (pc' := 18) rfl (hb hby d9_11) rfl (feq hc2).2 (by decide) (by decide) ?_
        refine XS.iconst X0.here hx rfl (hb hby d9_18) ?_
        exact kt
      exact own_end X0 hlk (v := some (.int 1)) (fun h => by rw [Bd.returns] at h; cases h) (fun fs hr => retI X0 hx Bd.returns (hb hby d9_19) hr) (by rw [e0]; exact ⟨(by rw [f_rmIC, if_neg hc1, if_neg hc2]), N0, rfl⟩) (by decide : 0 ≤ _) (by decide : 0 ≤ _)
theorem d6_0 : decode prog_2_method_2_code 0 = .ok (.iconst 0, 1) := by decide +kernel
theorem d6_1 : decode prog_2_method_2_code 1 = .ok (.istore_n 2, 1) := by decide +kernel
theorem d6_2 : decode prog_2_method_2_code 2 = .ok (.iload_n 2, 1) := by decide +kernel
theorem d6_3 : decode prog_2_method_2_code 3 = .ok (.aload_n 0, 1) := by decide +kernel
theorem pd__28_29I : parseMethodDescriptor "()I" = some ⟨[], some .int⟩ := by decide +kernel
theorem d6_4 : decode prog_2_method_2_code 4 = .ok (.invokevirtual 7, 3) := by decide +kernel
theorem d6_7 : decode prog_2_method_2_code 7 = .ok (.if_icmp .ge 47, 3) := by decide +kernel
theorem d6_54 : decode prog_2_method_2_code 54 = .ok (.aload_n 0, 1) := by decide +kernel
theorem d6_55 : decode prog_2_method_2_code 55 = .ok (.invokevirtual 7, 3) := by decide +kernel
theorem d6_58 : decode prog_2_method_2_code 58 = .ok (.aload_n 1, 1) := by decide +kernel
theorem d6_59 : decode prog_2_method_2_code 59 = .ok (.invokevirtual 7, 3) := by decide +kernel
theorem pd__28II_29I : parseMethodDescriptor "(II)I" = some ⟨[.int, .int], some .int⟩ := by decide +kernel
theorem d6_62 : decode prog_2_method_2_code 62 = .ok (.invokestatic 17, 3) := by decide +kernel
theorem d6_65 : decode prog_2_method_2_code 65 = .ok (.ireturn, 1) := by decide +kernel
theorem pn_com_example_tiphys_tiphys_CodePointOrder : plainName "com/example/tiphys/tiphys/CodePointOrder" = true := by first | (simp [plainName, overriddenIn]; done) | decide +kernel
theorem ef_rmCM00 (m : MethodId) (o0 : Addr) (o1 : Addr)  : entryFrame m #[(.ref o0), (.ref o1)] 5 = mkF m 0 #[.val (.ref o0), .val (.ref o1), .unset, .unset, .unset] [] := by first |  (simp [entryFrame, mkF, argsToLocals, Value.category]; done) | rfl
def f_rmCM00 (o0 : Addr) (o1 : Addr) (cs : Int32) (fm : Value) : Int32 := (f_rmIC (0 : Int32) (0 : Int32))
def Q_rmCM00 (Z : State) (o0 : Addr) (o1 : Addr) (cs : Int32) (fm : Value) (h0 : Heap) (n0 : Nat) (v : Option Value) (h : Heap) (L : List Loc) : Prop := v = some (.int (f_rmCM00 o0 o1 cs fm)) ∧ Fr n0 L ∧ h = h0
theorem rmCM00 (l : Launch) (Z : State) (a0 : Array Value) (hw : ∀ d ∈ tables_1, d.before a0 Z = true) (ws : List Jvm.Cond) (o0 : Addr) (o1 : Addr) (cs : Int32) (fm : Value) (h0 : Heap) (n0 : Nat) (Z0 : n0 ≤ h0.size) (hKs : own_K Z cs fm) (hO : Old Z n0 h0) (UA : own_U0 Z h0 o0) (UB : own_U0 Z h0 o1) :
    MetFree l own_m25 (head1 (Jvm.Cond.code own_m25 prog_2_method_2_code 5 (some .int) :: ws) ({ frames := 2, cells := 0, slots := 0, locals := 26 } : Room)) (fun a U => a = #[(.ref o0), (.ref o1)] ∧ Z.Warmed39 U.vm ∧ U.heap = h0) (fun _ _ _ _ _ => True) (fun _ U o U' => ∃ v L, o = .returned v ∧ Q_rmCM00 Z o0 o1 cs fm h0 n0 v U'.heap L ∧ FrameEnd U o U' L ({ frames := 2, cells := 0, slots := 0, locals := 26 } : Room).cells ({ frames := 2, cells := 0, slots := 0, locals := 26 } : Room).slots) := by
  refine MetFree.of_bodySF (plainFor_of_name pn_com_example_tiphys_tiphys_CodePointOrder) hisR ?_
  intro p e s m args below meth c s₁ Bd hml0 hP hK
  obtain ⟨rfl, hZ, hh⟩ := hP
  have hx := Bd.exec
  have hby := Bd.bytes
  have hml : c.maxLocals = 5 := hml0
  have hown : s.vm.findClass "com/example/tiphys/tiphys/CodePointOrder" = some m.cls := findClass_of_methodNamed Bd.named
  have hnm := (name_of_methodNamed Bd.named Bd.method).1
  have hlk := Bd.notSynchronized
  have X0 : Stand p l e ({ frames := 2, cells := 0, slots := 0, locals := 26 } : Room) s m #[(.ref o0), (.ref o1)] below meth c s₁ [] 0 0 := Stand.of_body Bd
  have e0 : s₁.heap = h0 := by rw [← hh, Bd.state]; rfl
  have N0 := Fr.nil n0
  show own_G p.tables e below s (Q_rmCM00 Z o0 o1 cs fm h0 n0) ({ frames := 2, cells := 0, slots := 0, locals := 26 } : Room).cells ({ frames := 2, cells := 0, slots := 0, locals := 26 } : Room).slots _
  refine own_thr (a := s₁.setTop (mkF m 0 #[.val (.ref o0), .val (.ref o1), .unset, .unset, .unset] [])) (fun t kt => castTop (ef_rmCM00 m o0 o1) kt) ?_
  refine own_thr (a := s₁.setTop (mkF m 4 #[.val (.ref o0), .val (.ref o1), .val (.int 0), .unset, .unset] [(.ref o0), (.int 0)])) (fun t kt => ?_) ?_
  · refine XS.iconst X0.here hx rfl (hb hby d6_0) ?_
    refine XS.istoreN X0.here hx rfl (hb hby d6_1) rfl (l' := #[.val (.ref o0), .val (.ref o1), .val (.int 0), .unset, .unset]) rfl ?_
    refine XS.iloadN X0.here hx rfl (hb hby d6_2) rfl ?_
    refine XS.aloadN X0.here hx rfl (hb hby d6_3) rfl rfl ?_
    exact kt
  obtain ⟨cq1, kq1, q1a, q1b, q1c⟩ := isOf hZ e0 UA.1
  obtain ⟨_, _, ⟨T1, L1, k1, n1⟩, -, X1, ⟨Lc1, hQ1, l1, y1, z1⟩, st1⟩ := X0.virtualBack hx (y := own_m22) (z := own_m22) hown (mvT hZ (hw _ (own_i 37 rfl))) (mvT hZ (hw _ (own_i 38 rfl))) (notFace_of_selects (args := #[]) (mvT hZ (hw _ (own_i 40 rfl)))) (mvT hZ (hw _ (own_i 40 rfl))) (mvT hZ (hw _ (own_i 39 rfl))) (by decide) (backOf (W := 1) (rmLU0 l Z a0 hw [] o0  cs fm h0 n0 Z0 UA hKs hO) hZ (hw _ (own_i 41 rfl)) (hw _ (own_i 13 rfl)) (by decide) (by decide)) q1a q1c (g := (mkF m 4 #[.val (.ref o0), .val (.ref o1), .val (.int 0), .unset, .unset] [(.ref o0), (.int 0)])) rfl (by rw [hml]; rfl) (Steps.refl _) (argsL := []) (rest := [(.int 0)]) (lenOf pd__28_29I rfl) rfl (own_q rfl) (hb hby d6_4) (fun _ _ => ⟨rfl, e0, (by decide : 0 + 0 ≤ _), (by decide : 0 + 0 ≤ _)⟩)
  dsimp only [Pt.U, Pt.locs, Pt.cells, Pt.slots] at X1 l1 y1 z1 st1 hQ1
  obtain ⟨rfl, N1q, e1⟩ := hQ1
  obtain ⟨lc1, X1, N1⟩ := own_pack X1 l1 y1 z1 N0 N1q (C := 0) (S' := 0) rfl rfl
  refine own_thr (a := T1.setTop (mkF m 7 #[.val (.ref o0), .val (.ref o1), .val (.int 0), .unset, .unset] [(.int 0), (.int 0)])) (fun t kt => st1.trans kt) ?_
  refine own_thr (a := T1.setTop (mkF m 55 #[.val (.ref o0), .val (.ref o1), .val (.int 0), .unset, .unset] [(.ref o0)])) (fun t kt => ?_) ?_
  · refine XS.icmpYes X1.here hx rfl (pc0 := 7) (pc' := 54) rfl (hb hby d6_7) rfl (flt (by decide)).2.1 (by decide) (by decide) ?_
    refine XS.aloadN X1.here hx rfl (hb hby d6_54) rfl rfl ?_
    exact kt
  obtain ⟨cq2, kq2, q2a, q2b, q2c⟩ := isOf hZ e1 UA.1
  obtain ⟨_, _, ⟨T2, L2, k2, n2⟩, -, X2, ⟨Lc2, hQ2, l2, y2, z2⟩, st2⟩ := X1.virtualBack hx (y := own_m22) (z := own_m22) hown (mvT hZ (hw _ (own_i 37 rfl))) (mvT hZ (hw _ (own_i 38 rfl))) (notFace_of_selects (args := #[]) (mvT hZ (hw _ (own_i 40 rfl)))) (mvT hZ (hw _ (own_i 40 rfl))) (mvT hZ (hw _ (own_i 39 rfl))) (by decide) (backOf (W := 0) (rmLU0 l Z a0 hw [] o0  cs fm h0 n0 Z0 UA hKs hO) hZ (hw _ (own_i 41 rfl)) (hw _ (own_i 13 rfl)) (by decide) (by decide)) q2a q2c (g := (mkF m 55 #[.val (.ref o0), .val (.ref o1), .val (.int 0), .unset, .unset] [(.ref o0)])) rfl (by rw [hml]; rfl) (Steps.refl _) (argsL := []) (rest := []) (lenOf pd__28_29I rfl) rfl (own_q rfl) (hb hby d6_55) (fun _ _ => ⟨rfl, e1, (by decide : 0 + 0 ≤ _), (by decide : 0 + 0 ≤ _)⟩)
  dsimp only [Pt.U, Pt.locs, Pt.cells, Pt.slots] at X2 l2 y2 z2 st2 hQ2
  obtain ⟨rfl, N2q, e2⟩ := hQ2
  obtain ⟨lc2, X2, N2⟩ := own_pack X2 l2 y2 z2 N1 N2q (C := 0) (S' := 0) rfl rfl
  refine own_thr (a := T2.setTop (mkF m 58 #[.val (.ref o0), .val (.ref o1), .val (.int 0), .unset, .unset] [(.int 0)])) (fun t kt => st2.trans kt) ?_
  refine own_thr (a := T2.setTop (mkF m 59 #[.val (.ref o0), .val (.ref o1), .val (.int 0), .unset, .unset] [(.ref o1), (.int 0)])) (fun t kt => ?_) ?_
  · refine XS.aloadN X2.here hx rfl (hb hby d6_58) rfl rfl ?_
    exact kt
  obtain ⟨cq3, kq3, q3a, q3b, q3c⟩ := isOf hZ e2 UB.1
  obtain ⟨_, _, ⟨T3, L3, k3, n3⟩, -, X3, ⟨Lc3, hQ3, l3, y3, z3⟩, st3⟩ := X2.virtualBack hx (y := own_m22) (z := own_m22) hown (mvT hZ (hw _ (own_i 37 rfl))) (mvT hZ (hw _ (own_i 38 rfl))) (notFace_of_selects (args := #[]) (mvT hZ (hw _ (own_i 40 rfl)))) (mvT hZ (hw _ (own_i 40 rfl))) (mvT hZ (hw _ (own_i 39 rfl))) (by decide) (backOf (W := 1) (rmLU0 l Z a0 hw [] o1  cs fm h0 n0 Z0 UB hKs hO) hZ (hw _ (own_i 41 rfl)) (hw _ (own_i 13 rfl)) (by decide) (by decide)) q3a q3c (g := (mkF m 59 #[.val (.ref o0), .val (.ref o1), .val (.int 0), .unset, .unset] [(.ref o1), (.int 0)])) rfl (by rw [hml]; rfl) (Steps.refl _) (argsL := []) (rest := [(.int 0)]) (lenOf pd__28_29I rfl) rfl (own_q rfl) (hb hby d6_59) (fun _ _ => ⟨rfl, e2, (by decide : 0 + 0 ≤ _), (by decide : 0 + 0 ≤ _)⟩)
  dsimp only [Pt.U, Pt.locs, Pt.cells, Pt.slots] at X3 l3 y3 z3 st3 hQ3
  obtain ⟨rfl, N3q, e3⟩ := hQ3
  obtain ⟨lc3, X3, N3⟩ := own_pack X3 l3 y3 z3 N2 N3q (C := 0) (S' := 0) rfl rfl
  refine own_thr (a := T3.setTop (mkF m 62 #[.val (.ref o0), .val (.ref o1), .val (.int 0), .unset, .unset] [(.int 0), (.int 0)])) (fun t kt => st3.trans kt) ?_
  obtain ⟨_, _, ⟨T4, L4, k4, n4⟩, -, X4, ⟨Lc4, hQ4, l4, y4, z4⟩, st4⟩ := Jvm.LawKit.callS X3 hx (y := own_m24) hown (mvT hZ (hw _ (own_i 48 rfl))) (mvT hZ (hw _ (own_i 49 rfl))) (mvT hZ (hw _ (own_i 50 rfl))) (mvT hZ (hw _ (own_i 51 rfl))) (by decide) (backOf (W := 0) (rmIC l Z a0 hw [] (0 : Int32) (0 : Int32) h0 n0 Z0) hZ (hw _ (own_i 51 rfl)) (hw _ (own_i 50 rfl)) (by decide) (by decide)) (g := (mkF m 62 #[.val (.ref o0), .val (.ref o1), .val (.int 0), .unset, .unset] [(.int 0), (.int 0)])) rfl (by rw [hml]; rfl) (argsL := [(.int 0), (.int 0)]) (rest := []) (lenOf pd__28II_29I rfl) rfl (own_q rfl) (hb hby d6_62) (fun _ _ => ⟨rfl, e3, (by decide : 0 + 0 ≤ _), (by decide : 0 + 0 ≤ _)⟩)
  dsimp only [Pt.U, Pt.locs, Pt.cells, Pt.slots] at X4 l4 y4 z4 st4 hQ4
  obtain ⟨rfl, N4q, e4⟩ := hQ4
  obtain ⟨lc4, X4, N4⟩ := own_pack X4 l4 y4 z4 N3 N4q (C := 0) (S' := 0) rfl rfl
  refine own_thr (a := T4.setTop (mkF m 65 #[.val (.ref o0), .val (.ref o1), .val (.int 0), .unset, .unset] [(.int (f_rmIC (0 : Int32) (0 : Int32)))])) (fun t kt => st4 t kt) ?_
  exact own_end X4 hlk (v := some (.int (f_rmIC (0 : Int32) (0 : Int32)))) (fun h => by rw [Bd.returns] at h; cases h) (fun fs hr => retI X4 hx Bd.returns (hb hby d6_65) hr) (by rw [e4]; exact ⟨(by rw [f_rmCM00]), N4, rfl⟩) (by decide : 0 ≤ _) (by decide : 0 ≤ _)
theorem ef_rmCM01 (m : MethodId) (o0 : Addr) (o1 : Addr)  : entryFrame m #[(.ref o0), (.ref o1)] 5 = mkF m 0 #[.val (.ref o0), .val (.ref o1), .unset, .unset, .unset] [] := by first |  (simp [entryFrame, mkF, argsToLocals, Value.category]; done) | rfl
def f_rmCM01 (o0 : Addr) (o1 : Addr) (w0 : Int32) (cs : Int32) (fm : Value) : Int32 := (f_rmIC (0 : Int32) (1 : Int32))
def Q_rmCM01 (Z : State) (o0 : Addr) (o1 : Addr) (w0 : Int32) (cs : Int32) (fm : Value) (h0 : Heap) (n0 : Nat) (v : Option Value) (h : Heap) (L : List Loc) : Prop := v = some (.int (f_rmCM01 o0 o1 w0 cs fm)) ∧ Fr n0 L ∧ h = h0
theorem rmCM01 (l : Launch) (Z : State) (a0 : Array Value) (hw : ∀ d ∈ tables_1, d.before a0 Z = true) (ws : List Jvm.Cond) (o0 : Addr) (o1 : Addr) (w0 : Int32) (cs : Int32) (fm : Value) (h0 : Heap) (n0 : Nat) (Z0 : n0 ≤ h0.size) (hKs : own_K Z cs fm) (hO : Old Z n0 h0) (UA : own_U0 Z h0 o0) (UB : own_U1 Z h0 o1 w0) (hw0 : own_R w0) :
    MetFree l own_m25 (head1 (Jvm.Cond.code own_m25 prog_2_method_2_code 5 (some .int) :: ws) ({ frames := 2, cells := 0, slots := 0, locals := 26 } : Room)) (fun a U => a = #[(.ref o0), (.ref o1)] ∧ Z.Warmed39 U.vm ∧ U.heap = h0) (fun _ _ _ _ _ => True) (fun _ U o U' => ∃ v L, o = .returned v ∧ Q_rmCM01 Z o0 o1 w0 cs fm h0 n0 v U'.heap L ∧ FrameEnd U o U' L ({ frames := 2, cells := 0, slots := 0, locals := 26 } : Room).cells ({ frames := 2, cells := 0, slots := 0, locals := 26 } : Room).slots) := by
  refine MetFree.of_bodySF (plainFor_of_name pn_com_example_tiphys_tiphys_CodePointOrder) hisR ?_
  intro p e s m args below meth c s₁ Bd hml0 hP hK
  obtain ⟨rfl, hZ, hh⟩ := hP
  have hx := Bd.exec
  have hby := Bd.bytes
  have hml : c.maxLocals = 5 := hml0
  have hown : s.vm.findClass "com/example/tiphys/tiphys/CodePointOrder" = some m.cls := findClass_of_methodNamed Bd.named
  have hnm := (name_of_methodNamed Bd.named Bd.method).1
  have hlk := Bd.notSynchronized
  have X0 : Stand p l e ({ frames := 2, cells := 0, slots := 0, locals := 26 } : Room) s m #[(.ref o0), (.ref o1)] below meth c s₁ [] 0 0 := Stand.of_body Bd
  have e0 : s₁.heap = h0 := by rw [← hh, Bd.state]; rfl
  have N0 := Fr.nil n0
  show own_G p.tables e below s (Q_rmCM01 Z o0 o1 w0 cs fm h0 n0) ({ frames := 2, cells := 0, slots := 0, locals := 26 } : Room).cells ({ frames := 2, cells := 0, slots := 0, locals := 26 } : Room).slots _
  refine own_thr (a := s₁.setTop (mkF m 0 #[.val (.ref o0), .val (.ref o1), .unset, .unset, .unset] [])) (fun t kt => castTop (ef_rmCM01 m o0 o1) kt) ?_
  refine own_thr (a := s₁.setTop (mkF m 4 #[.val (.ref o0), .val (.ref o1), .val (.int 0), .unset, .unset] [(.ref o0), (.int 0)])) (fun t kt => ?_) ?_
  · refine XS.iconst X0.here hx rfl (hb hby d6_0) ?_
    refine XS.istoreN X0.here hx rfl (hb hby d6_1) rfl (l' := #[.val (.ref o0), .val (.ref o1), .val (.int 0), .unset, .unset]) rfl ?_
    refine XS.iloadN X0.here hx rfl (hb hby d6_2) rfl ?_
    refine XS.aloadN X0.here hx rfl (hb hby d6_3) rfl rfl ?_
    exact kt
  obtain ⟨cq1, kq1, q1a, q1b, q1c⟩ := isOf hZ e0 UA.1
  obtain ⟨_, _, ⟨T1, L1, k1, n1⟩, -, X1, ⟨Lc1, hQ1, l1, y1, z1⟩, st1⟩ := X0.virtualBack hx (y := own_m22) (z := own_m22) hown (mvT hZ (hw _ (own_i 37 rfl))) (mvT hZ (hw _ (own_i 38 rfl))) (notFace_of_selects (args := #[]) (mvT hZ (hw _ (own_i 40 rfl)))) (mvT hZ (hw _ (own_i 40 rfl))) (mvT hZ (hw _ (own_i 39 rfl))) (by decide) (backOf (W := 1) (rmLU0 l Z a0 hw [] o0  cs fm h0 n0 Z0 UA hKs hO) hZ (hw _ (own_i 41 rfl)) (hw _ (own_i 13 rfl)) (by decide) (by decide)) q1a q1c (g := (mkF m 4 #[.val (.ref o0), .val (.ref o1), .val (.int 0), .unset, .unset] [(.ref o0), (.int 0)])) rfl (by rw [hml]; rfl) (Steps.refl _) (argsL := []) (rest := [(.int 0)]) (lenOf pd__28_29I rfl) rfl (own_q rfl) (hb hby d6_4) (fun _ _ => ⟨rfl, e0, (by decide : 0 + 0 ≤ _), (by decide : 0 + 0 ≤ _)⟩)
  dsimp only [Pt.U, Pt.locs, Pt.cells, Pt.slots] at X1 l1 y1 z1 st1 hQ1
  obtain ⟨rfl, N1q, e1⟩ := hQ1
  obtain ⟨lc1, X1, N1⟩ := own_pack X1 l1 y1 z1 N0 N1q (C := 0) (S' := 0) rfl rfl
  refine own_thr (a := T1.setTop (mkF m 7 #[.val (.ref o0), .val (.ref o1), .val (.int 0), .unset, .unset] [(.int 0), (.int 0)])) (fun t kt => st1.trans kt) ?_
  refine own_thr (a := T1.setTop (mkF m 55 #[.val (.ref o0), .val (.ref o1), .val (.int 0), .unset, .unset] [(.ref o0)])) (fun t kt => ?_) ?_
  · refine XS.icmpYes X1.here hx rfl (pc0 := 7) (pc' := 54) rfl (hb hby d6_7) rfl (flt (by decide)).2.1 (by decide) (by decide) ?_
    refine XS.aloadN X1.here hx rfl (hb hby d6_54) rfl rfl ?_
    exact kt
  obtain ⟨cq2, kq2, q2a, q2b, q2c⟩ := isOf hZ e1 UA.1
  obtain ⟨_, _, ⟨T2, L2, k2, n2⟩, -, X2, ⟨Lc2, hQ2, l2, y2, z2⟩, st2⟩ := X1.virtualBack hx (y := own_m22) (z := own_m22) hown (mvT hZ (hw _ (own_i 37 rfl))) (mvT hZ (hw _ (own_i 38 rfl))) (notFace_of_selects (args := #[]) (mvT hZ (hw _ (own_i 40 rfl)))) (mvT hZ (hw _ (own_i 40 rfl))) (mvT hZ (hw _ (own_i 39 rfl))) (by decide) (backOf (W := 0) (rmLU0 l Z a0 hw [] o0  cs fm h0 n0 Z0 UA hKs hO) hZ (hw _ (own_i 41 rfl)) (hw _ (own_i 13 rfl)) (by decide) (by decide)) q2a q2c (g := (mkF m 55 #[.val (.ref o0), .val (.ref o1), .val (.int 0), .unset, .unset] [(.ref o0)])) rfl (by rw [hml]; rfl) (Steps.refl _) (argsL := []) (rest := []) (lenOf pd__28_29I rfl) rfl (own_q rfl) (hb hby d6_55) (fun _ _ => ⟨rfl, e1, (by decide : 0 + 0 ≤ _), (by decide : 0 + 0 ≤ _)⟩)
  dsimp only [Pt.U, Pt.locs, Pt.cells, Pt.slots] at X2 l2 y2 z2 st2 hQ2
  obtain ⟨rfl, N2q, e2⟩ := hQ2
  obtain ⟨lc2, X2, N2⟩ := own_pack X2 l2 y2 z2 N1 N2q (C := 0) (S' := 0) rfl rfl
  refine own_thr (a := T2.setTop (mkF m 58 #[.val (.ref o0), .val (.ref o1), .val (.int 0), .unset, .unset] [(.int 0)])) (fun t kt => st2.trans kt) ?_
  refine own_thr (a := T2.setTop (mkF m 59 #[.val (.ref o0), .val (.ref o1), .val (.int 0), .unset, .unset] [(.ref o1), (.int 0)])) (fun t kt => ?_) ?_
  · refine XS.aloadN X2.here hx rfl (hb hby d6_58) rfl rfl ?_
    exact kt
  obtain ⟨cq3, kq3, q3a, q3b, q3c⟩ := isOf hZ e2 UB.1
  obtain ⟨_, _, ⟨T3, L3, k3, n3⟩, -, X3, ⟨Lc3, hQ3, l3, y3, z3⟩, st3⟩ := X2.virtualBack hx (y := own_m22) (z := own_m22) hown (mvT hZ (hw _ (own_i 37 rfl))) (mvT hZ (hw _ (own_i 38 rfl))) (notFace_of_selects (args := #[]) (mvT hZ (hw _ (own_i 40 rfl)))) (mvT hZ (hw _ (own_i 40 rfl))) (mvT hZ (hw _ (own_i 39 rfl))) (by decide) (backOf (W := 1) (rmLU1 l Z a0 hw [] o1 w0 cs fm h0 n0 Z0 UB hKs hO) hZ (hw _ (own_i 41 rfl)) (hw _ (own_i 13 rfl)) (by decide) (by decide)) q3a q3c (g := (mkF m 59 #[.val (.ref o0), .val (.ref o1), .val (.int 0), .unset, .unset] [(.ref o1), (.int 0)])) rfl (by rw [hml]; rfl) (Steps.refl _) (argsL := []) (rest := [(.int 0)]) (lenOf pd__28_29I rfl) rfl (own_q rfl) (hb hby d6_59) (fun _ _ => ⟨rfl, e2, (by decide : 0 + 0 ≤ _), (by decide : 0 + 0 ≤ _)⟩)
  dsimp only [Pt.U, Pt.locs, Pt.cells, Pt.slots] at X3 l3 y3 z3 st3 hQ3
  obtain ⟨rfl, N3q, e3⟩ := hQ3
  obtain ⟨lc3, X3, N3⟩ := own_pack X3 l3 y3 z3 N2 N3q (C := 0) (S' := 0) rfl rfl
  refine own_thr (a := T3.setTop (mkF m 62 #[.val (.ref o0), .val (.ref o1), .val (.int 0), .unset, .unset] [(.int 1), (.int 0)])) (fun t kt => st3.trans kt) ?_
  obtain ⟨_, _, ⟨T4, L4, k4, n4⟩, -, X4, ⟨Lc4, hQ4, l4, y4, z4⟩, st4⟩ := Jvm.LawKit.callS X3 hx (y := own_m24) hown (mvT hZ (hw _ (own_i 48 rfl))) (mvT hZ (hw _ (own_i 49 rfl))) (mvT hZ (hw _ (own_i 50 rfl))) (mvT hZ (hw _ (own_i 51 rfl))) (by decide) (backOf (W := 0) (rmIC l Z a0 hw [] (0 : Int32) (1 : Int32) h0 n0 Z0) hZ (hw _ (own_i 51 rfl)) (hw _ (own_i 50 rfl)) (by decide) (by decide)) (g := (mkF m 62 #[.val (.ref o0), .val (.ref o1), .val (.int 0), .unset, .unset] [(.int 1), (.int 0)])) rfl (by rw [hml]; rfl) (argsL := [(.int 0), (.int 1)]) (rest := []) (lenOf pd__28II_29I rfl) rfl (own_q rfl) (hb hby d6_62) (fun _ _ => ⟨rfl, e3, (by decide : 0 + 0 ≤ _), (by decide : 0 + 0 ≤ _)⟩)
  dsimp only [Pt.U, Pt.locs, Pt.cells, Pt.slots] at X4 l4 y4 z4 st4 hQ4
  obtain ⟨rfl, N4q, e4⟩ := hQ4
  obtain ⟨lc4, X4, N4⟩ := own_pack X4 l4 y4 z4 N3 N4q (C := 0) (S' := 0) rfl rfl
  refine own_thr (a := T4.setTop (mkF m 65 #[.val (.ref o0), .val (.ref o1), .val (.int 0), .unset, .unset] [(.int (f_rmIC (0 : Int32) (1 : Int32)))])) (fun t kt => st4 t kt) ?_
  exact own_end X4 hlk (v := some (.int (f_rmIC (0 : Int32) (1 : Int32)))) (fun h => by rw [Bd.returns] at h; cases h) (fun fs hr => retI X4 hx Bd.returns (hb hby d6_65) hr) (by rw [e4]; exact ⟨(by rw [f_rmCM01]), N4, rfl⟩) (by decide : 0 ≤ _) (by decide : 0 ≤ _)
theorem ef_rmCM02 (m : MethodId) (o0 : Addr) (o1 : Addr)  : entryFrame m #[(.ref o0), (.ref o1)] 5 = mkF m 0 #[.val (.ref o0), .val (.ref o1), .unset, .unset, .unset] [] := by first |  (simp [entryFrame, mkF, argsToLocals, Value.category]; done) | rfl
def f_rmCM02 (o0 : Addr) (o1 : Addr) (w0 : Int32) (w1 : Int32) (cs : Int32) (fm : Value) : Int32 := (f_rmIC (0 : Int32) (2 : Int32))
def Q_rmCM02 (Z : State) (o0 : Addr) (o1 : Addr) (w0 : Int32) (w1 : Int32) (cs : Int32) (fm : Value) (h0 : Heap) (n0 : Nat) (v : Option Value) (h : Heap) (L : List Loc) : Prop := v = some (.int (f_rmCM02 o0 o1 w0 w1 cs fm)) ∧ Fr n0 L ∧ h = h0
theorem rmCM02 (l : Launch) (Z : State) (a0 : Array Value) (hw : ∀ d ∈ tables_1, d.before a0 Z = true) (ws : List Jvm.Cond) (o0 : Addr) (o1 : Addr) (w0 : Int32) (w1 : Int32) (cs : Int32) (fm : Value) (h0 : Heap) (n0 : Nat) (Z0 : n0 ≤ h0.size) (hKs : own_K Z cs fm) (hO : Old Z n0 h0) (UA : own_U0 Z h0 o0) (UB : own_U2 Z h0 o1 w0 w1) (hw0 : own_R w0) (hw1 : own_R w1) :
    MetFree l own_m25 (head1 (Jvm.Cond.code own_m25 prog_2_method_2_code 5 (some .int) :: ws) ({ frames := 2, cells := 0, slots := 0, locals := 26 } : Room)) (fun a U => a = #[(.ref o0), (.ref o1)] ∧ Z.Warmed39 U.vm ∧ U.heap = h0) (fun _ _ _ _ _ => True) (fun _ U o U' => ∃ v L, o = .returned v ∧ Q_rmCM02 Z o0 o1 w0 w1 cs fm h0 n0 v U'.heap L ∧ FrameEnd U o U' L ({ frames := 2, cells := 0, slots := 0, locals := 26 } : Room).cells ({ frames := 2, cells := 0, slots := 0, locals := 26 } : Room).slots) := by
  refine MetFree.of_bodySF (plainFor_of_name pn_com_example_tiphys_tiphys_CodePointOrder) hisR ?_
  intro p e s m args below meth c s₁ Bd hml0 hP hK
  obtain ⟨rfl, hZ, hh⟩ := hP
  have hx := Bd.exec
  have hby := Bd.bytes
  have hml : c.maxLocals = 5 := hml0
  have hown : s.vm.findClass "com/example/tiphys/tiphys/CodePointOrder" = some m.cls := findClass_of_methodNamed Bd.named
  have hnm := (name_of_methodNamed Bd.named Bd.method).1
  have hlk := Bd.notSynchronized
  have X0 : Stand p l e ({ frames := 2, cells := 0, slots := 0, locals := 26 } : Room) s m #[(.ref o0), (.ref o1)] below meth c s₁ [] 0 0 := Stand.of_body Bd
  have e0 : s₁.heap = h0 := by rw [← hh, Bd.state]; rfl
  have N0 := Fr.nil n0
  show own_G p.tables e below s (Q_rmCM02 Z o0 o1 w0 w1 cs fm h0 n0) ({ frames := 2, cells := 0, slots := 0, locals := 26 } : Room).cells ({ frames := 2, cells := 0, slots := 0, locals := 26 } : Room).slots _
  refine own_thr (a := s₁.setTop (mkF m 0 #[.val (.ref o0), .val (.ref o1), .unset, .unset, .unset] [])) (fun t kt => castTop (ef_rmCM02 m o0 o1) kt) ?_
  refine own_thr (a := s₁.setTop (mkF m 4 #[.val (.ref o0), .val (.ref o1), .val (.int 0), .unset, .unset] [(.ref o0), (.int 0)])) (fun t kt => ?_) ?_
  · refine XS.iconst X0.here hx rfl (hb hby d6_0) ?_
    refine XS.istoreN X0.here hx rfl (hb hby d6_1) rfl (l' := #[.val (.ref o0), .val (.ref o1), .val (.int 0), .unset, .unset]) rfl ?_
    refine XS.iloadN X0.here hx rfl (hb hby d6_2) rfl ?_
    refine XS.aloadN X0.here hx rfl (hb hby d6_3) rfl rfl ?_
    exact kt
  obtain ⟨cq1, kq1, q1a, q1b, q1c⟩ := isOf hZ e0 UA.1
  obtain ⟨_, _, ⟨T1, L1, k1, n1⟩, -, X1, ⟨Lc1, hQ1, l1, y1, z1⟩, st1⟩ := X0.virtualBack hx (y := own_m22) (z := own_m22) hown (mvT hZ (hw _ (own_i 37 rfl))) (mvT hZ (hw _ (own_i 38 rfl))) (notFace_of_selects (args := #[]) (mvT hZ (hw _ (own_i 40 rfl)))) (mvT hZ (hw _ (own_i 40 rfl))) (mvT hZ (hw _ (own_i 39 rfl))) (by decide) (backOf (W := 1) (rmLU0 l Z a0 hw [] o0  cs fm h0 n0 Z0 UA hKs hO) hZ (hw _ (own_i 41 rfl)) (hw _ (own_i 13 rfl)) (by decide) (by decide)) q1a q1c (g := (mkF m 4 #[.val (.ref o0), .val (.ref o1), .val (.int 0), .unset, .unset] [(.ref o0), (.int 0)])) rfl (by rw [hml]; rfl) (Steps.refl _) (argsL := []) (rest := [(.int 0)]) (lenOf pd__28_29I rfl) rfl (own_q rfl) (hb hby d6_4) (fun _ _ => ⟨rfl, e0, (by decide : 0 + 0 ≤ _), (by decide : 0 + 0 ≤ _)⟩)
  dsimp only [Pt.U, Pt.locs, Pt.cells, Pt.slots] at X1 l1 y1 z1 st1 hQ1
  obtain ⟨rfl, N1q, e1⟩ := hQ1
  obtain ⟨lc1, X1, N1⟩ := own_pack X1 l1 y1 z1 N0 N1q (C := 0) (S' := 0) rfl rfl
  refine own_thr (a := T1.setTop (mkF m 7 #[.val (.ref o0), .val (.ref o1), .val (.int 0), .unset, .unset] [(.int 0), (.int 0)])) (fun t kt => st1.trans kt) ?_
  refine own_thr (a := T1.setTop (mkF m 55 #[.val (.ref o0), .val (.ref o1), .val (.int 0), .unset, .unset] [(.ref o0)])) (fun t kt => ?_) ?_
  · refine XS.icmpYes X1.here hx rfl (pc0 := 7) (pc' := 54) rfl (hb hby d6_7) rfl (flt (by decide)).2.1 (by decide) (by decide) ?_
    refine XS.aloadN X1.here hx rfl (hb hby d6_54) rfl rfl ?_
    exact kt
  obtain ⟨cq2, kq2, q2a, q2b, q2c⟩ := isOf hZ e1 UA.1
  obtain ⟨_, _, ⟨T2, L2, k2, n2⟩, -, X2, ⟨Lc2, hQ2, l2, y2, z2⟩, st2⟩ := X1.virtualBack hx (y := own_m22) (z := own_m22) hown (mvT hZ (hw _ (own_i 37 rfl))) (mvT hZ (hw _ (own_i 38 rfl))) (notFace_of_selects (args := #[]) (mvT hZ (hw _ (own_i 40 rfl)))) (mvT hZ (hw _ (own_i 40 rfl))) (mvT hZ (hw _ (own_i 39 rfl))) (by decide) (backOf (W := 0) (rmLU0 l Z a0 hw [] o0  cs fm h0 n0 Z0 UA hKs hO) hZ (hw _ (own_i 41 rfl)) (hw _ (own_i 13 rfl)) (by decide) (by decide)) q2a q2c (g := (mkF m 55 #[.val (.ref o0), .val (.ref o1), .val (.int 0), .unset, .unset] [(.ref o0)])) rfl (by rw [hml]; rfl) (Steps.refl _) (argsL := []) (rest := []) (lenOf pd__28_29I rfl) rfl (own_q rfl) (hb hby d6_55) (fun _ _ => ⟨rfl, e1, (by decide : 0 + 0 ≤ _), (by decide : 0 + 0 ≤ _)⟩)
  dsimp only [Pt.U, Pt.locs, Pt.cells, Pt.slots] at X2 l2 y2 z2 st2 hQ2
  obtain ⟨rfl, N2q, e2⟩ := hQ2
  obtain ⟨lc2, X2, N2⟩ := own_pack X2 l2 y2 z2 N1 N2q (C := 0) (S' := 0) rfl rfl
  refine own_thr (a := T2.setTop (mkF m 58 #[.val (.ref o0), .val (.ref o1), .val (.int 0), .unset, .unset] [(.int 0)])) (fun t kt => st2.trans kt) ?_
  refine own_thr (a := T2.setTop (mkF m 59 #[.val (.ref o0), .val (.ref o1), .val (.int 0), .unset, .unset] [(.ref o1), (.int 0)])) (fun t kt => ?_) ?_
  · refine XS.aloadN X2.here hx rfl (hb hby d6_58) rfl rfl ?_
    exact kt
  obtain ⟨cq3, kq3, q3a, q3b, q3c⟩ := isOf hZ e2 UB.1
  obtain ⟨_, _, ⟨T3, L3, k3, n3⟩, -, X3, ⟨Lc3, hQ3, l3, y3, z3⟩, st3⟩ := X2.virtualBack hx (y := own_m22) (z := own_m22) hown (mvT hZ (hw _ (own_i 37 rfl))) (mvT hZ (hw _ (own_i 38 rfl))) (notFace_of_selects (args := #[]) (mvT hZ (hw _ (own_i 40 rfl)))) (mvT hZ (hw _ (own_i 40 rfl))) (mvT hZ (hw _ (own_i 39 rfl))) (by decide) (backOf (W := 1) (rmLU2 l Z a0 hw [] o1 w0 w1 cs fm h0 n0 Z0 UB hKs hO) hZ (hw _ (own_i 41 rfl)) (hw _ (own_i 13 rfl)) (by decide) (by decide)) q3a q3c (g := (mkF m 59 #[.val (.ref o0), .val (.ref o1), .val (.int 0), .unset, .unset] [(.ref o1), (.int 0)])) rfl (by rw [hml]; rfl) (Steps.refl _) (argsL := []) (rest := [(.int 0)]) (lenOf pd__28_29I rfl) rfl (own_q rfl) (hb hby d6_59) (fun _ _ => ⟨rfl, e2, (by decide : 0 + 0 ≤ _), (by decide : 0 + 0 ≤ _)⟩)
  dsimp only [Pt.U, Pt.locs, Pt.cells, Pt.slots] at X3 l3 y3 z3 st3 hQ3
  obtain ⟨rfl, N3q, e3⟩ := hQ3
  obtain ⟨lc3, X3, N3⟩ := own_pack X3 l3 y3 z3 N2 N3q (C := 0) (S' := 0) rfl rfl
  refine own_thr (a := T3.setTop (mkF m 62 #[.val (.ref o0), .val (.ref o1), .val (.int 0), .unset, .unset] [(.int 2), (.int 0)])) (fun t kt => st3.trans kt) ?_
  obtain ⟨_, _, ⟨T4, L4, k4, n4⟩, -, X4, ⟨Lc4, hQ4, l4, y4, z4⟩, st4⟩ := Jvm.LawKit.callS X3 hx (y := own_m24) hown (mvT hZ (hw _ (own_i 48 rfl))) (mvT hZ (hw _ (own_i 49 rfl))) (mvT hZ (hw _ (own_i 50 rfl))) (mvT hZ (hw _ (own_i 51 rfl))) (by decide) (backOf (W := 0) (rmIC l Z a0 hw [] (0 : Int32) (2 : Int32) h0 n0 Z0) hZ (hw _ (own_i 51 rfl)) (hw _ (own_i 50 rfl)) (by decide) (by decide)) (g := (mkF m 62 #[.val (.ref o0), .val (.ref o1), .val (.int 0), .unset, .unset] [(.int 2), (.int 0)])) rfl (by rw [hml]; rfl) (argsL := [(.int 0), (.int 2)]) (rest := []) (lenOf pd__28II_29I rfl) rfl (own_q rfl) (hb hby d6_62) (fun _ _ => ⟨rfl, e3, (by decide : 0 + 0 ≤ _), (by decide : 0 + 0 ≤ _)⟩)
  dsimp only [Pt.U, Pt.locs, Pt.cells, Pt.slots] at X4 l4 y4 z4 st4 hQ4
  obtain ⟨rfl, N4q, e4⟩ := hQ4
  obtain ⟨lc4, X4, N4⟩ := own_pack X4 l4 y4 z4 N3 N4q (C := 0) (S' := 0) rfl rfl
  refine own_thr (a := T4.setTop (mkF m 65 #[.val (.ref o0), .val (.ref o1), .val (.int 0), .unset, .unset] [(.int (f_rmIC (0 : Int32) (2 : Int32)))])) (fun t kt => st4 t kt) ?_
  exact own_end X4 hlk (v := some (.int (f_rmIC (0 : Int32) (2 : Int32)))) (fun h => by rw [Bd.returns] at h; cases h) (fun fs hr => retI X4 hx Bd.returns (hb hby d6_65) hr) (by rw [e4]; exact ⟨(by rw [f_rmCM02]), N4, rfl⟩) (by decide : 0 ≤ _) (by decide : 0 ≤ _)
theorem d6_10 : decode prog_2_method_2_code 10 = .ok (.iload_n 2, 1) := by decide +kernel
theorem d6_11 : decode prog_2_method_2_code 11 = .ok (.aload_n 1, 1) := by decide +kernel
theorem d6_12 : decode prog_2_method_2_code 12 = .ok (.invokevirtual 7, 3) := by decide +kernel
theorem d6_15 : decode prog_2_method_2_code 15 = .ok (.if_icmp .ge 39, 3) := by decide +kernel
theorem ef_rmCM10 (m : MethodId) (o0 : Addr) (o1 : Addr)  : entryFrame m #[(.ref o0), (.ref o1)] 5 = mkF m 0 #[.val (.ref o0), .val (.ref o1), .unset, .unset, .unset] [] := by first |  (simp [entryFrame, mkF, argsToLocals, Value.category]; done) | rfl
def f_rmCM10 (o0 : Addr) (o1 : Addr) (x0 : Int32) (cs : Int32) (fm : Value) : Int32 := (f_rmIC (1 : Int32) (0 : Int32))
def Q_rmCM10 (Z : State) (o0 : Addr) (o1 : Addr) (x0 : Int32) (cs : Int32) (fm : Value) (h0 : Heap) (n0 : Nat) (v : Option Value) (h : Heap) (L : List Loc) : Prop := v = some (.int (f_rmCM10 o0 o1 x0 cs fm)) ∧ Fr n0 L ∧ h = h0
theorem rmCM10 (l : Launch) (Z : State) (a0 : Array Value) (hw : ∀ d ∈ tables_1, d.before a0 Z = true) (ws : List Jvm.Cond) (o0 : Addr) (o1 : Addr) (x0 : Int32) (cs : Int32) (fm : Value) (h0 : Heap) (n0 : Nat) (Z0 : n0 ≤ h0.size) (hKs : own_K Z cs fm) (hO : Old Z n0 h0) (UA : own_U1 Z h0 o0 x0) (UB : own_U0 Z h0 o1) (hx0 : own_R x0) :
    MetFree l own_m25 (head1 (Jvm.Cond.code own_m25 prog_2_method_2_code 5 (some .int) :: ws) ({ frames := 2, cells := 0, slots := 0, locals := 26 } : Room)) (fun a U => a = #[(.ref o0), (.ref o1)] ∧ Z.Warmed39 U.vm ∧ U.heap = h0) (fun _ _ _ _ _ => True) (fun _ U o U' => ∃ v L, o = .returned v ∧ Q_rmCM10 Z o0 o1 x0 cs fm h0 n0 v U'.heap L ∧ FrameEnd U o U' L ({ frames := 2, cells := 0, slots := 0, locals := 26 } : Room).cells ({ frames := 2, cells := 0, slots := 0, locals := 26 } : Room).slots) := by
  refine MetFree.of_bodySF (plainFor_of_name pn_com_example_tiphys_tiphys_CodePointOrder) hisR ?_
  intro p e s m args below meth c s₁ Bd hml0 hP hK
  obtain ⟨rfl, hZ, hh⟩ := hP
  have hx := Bd.exec
  have hby := Bd.bytes
  have hml : c.maxLocals = 5 := hml0
  have hown : s.vm.findClass "com/example/tiphys/tiphys/CodePointOrder" = some m.cls := findClass_of_methodNamed Bd.named
  have hnm := (name_of_methodNamed Bd.named Bd.method).1
  have hlk := Bd.notSynchronized
  have X0 : Stand p l e ({ frames := 2, cells := 0, slots := 0, locals := 26 } : Room) s m #[(.ref o0), (.ref o1)] below meth c s₁ [] 0 0 := Stand.of_body Bd
  have e0 : s₁.heap = h0 := by rw [← hh, Bd.state]; rfl
  have N0 := Fr.nil n0
  show own_G p.tables e below s (Q_rmCM10 Z o0 o1 x0 cs fm h0 n0) ({ frames := 2, cells := 0, slots := 0, locals := 26 } : Room).cells ({ frames := 2, cells := 0, slots := 0, locals := 26 } : Room).slots _
  refine own_thr (a := s₁.setTop (mkF m 0 #[.val (.ref o0), .val (.ref o1), .unset, .unset, .unset] [])) (fun t kt => castTop (ef_rmCM10 m o0 o1) kt) ?_
  refine own_thr (a := s₁.setTop (mkF m 4 #[.val (.ref o0), .val (.ref o1), .val (.int 0), .unset, .unset] [(.ref o0), (.int 0)])) (fun t kt => ?_) ?_
  · refine XS.iconst X0.here hx rfl (hb hby d6_0) ?_
    refine XS.istoreN X0.here hx rfl (hb hby d6_1) rfl (l' := #[.val (.ref o0), .val (.ref o1), .val (.int 0), .unset, .unset]) rfl ?_
    refine XS.iloadN X0.here hx rfl (hb hby d6_2) rfl ?_
    refine XS.aloadN X0.here hx rfl (hb hby d6_3) rfl rfl ?_
    exact kt
  obtain ⟨cq1, kq1, q1a, q1b, q1c⟩ := isOf hZ e0 UA.1
  obtain ⟨_, _, ⟨T1, L1, k1, n1⟩, -, X1, ⟨Lc1, hQ1, l1, y1, z1⟩, st1⟩ := X0.virtualBack hx (y := own_m22) (z := own_m22) hown (mvT hZ (hw _ (own_i 37 rfl))) (mvT hZ (hw _ (own_i 38 rfl))) (notFace_of_selects (args := #[]) (mvT hZ (hw _ (own_i 40 rfl)))) (mvT hZ (hw _ (own_i 40 rfl))) (mvT hZ (hw _ (own_i 39 rfl))) (by decide) (backOf (W := 1) (rmLU1 l Z a0 hw [] o0 x0 cs fm h0 n0 Z0 UA hKs hO) hZ (hw _ (own_i 41 rfl)) (hw _ (own_i 13 rfl)) (by decide) (by decide)) q1a q1c (g := (mkF m 4 #[.val (.ref o0), .val (.ref o1), .val (.int 0), .unset, .unset] [(.ref o0), (.int 0)])) rfl (by rw [hml]; rfl) (Steps.refl _) (argsL := []) (rest := [(.int 0)]) (lenOf pd__28_29I rfl) rfl (own_q rfl) (hb hby d6_4) (fun _ _ => ⟨rfl, e0, (by decide : 0 + 0 ≤ _), (by decide : 0 + 0 ≤ _)⟩)
  dsimp only [Pt.U, Pt.locs, Pt.cells, Pt.slots] at X1 l1 y1 z1 st1 hQ1
  obtain ⟨rfl, N1q, e1⟩ := hQ1
  obtain ⟨lc1, X1, N1⟩ := own_pack X1 l1 y1 z1 N0 N1q (C := 0) (S' := 0) rfl rfl
  refine own_thr (a := T1.setTop (mkF m 7 #[.val (.ref o0), .val (.ref o1), .val (.int 0), .unset, .unset] [(.int 1), (.int 0)])) (fun t kt => st1.trans kt) ?_
  refine own_thr (a := T1.setTop (mkF m 12 #[.val (.ref o0), .val (.ref o1), .val (.int 0), .unset, .unset] [(.ref o1), (.int 0)])) (fun t kt => ?_) ?_
  · refine XS.icmpNo X1.here hx rfl (hb hby d6_7) rfl (tlt (by decide)).2.1 ?_
    refine XS.iloadN X1.here hx rfl (hb hby d6_10) rfl ?_
    refine XS.aloadN X1.here hx rfl (hb hby d6_11) rfl rfl ?_
    exact kt
  obtain ⟨cq2, kq2, q2a, q2b, q2c⟩ := isOf hZ e1 UB.1
  obtain ⟨_, _, ⟨T2, L2, k2, n2⟩, -, X2, ⟨Lc2, hQ2, l2, y2, z2⟩, st2⟩ := X1.virtualBack hx (y := own_m22) (z := own_m22) hown (mvT hZ (hw _ (own_i 37 rfl))) (mvT hZ (hw _ (own_i 38 rfl))) (notFace_of_selects (args := #[]) (mvT hZ (hw _ (own_i 40 rfl)))) (mvT hZ (hw _ (own_i 40 rfl))) (mvT hZ (hw _ (own_i 39 rfl))) (by decide) (backOf (W := 1) (rmLU0 l Z a0 hw [] o1  cs fm h0 n0 Z0 UB hKs hO) hZ (hw _ (own_i 41 rfl)) (hw _ (own_i 13 rfl)) (by decide) (by decide)) q2a q2c (g := (mkF m 12 #[.val (.ref o0), .val (.ref o1), .val (.int 0), .unset, .unset] [(.ref o1), (.int 0)])) rfl (by rw [hml]; rfl) (Steps.refl _) (argsL := []) (rest := [(.int 0)]) (lenOf pd__28_29I rfl) rfl (own_q rfl) (hb hby d6_12) (fun _ _ => ⟨rfl, e1, (by decide : 0 + 0 ≤ _), (by decide : 0 + 0 ≤ _)⟩)
  dsimp only [Pt.U, Pt.locs, Pt.cells, Pt.slots] at X2 l2 y2 z2 st2 hQ2
  obtain ⟨rfl, N2q, e2⟩ := hQ2
  obtain ⟨lc2, X2, N2⟩ := own_pack X2 l2 y2 z2 N1 N2q (C := 0) (S' := 0) rfl rfl
  refine own_thr (a := T2.setTop (mkF m 15 #[.val (.ref o0), .val (.ref o1), .val (.int 0), .unset, .unset] [(.int 0), (.int 0)])) (fun t kt => st2.trans kt) ?_
  refine own_thr (a := T2.setTop (mkF m 55 #[.val (.ref o0), .val (.ref o1), .val (.int 0), .unset, .unset] [(.ref o0)])) (fun t kt => ?_) ?_
  · refine XS.icmpYes X2.here hx rfl (pc0 := 15) (pc' := 54) rfl (hb hby d6_15) rfl (flt (by decide)).2.1 (by decide) (by decide) ?_
    refine XS.aloadN X2.here hx rfl (hb hby d6_54) rfl rfl ?_
    exact kt
  obtain ⟨cq3, kq3, q3a, q3b, q3c⟩ := isOf hZ e2 UA.1
  obtain ⟨_, _, ⟨T3, L3, k3, n3⟩, -, X3, ⟨Lc3, hQ3, l3, y3, z3⟩, st3⟩ := X2.virtualBack hx (y := own_m22) (z := own_m22) hown (mvT hZ (hw _ (own_i 37 rfl))) (mvT hZ (hw _ (own_i 38 rfl))) (notFace_of_selects (args := #[]) (mvT hZ (hw _ (own_i 40 rfl)))) (mvT hZ (hw _ (own_i 40 rfl))) (mvT hZ (hw _ (own_i 39 rfl))) (by decide) (backOf (W := 0) (rmLU1 l Z a0 hw [] o0 x0 cs fm h0 n0 Z0 UA hKs hO) hZ (hw _ (own_i 41 rfl)) (hw _ (own_i 13 rfl)) (by decide) (by decide)) q3a q3c (g := (mkF m 55 #[.val (.ref o0), .val (.ref o1), .val (.int 0), .unset, .unset] [(.ref o0)])) rfl (by rw [hml]; rfl) (Steps.refl _) (argsL := []) (rest := []) (lenOf pd__28_29I rfl) rfl (own_q rfl) (hb hby d6_55) (fun _ _ => ⟨rfl, e2, (by decide : 0 + 0 ≤ _), (by decide : 0 + 0 ≤ _)⟩)
  dsimp only [Pt.U, Pt.locs, Pt.cells, Pt.slots] at X3 l3 y3 z3 st3 hQ3
  obtain ⟨rfl, N3q, e3⟩ := hQ3
  obtain ⟨lc3, X3, N3⟩ := own_pack X3 l3 y3 z3 N2 N3q (C := 0) (S' := 0) rfl rfl
  refine own_thr (a := T3.setTop (mkF m 58 #[.val (.ref o0), .val (.ref o1), .val (.int 0), .unset, .unset] [(.int 1)])) (fun t kt => st3.trans kt) ?_
  refine own_thr (a := T3.setTop (mkF m 59 #[.val (.ref o0), .val (.ref o1), .val (.int 0), .unset, .unset] [(.ref o1), (.int 1)])) (fun t kt => ?_) ?_
  · refine XS.aloadN X3.here hx rfl (hb hby d6_58) rfl rfl ?_
    exact kt
  obtain ⟨cq4, kq4, q4a, q4b, q4c⟩ := isOf hZ e3 UB.1
  obtain ⟨_, _, ⟨T4, L4, k4, n4⟩, -, X4, ⟨Lc4, hQ4, l4, y4, z4⟩, st4⟩ := X3.virtualBack hx (y := own_m22) (z := own_m22) hown (mvT hZ (hw _ (own_i 37 rfl))) (mvT hZ (hw _ (own_i 38 rfl))) (notFace_of_selects (args := #[]) (mvT hZ (hw _ (own_i 40 rfl)))) (mvT hZ (hw _ (own_i 40 rfl))) (mvT hZ (hw _ (own_i 39 rfl))) (by decide) (backOf (W := 1) (rmLU0 l Z a0 hw [] o1  cs fm h0 n0 Z0 UB hKs hO) hZ (hw _ (own_i 41 rfl)) (hw _ (own_i 13 rfl)) (by decide) (by decide)) q4a q4c (g := (mkF m 59 #[.val (.ref o0), .val (.ref o1), .val (.int 0), .unset, .unset] [(.ref o1), (.int 1)])) rfl (by rw [hml]; rfl) (Steps.refl _) (argsL := []) (rest := [(.int 1)]) (lenOf pd__28_29I rfl) rfl (own_q rfl) (hb hby d6_59) (fun _ _ => ⟨rfl, e3, (by decide : 0 + 0 ≤ _), (by decide : 0 + 0 ≤ _)⟩)
  dsimp only [Pt.U, Pt.locs, Pt.cells, Pt.slots] at X4 l4 y4 z4 st4 hQ4
  obtain ⟨rfl, N4q, e4⟩ := hQ4
  obtain ⟨lc4, X4, N4⟩ := own_pack X4 l4 y4 z4 N3 N4q (C := 0) (S' := 0) rfl rfl
  refine own_thr (a := T4.setTop (mkF m 62 #[.val (.ref o0), .val (.ref o1), .val (.int 0), .unset, .unset] [(.int 0), (.int 1)])) (fun t kt => st4.trans kt) ?_
  obtain ⟨_, _, ⟨T5, L5, k5, n5⟩, -, X5, ⟨Lc5, hQ5, l5, y5, z5⟩, st5⟩ := Jvm.LawKit.callS X4 hx (y := own_m24) hown (mvT hZ (hw _ (own_i 48 rfl))) (mvT hZ (hw _ (own_i 49 rfl))) (mvT hZ (hw _ (own_i 50 rfl))) (mvT hZ (hw _ (own_i 51 rfl))) (by decide) (backOf (W := 0) (rmIC l Z a0 hw [] (1 : Int32) (0 : Int32) h0 n0 Z0) hZ (hw _ (own_i 51 rfl)) (hw _ (own_i 50 rfl)) (by decide) (by decide)) (g := (mkF m 62 #[.val (.ref o0), .val (.ref o1), .val (.int 0), .unset, .unset] [(.int 0), (.int 1)])) rfl (by rw [hml]; rfl) (argsL := [(.int 1), (.int 0)]) (rest := []) (lenOf pd__28II_29I rfl) rfl (own_q rfl) (hb hby d6_62) (fun _ _ => ⟨rfl, e4, (by decide : 0 + 0 ≤ _), (by decide : 0 + 0 ≤ _)⟩)
  dsimp only [Pt.U, Pt.locs, Pt.cells, Pt.slots] at X5 l5 y5 z5 st5 hQ5
  obtain ⟨rfl, N5q, e5⟩ := hQ5
  obtain ⟨lc5, X5, N5⟩ := own_pack X5 l5 y5 z5 N4 N5q (C := 0) (S' := 0) rfl rfl
  refine own_thr (a := T5.setTop (mkF m 65 #[.val (.ref o0), .val (.ref o1), .val (.int 0), .unset, .unset] [(.int (f_rmIC (1 : Int32) (0 : Int32)))])) (fun t kt => st5 t kt) ?_
  exact own_end X5 hlk (v := some (.int (f_rmIC (1 : Int32) (0 : Int32)))) (fun h => by rw [Bd.returns] at h; cases h) (fun fs hr => retI X5 hx Bd.returns (hb hby d6_65) hr) (by rw [e5]; exact ⟨(by rw [f_rmCM10]), N5, rfl⟩) (by decide : 0 ≤ _) (by decide : 0 ≤ _)
theorem d6_18 : decode prog_2_method_2_code 18 = .ok (.aload_n 0, 1) := by decide +kernel
theorem d6_19 : decode prog_2_method_2_code 19 = .ok (.iload_n 2, 1) := by decide +kernel
theorem d6_20 : decode prog_2_method_2_code 20 = .ok (.invokevirtual 13, 3) := by decide +kernel
theorem d6_23 : decode prog_2_method_2_code 23 = .ok (.istore_n 3, 1) := by decide +kernel
theorem d6_24 : decode prog_2_method_2_code 24 = .ok (.aload_n 1, 1) := by decide +kernel
theorem d6_25 : decode prog_2_method_2_code 25 = .ok (.iload_n 2, 1) := by decide +kernel
theorem d6_26 : decode prog_2_method_2_code 26 = .ok (.invokevirtual 13, 3) := by decide +kernel
theorem d6_29 : decode prog_2_method_2_code 29 = .ok (.istore 4, 2) := by decide +kernel
theorem d6_31 : decode prog_2_method_2_code 31 = .ok (.iload_n 3, 1) := by decide +kernel
theorem d6_32 : decode prog_2_method_2_code 32 = .ok (.iload 4, 2) := by decide +kernel
theorem d6_34 : decode prog_2_method_2_code 34 = .ok (.if_icmp .eq 10, 3) := by decide +kernel
theorem d6_44 : decode prog_2_method_2_code 44 = .ok (.iload_n 2, 1) := by decide +kernel
theorem d6_45 : decode prog_2_method_2_code 45 = .ok (.iload_n 3, 1) := by decide +kernel
theorem d6_46 : decode prog_2_method_2_code 46 = .ok (.invokestatic 23, 3) := by decide +kernel
theorem d6_49 : decode prog_2_method_2_code 49 = .ok (.iadd, 1) := by decide +kernel
theorem d6_50 : decode prog_2_method_2_code 50 = .ok (.istore_n 2, 1) := by decide +kernel
theorem d6_51 : decode prog_2_method_2_code 51 = .ok (.goto (-49), 3) := by decide +kernel
theorem d6_37 : decode prog_2_method_2_code 37 = .ok (.iload_n 3, 1) := by decide +kernel
theorem d6_38 : decode prog_2_method_2_code 38 = .ok (.iload 4, 2) := by decide +kernel
theorem d6_40 : decode prog_2_method_2_code 40 = .ok (.invokestatic 17, 3) := by decide +kernel
theorem d6_43 : decode prog_2_method_2_code 43 = .ok (.ireturn, 1) := by decide +kernel
theorem ef_rmCM11 (m : MethodId) (o0 : Addr) (o1 : Addr)  : entryFrame m #[(.ref o0), (.ref o1)] 5 = mkF m 0 #[.val (.ref o0), .val (.ref o1), .unset, .unset, .unset] [] := by first |  (simp [entryFrame, mkF, argsToLocals, Value.category]; done) | rfl
def f_rmCM11 (o0 : Addr) (o1 : Addr) (x0 : Int32) (w0 : Int32) (cs : Int32) (fm : Value) : Int32 := if x0 = w0 then (f_rmIC (1 : Int32) (1 : Int32)) else (f_rmIC x0 w0)
def Q_rmCM11 (Z : State) (o0 : Addr) (o1 : Addr) (x0 : Int32) (w0 : Int32) (cs : Int32) (fm : Value) (h0 : Heap) (n0 : Nat) (v : Option Value) (h : Heap) (L : List Loc) : Prop := v = some (.int (f_rmCM11 o0 o1 x0 w0 cs fm)) ∧ Fr n0 L ∧ h = h0
theorem rmCM11 (l : Launch) (Z : State) (a0 : Array Value) (hw : ∀ d ∈ tables_1, d.before a0 Z = true) (ws : List Jvm.Cond) (o0 : Addr) (o1 : Addr) (x0 : Int32) (w0 : Int32) (cs : Int32) (fm : Value) (h0 : Heap) (n0 : Nat) (Z0 : n0 ≤ h0.size) (hKs : own_K Z cs fm) (hO : Old Z n0 h0) (UA : own_U1 Z h0 o0 x0) (UB : own_U1 Z h0 o1 w0) (hx0 : own_R x0) (hw0 : own_R w0) :
    MetFree l own_m25 (head1 (Jvm.Cond.code own_m25 prog_2_method_2_code 5 (some .int) :: ws) ({ frames := 4, cells := 0, slots := 0, locals := 58 } : Room)) (fun a U => a = #[(.ref o0), (.ref o1)] ∧ Z.Warmed39 U.vm ∧ U.heap = h0) (fun _ _ _ _ _ => True) (fun _ U o U' => ∃ v L, o = .returned v ∧ Q_rmCM11 Z o0 o1 x0 w0 cs fm h0 n0 v U'.heap L ∧ FrameEnd U o U' L ({ frames := 4, cells := 0, slots := 0, locals := 58 } : Room).cells ({ frames := 4, cells := 0, slots := 0, locals := 58 } : Room).slots) := by
  refine MetFree.of_bodySF (plainFor_of_name pn_com_example_tiphys_tiphys_CodePointOrder) hisR ?_
  intro p e s m args below meth c s₁ Bd hml0 hP hK
  obtain ⟨rfl, hZ, hh⟩ := hP
  have hx := Bd.exec
  have hby := Bd.bytes
  have hml : c.maxLocals = 5 := hml0
  have hown : s.vm.findClass "com/example/tiphys/tiphys/CodePointOrder" = some m.cls := findClass_of_methodNamed Bd.named
  have hnm := (name_of_methodNamed Bd.named Bd.method).1
  have hlk := Bd.notSynchronized
  have X0 : Stand p l e ({ frames := 4, cells := 0, slots := 0, locals := 58 } : Room) s m #[(.ref o0), (.ref o1)] below meth c s₁ [] 0 0 := Stand.of_body Bd
  have e0 : s₁.heap = h0 := by rw [← hh, Bd.state]; rfl
  have N0 := Fr.nil n0
  show own_G p.tables e below s (Q_rmCM11 Z o0 o1 x0 w0 cs fm h0 n0) ({ frames := 4, cells := 0, slots := 0, locals := 58 } : Room).cells ({ frames := 4, cells := 0, slots := 0, locals := 58 } : Room).slots _
  refine own_thr (a := s₁.setTop (mkF m 0 #[.val (.ref o0), .val (.ref o1), .unset, .unset, .unset] [])) (fun t kt => castTop (ef_rmCM11 m o0 o1) kt) ?_
  refine own_thr (a := s₁.setTop (mkF m 4 #[.val (.ref o0), .val (.ref o1), .val (.int 0), .unset, .unset] [(.ref o0), (.int 0)])) (fun t kt => ?_) ?_
  · refine XS.iconst X0.here hx rfl (hb hby d6_0) ?_
    refine XS.istoreN X0.here hx rfl (hb hby d6_1) rfl (l' := #[.val (.ref o0), .val (.ref o1), .val (.int 0), .unset, .unset]) rfl ?_
    refine XS.iloadN X0.here hx rfl (hb hby d6_2) rfl ?_
    refine XS.aloadN X0.here hx rfl (hb hby d6_3) rfl rfl ?_
    exact kt
  obtain ⟨cq1, kq1, q1a, q1b, q1c⟩ := isOf hZ e0 UA.1
  obtain ⟨_, _, ⟨T1, L1, k1, n1⟩, -, X1, ⟨Lc1, hQ1, l1, y1, z1⟩, st1⟩ := X0.virtualBack hx (y := own_m22) (z := own_m22) hown (mvT hZ (hw _ (own_i 37 rfl))) (mvT hZ (hw _ (own_i 38 rfl))) (notFace_of_selects (args := #[]) (mvT hZ (hw _ (own_i 40 rfl)))) (mvT hZ (hw _ (own_i 40 rfl))) (mvT hZ (hw _ (own_i 39 rfl))) (by decide) (backOf (W := 1) (rmLU1 l Z a0 hw [] o0 x0 cs fm h0 n0 Z0 UA hKs hO) hZ (hw _ (own_i 41 rfl)) (hw _ (own_i 13 rfl)) (by decide) (by decide)) q1a q1c (g := (mkF m 4 #[.val (.ref o0), .val (.ref o1), .val (.int 0), .unset, .unset] [(.ref o0), (.int 0)])) rfl (by rw [hml]; rfl) (Steps.refl _) (argsL := []) (rest := [(.int 0)]) (lenOf pd__28_29I rfl) rfl (own_q rfl) (hb hby d6_4) (fun _ _ => ⟨rfl, e0, (by decide : 0 + 0 ≤ _), (by decide : 0 + 0 ≤ _)⟩)
  dsimp only [Pt.U, Pt.locs, Pt.cells, Pt.slots] at X1 l1 y1 z1 st1 hQ1
  obtain ⟨rfl, N1q, e1⟩ := hQ1
  obtain ⟨lc1, X1, N1⟩ := own_pack X1 l1 y1 z1 N0 N1q (C := 0) (S' := 0) rfl rfl
  refine own_thr (a := T1.setTop (mkF m 7 #[.val (.ref o0), .val (.ref o1), .val (.int 0), .unset, .unset] [(.int 1), (.int 0)])) (fun t kt => st1.trans kt) ?_
  refine own_thr (a := T1.setTop (mkF m 12 #[.val (.ref o0), .val (.ref o1), .val (.int 0), .unset, .unset] [(.ref o1), (.int 0)])) (fun t kt => ?_) ?_
  · refine XS.icmpNo X1.here hx rfl (hb hby d6_7) rfl (tlt (by decide)).2.1 ?_
    refine XS.iloadN X1.here hx rfl (hb hby d6_10) rfl ?_
    refine XS.aloadN X1.here hx rfl (hb hby d6_11) rfl rfl ?_
    exact kt
  obtain ⟨cq2, kq2, q2a, q2b, q2c⟩ := isOf hZ e1 UB.1
  obtain ⟨_, _, ⟨T2, L2, k2, n2⟩, -, X2, ⟨Lc2, hQ2, l2, y2, z2⟩, st2⟩ := X1.virtualBack hx (y := own_m22) (z := own_m22) hown (mvT hZ (hw _ (own_i 37 rfl))) (mvT hZ (hw _ (own_i 38 rfl))) (notFace_of_selects (args := #[]) (mvT hZ (hw _ (own_i 40 rfl)))) (mvT hZ (hw _ (own_i 40 rfl))) (mvT hZ (hw _ (own_i 39 rfl))) (by decide) (backOf (W := 1) (rmLU1 l Z a0 hw [] o1 w0 cs fm h0 n0 Z0 UB hKs hO) hZ (hw _ (own_i 41 rfl)) (hw _ (own_i 13 rfl)) (by decide) (by decide)) q2a q2c (g := (mkF m 12 #[.val (.ref o0), .val (.ref o1), .val (.int 0), .unset, .unset] [(.ref o1), (.int 0)])) rfl (by rw [hml]; rfl) (Steps.refl _) (argsL := []) (rest := [(.int 0)]) (lenOf pd__28_29I rfl) rfl (own_q rfl) (hb hby d6_12) (fun _ _ => ⟨rfl, e1, (by decide : 0 + 0 ≤ _), (by decide : 0 + 0 ≤ _)⟩)
  dsimp only [Pt.U, Pt.locs, Pt.cells, Pt.slots] at X2 l2 y2 z2 st2 hQ2
  obtain ⟨rfl, N2q, e2⟩ := hQ2
  obtain ⟨lc2, X2, N2⟩ := own_pack X2 l2 y2 z2 N1 N2q (C := 0) (S' := 0) rfl rfl
  refine own_thr (a := T2.setTop (mkF m 15 #[.val (.ref o0), .val (.ref o1), .val (.int 0), .unset, .unset] [(.int 1), (.int 0)])) (fun t kt => st2.trans kt) ?_
  refine own_thr (a := T2.setTop (mkF m 20 #[.val (.ref o0), .val (.ref o1), .val (.int 0), .unset, .unset] [(.int 0), (.ref o0)])) (fun t kt => ?_) ?_
  · refine XS.icmpNo X2.here hx rfl (hb hby d6_15) rfl (tlt (by decide)).2.1 ?_
    refine XS.aloadN X2.here hx rfl (hb hby d6_18) rfl rfl ?_
    refine XS.iloadN X2.here hx rfl (hb hby d6_19) rfl ?_
    exact kt
  obtain ⟨cq3, kq3, q3a, q3b, q3c⟩ := isOf hZ e2 UA.1
  obtain ⟨_, _, ⟨T3, L3, k3, n3⟩, -, X3, ⟨Lc3, hQ3, l3, y3, z3⟩, st3⟩ := X2.virtualBack hx (y := own_m23) (z := own_m23) hown (mvT hZ (hw _ (own_i 90 rfl))) (mvT hZ (hw _ (own_i 91 rfl))) (notFace_of_selects (args := #[]) (mvT hZ (hw _ (own_i 93 rfl)))) (mvT hZ (hw _ (own_i 93 rfl))) (mvT hZ (hw _ (own_i 92 rfl))) (by decide) (backOf (W := 0) (rmCU10 l Z a0 hw [] o0 x0 cs fm h0 n0 Z0 UA hKs hO) hZ (hw _ (own_i 94 rfl)) (hw _ (own_i 13 rfl)) (by decide) (by decide)) q3a q3c (g := (mkF m 20 #[.val (.ref o0), .val (.ref o1), .val (.int 0), .unset, .unset] [(.int 0), (.ref o0)])) rfl (by rw [hml]; rfl) (Steps.refl _) (argsL := [(.int 0)]) (rest := []) (lenOf pd__28I_29I rfl) rfl (own_q rfl) (hb hby d6_20) (fun _ _ => ⟨rfl, e2, (by decide : 0 + 0 ≤ _), (by decide : 0 + 0 ≤ _)⟩)
  dsimp only [Pt.U, Pt.locs, Pt.cells, Pt.slots] at X3 l3 y3 z3 st3 hQ3
  obtain ⟨rfl, N3q, e3⟩ := hQ3
  obtain ⟨lc3, X3, N3⟩ := own_pack X3 l3 y3 z3 N2 N3q (C := 0) (S' := 0) rfl rfl
  refine own_thr (a := T3.setTop (mkF m 23 #[.val (.ref o0), .val (.ref o1), .val (.int 0), .unset, .unset] [(.int x0)])) (fun t kt => st3.trans kt) ?_
  refine own_thr (a := T3.setTop (mkF m 26 #[.val (.ref o0), .val (.ref o1), .val (.int 0), .val (.int x0), .unset] [(.int 0), (.ref o1)])) (fun t kt => ?_) ?_
  · refine XS.istoreN X3.here hx rfl (hb hby d6_23) rfl (l' := #[.val (.ref o0), .val (.ref o1), .val (.int 0), .val (.int x0), .unset]) rfl ?_
    refine XS.aloadN X3.here hx rfl (hb hby d6_24) rfl rfl ?_
    refine XS.iloadN X3.here hx rfl (hb hby d6_25) rfl ?_
    exact kt
  obtain ⟨cq4, kq4, q4a, q4b, q4c⟩ := isOf hZ e3 UB.1
  obtain ⟨_, _, ⟨T4, L4, k4, n4⟩, -, X4, ⟨Lc4, hQ4, l4, y4, z4⟩, st4⟩ := X3.virtualBack hx (y := own_m23) (z := own_m23) hown (mvT hZ (hw _ (own_i 90 rfl))) (mvT hZ (hw _ (own_i 91 rfl))) (notFace_of_selects (args := #[]) (mvT hZ (hw _ (own_i 93 rfl)))) (mvT hZ (hw _ (own_i 93 rfl))) (mvT hZ (hw _ (own_i 92 rfl))) (by decide) (backOf (W := 0) (rmCU10 l Z a0 hw [] o1 w0 cs fm h0 n0 Z0 UB hKs hO) hZ (hw _ (own_i 94 rfl)) (hw _ (own_i 13 rfl)) (by decide) (by decide)) q4a q4c (g := (mkF m 26 #[.val (.ref o0), .val (.ref o1), .val (.int 0), .val (.int x0), .unset] [(.int 0), (.ref o1)])) rfl (by rw [hml]; rfl) (Steps.refl _) (argsL := [(.int 0)]) (rest := []) (lenOf pd__28I_29I rfl) rfl (own_q rfl) (hb hby d6_26) (fun _ _ => ⟨rfl, e3, (by decide : 0 + 0 ≤ _), (by decide : 0 + 0 ≤ _)⟩)
  dsimp only [Pt.U, Pt.locs, Pt.cells, Pt.slots] at X4 l4 y4 z4 st4 hQ4
  obtain ⟨rfl, N4q, e4⟩ := hQ4
  obtain ⟨lc4, X4, N4⟩ := own_pack X4 l4 y4 z4 N3 N4q (C := 0) (S' := 0) rfl rfl
  refine own_thr (a := T4.setTop (mkF m 29 #[.val (.ref o0), .val (.ref o1), .val (.int 0), .val (.int x0), .unset] [(.int w0)])) (fun t kt => st4.trans kt) ?_
  refine own_thr (a := T4.setTop (mkF m 34 #[.val (.ref o0), .val (.ref o1), .val (.int 0), .val (.int x0), .val (.int w0)] [(.int w0), (.int x0)])) (fun t kt => ?_) ?_
  · refine XS.istore X4.here hx rfl (hb hby d6_29) rfl (l' := #[.val (.ref o0), .val (.ref o1), .val (.int 0), .val (.int x0), .val (.int w0)]) rfl ?_
    refine XS.iloadN X4.here hx rfl (hb hby d6_31) rfl ?_
    refine XS.iload X4.here hx rfl (hb hby d6_32) rfl ?_
    exact kt
  by_cases hc5 : x0 = w0
  · refine own_thr (a := T4.setTop (mkF m 46 #[.val (.ref o0), .val (.ref o1), .val (.int 0), .val (.int x0), .val (.int w0)] [(.int x0), (.int 0)])) (fun t kt => ?_) ?_
    · refine XS.icmpYes X4.here hx rfl (pc0 := 34) (pc' := 44) rfl (hb hby d6_34) rfl (teq hc5).1 (by decide) (by decide) ?_
      refine XS.iloadN X4.here hx rfl (hb hby d6_44) rfl ?_
      refine XS.iloadN X4.here hx rfl (hb hby d6_45) rfl ?_
      exact kt
    obtain ⟨_, _, ⟨T6, L6, k6, n6⟩, -, X6, ⟨Lc6, hQ6, l6, y6, z6⟩, st6⟩ := Jvm.LawKit.callS X4 hx (y := own_m19) hown (mvT hZ (hw _ (own_i 120 rfl))) (mvT hZ (hw _ (own_i 121 rfl))) (mvT hZ (hw _ (own_i 116 rfl))) (mvT hZ (hw _ (own_i 122 rfl))) (by decide) (backOf (W := 1) (rmCC1 l Z a0 hw [] x0 h0 n0 Z0 hx0.ge) hZ (hw _ (own_i 122 rfl)) (hw _ (own_i 116 rfl)) (by decide) (by decide)) (g := (mkF m 46 #[.val (.ref o0), .val (.ref o1), .val (.int 0), .val (.int x0), .val (.int w0)] [(.int x0), (.int 0)])) rfl (by rw [hml]; rfl) (argsL := [(.int x0)]) (rest := [(.int 0)]) (lenOf pd__28I_29I rfl) rfl (own_q rfl) (hb hby d6_46) (fun _ _ => ⟨rfl, e4, (by decide : 0 + 0 ≤ _), (by decide : 0 + 0 ≤ _)⟩)
    dsimp only [Pt.U, Pt.locs, Pt.cells, Pt.slots] at X6 l6 y6 z6 st6 hQ6
    obtain ⟨rfl, N6q, e6⟩ := hQ6
    obtain ⟨lc6, X6, N6⟩ := own_pack X6 l6 y6 z6 N4 N6q (C := 0) (S' := 0) rfl rfl
    refine own_thr (a := T6.setTop (mkF m 49 #[.val (.ref o0), .val (.ref o1), .val (.int 0), .val (.int x0), .val (.int w0)] [(.int 1), (.int 0)])) (fun t kt => st6 t kt) ?_
    refine own_thr (a := T6.setTop (mkF m 4 #[.val (.ref o0), .val (.ref o1), .val (.int 1), .val (.int x0), .val (.int w0)] [(.ref o0), (.int 1)])) (fun t kt => ?_) ?_
    · refine XS.iadd X6.here hx rfl (hb hby d6_49) rfl ?_
      refine XS.istoreN X6.here hx rfl (hb hby d6_50) rfl (l' := #[.val (.ref o0), .val (.ref o1), .val (.int 1), .val (.int x0), .val (.int w0)]) rfl ?_
      refine XS.goto X6.here hx rfl (pc0 := 51) (pc' := 2) rfl (hb hby d6_51) (by decide) (by decide) ?_
      refine XS.iloadN X6.here hx rfl (hb hby d6_2) rfl ?_
      refine XS.aloadN X6.here hx rfl (hb hby d6_3) rfl rfl ?_
      exact kt
    obtain ⟨cq7, kq7, q7a, q7b, q7c⟩ := isOf hZ e6 UA.1
    obtain ⟨_, _, ⟨T7, L7, k7, n7⟩, -, X7, ⟨Lc7, hQ7, l7, y7, z7⟩, st7⟩ := X6.virtualBack hx (y := own_m22) (z := own_m22) hown (mvT hZ (hw _ (own_i 37 rfl))) (mvT hZ (hw _ (own_i 38 rfl))) (notFace_of_selects (args := #[]) (mvT hZ (hw _ (own_i 40 rfl)))) (mvT hZ (hw _ (own_i 40 rfl))) (mvT hZ (hw _ (own_i 39 rfl))) (by decide) (backOf (W := 1) (rmLU1 l Z a0 hw [] o0 x0 cs fm h0 n0 Z0 UA hKs hO) hZ (hw _ (own_i 41 rfl)) (hw _ (own_i 13 rfl)) (by decide) (by decide)) q7a q7c (g := (mkF m 4 #[.val (.ref o0), .val (.ref o1), .val (.int 1), .val (.int x0), .val (.int w0)] [(.ref o0), (.int 1)])) rfl (by rw [hml]; rfl) (Steps.refl _) (argsL := []) (rest := [(.int 1)]) (lenOf pd__28_29I rfl) rfl (own_q rfl) (hb hby d6_4) (fun _ _ => ⟨rfl, e6, (by decide : 0 + 0 ≤ _), (by decide : 0 + 0 ≤ _)⟩)
    dsimp only [Pt.U, Pt.locs, Pt.cells, Pt.slots] at X7 l7 y7 z7 st7 hQ7
    obtain ⟨rfl, N7q, e7⟩ := hQ7
    obtain ⟨lc7, X7, N7⟩ := own_pack X7 l7 y7 z7 N6 N7q (C := 0) (S' := 0) rfl rfl
    refine own_thr (a := T7.setTop (mkF m 7 #[.val (.ref o0), .val (.ref o1), .val (.int 1), .val (.int x0), .val (.int w0)] [(.int 1), (.int 1)])) (fun t kt => st7.trans kt) ?_
    refine own_thr (a := T7.setTop (mkF m 55 #[.val (.ref o0), .val (.ref o1), .val (.int 1), .val (.int x0), .val (.int w0)] [(.ref o0)])) (fun t kt => ?_) ?_
    · refine XS.icmpYes X7.here hx rfl (pc0 := 7) (pc' := 54) rfl (hb hby d6_7) rfl (flt (by decide)).2.1 (by decide) (by decide) ?_
      refine XS.aloadN X7.here hx rfl (hb hby d6_54) rfl rfl ?_
      exact kt
    obtain ⟨cq8, kq8, q8a, q8b, q8c⟩ := isOf hZ e7 UA.1
    obtain ⟨_, _, ⟨T8, L8, k8, n8⟩, -, X8, ⟨Lc8, hQ8, l8, y8, z8⟩, st8⟩ := X7.virtualBack hx (y := own_m22) (z := own_m22) hown (mvT hZ (hw _ (own_i 37 rfl))) (mvT hZ (hw _ (own_i 38 rfl))) (notFace_of_selects (args := #[]) (mvT hZ (hw _ (own_i 40 rfl)))) (mvT hZ (hw _ (own_i 40 rfl))) (mvT hZ (hw _ (own_i 39 rfl))) (by decide) (backOf (W := 0) (rmLU1 l Z a0 hw [] o0 x0 cs fm h0 n0 Z0 UA hKs hO) hZ (hw _ (own_i 41 rfl)) (hw _ (own_i 13 rfl)) (by decide) (by decide)) q8a q8c (g := (mkF m 55 #[.val (.ref o0), .val (.ref o1), .val (.int 1), .val (.int x0), .val (.int w0)] [(.ref o0)])) rfl (by rw [hml]; rfl) (Steps.refl _) (argsL := []) (rest := []) (lenOf pd__28_29I rfl) rfl (own_q rfl) (hb hby d6_55) (fun _ _ => ⟨rfl, e7, (by decide : 0 + 0 ≤ _), (by decide : 0 + 0 ≤ _)⟩)
    dsimp only [Pt.U, Pt.locs, Pt.cells, Pt.slots] at X8 l8 y8 z8 st8 hQ8
    obtain ⟨rfl, N8q, e8⟩ := hQ8
    obtain ⟨lc8, X8, N8⟩ := own_pack X8 l8 y8 z8 N7 N8q (C := 0) (S' := 0) rfl rfl
    refine own_thr (a := T8.setTop (mkF m 58 #[.val (.ref o0), .val (.ref o1), .val (.int 1), .val (.int x0), .val (.int w0)] [(.int 1)])) (fun t kt => st8.trans kt) ?_
    refine own_thr (a := T8.setTop (mkF m 59 #[.val (.ref o0), .val (.ref o1), .val (.int 1), .val (.int x0), .val (.int w0)] [(.ref o1), (.int 1)])) (fun t kt => ?_) ?_
    · refine XS.aloadN X8.here hx rfl (hb hby d6_58) rfl rfl ?_
      exact kt
    obtain ⟨cq9, kq9, q9a, q9b, q9c⟩ := isOf hZ e8 UB.1
    obtain ⟨_, _, ⟨T9, L9, k9, n9⟩, -, X9, ⟨Lc9, hQ9, l9, y9, z9⟩, st9⟩ := X8.virtualBack hx (y := own_m22) (z := own_m22) hown (mvT hZ (hw _ (own_i 37 rfl))) (mvT hZ (hw _ (own_i 38 rfl))) (notFace_of_selects (args := #[]) (mvT hZ (hw _ (own_i 40 rfl)))) (mvT hZ (hw _ (own_i 40 rfl))) (mvT hZ (hw _ (own_i 39 rfl))) (by decide) (backOf (W := 1) (rmLU1 l Z a0 hw [] o1 w0 cs fm h0 n0 Z0 UB hKs hO) hZ (hw _ (own_i 41 rfl)) (hw _ (own_i 13 rfl)) (by decide) (by decide)) q9a q9c (g := (mkF m 59 #[.val (.ref o0), .val (.ref o1), .val (.int 1), .val (.int x0), .val (.int w0)] [(.ref o1), (.int 1)])) rfl (by rw [hml]; rfl) (Steps.refl _) (argsL := []) (rest := [(.int 1)]) (lenOf pd__28_29I rfl) rfl (own_q rfl) (hb hby d6_59) (fun _ _ => ⟨rfl, e8, (by decide : 0 + 0 ≤ _), (by decide : 0 + 0 ≤ _)⟩)
    dsimp only [Pt.U, Pt.locs, Pt.cells, Pt.slots] at X9 l9 y9 z9 st9 hQ9
    obtain ⟨rfl, N9q, e9⟩ := hQ9
    obtain ⟨lc9, X9, N9⟩ := own_pack X9 l9 y9 z9 N8 N9q (C := 0) (S' := 0) rfl rfl
    refine own_thr (a := T9.setTop (mkF m 62 #[.val (.ref o0), .val (.ref o1), .val (.int 1), .val (.int x0), .val (.int w0)] [(.int 1), (.int 1)])) (fun t kt => st9.trans kt) ?_
    obtain ⟨_, _, ⟨T10, L10, k10, n10⟩, -, X10, ⟨Lc10, hQ10, l10, y10, z10⟩, st10⟩ := Jvm.LawKit.callS X9 hx (y := own_m24) hown (mvT hZ (hw _ (own_i 48 rfl))) (mvT hZ (hw _ (own_i 49 rfl))) (mvT hZ (hw _ (own_i 50 rfl))) (mvT hZ (hw _ (own_i 51 rfl))) (by decide) (backOf (W := 0) (rmIC l Z a0 hw [] (1 : Int32) (1 : Int32) h0 n0 Z0) hZ (hw _ (own_i 51 rfl)) (hw _ (own_i 50 rfl)) (by decide) (by decide)) (g := (mkF m 62 #[.val (.ref o0), .val (.ref o1), .val (.int 1), .val (.int x0), .val (.int w0)] [(.int 1), (.int 1)])) rfl (by rw [hml]; rfl) (argsL := [(.int 1), (.int 1)]) (rest := []) (lenOf pd__28II_29I rfl) rfl (own_q rfl) (hb hby d6_62) (fun _ _ => ⟨rfl, e9, (by decide : 0 + 0 ≤ _), (by decide : 0 + 0 ≤ _)⟩)
    dsimp only [Pt.U, Pt.locs, Pt.cells, Pt.slots] at X10 l10 y10 z10 st10 hQ10
    obtain ⟨rfl, N10q, e10⟩ := hQ10
    obtain ⟨lc10, X10, N10⟩ := own_pack X10 l10 y10 z10 N9 N10q (C := 0) (S' := 0) rfl rfl
    refine own_thr (a := T10.setTop (mkF m 65 #[.val (.ref o0), .val (.ref o1), .val (.int 1), .val (.int x0), .val (.int w0)] [(.int (f_rmIC (1 : Int32) (1 : Int32)))])) (fun t kt => st10 t kt) ?_
    exact own_end X10 hlk (v := some (.int (f_rmIC (1 : Int32) (1 : Int32)))) (fun h => by rw [Bd.returns] at h; cases h) (fun fs hr => retI X10 hx Bd.returns (hb hby d6_65) hr) (by rw [e10]; exact ⟨(by rw [f_rmCM11, if_pos hc5]), N10, rfl⟩) (by decide : 0 ≤ _) (by decide : 0 ≤ _)
  · refine own_thr (a := T4.setTop (mkF m 40 #[.val (.ref o0), .val (.ref o1), .val (.int 0), .val (.int x0), .val (.int w0)] [(.int w0), (.int x0)])) (fun t kt => ?_) ?_
    · refine XS.icmpNo X4.here hx rfl (hb hby d6_34) rfl (feq hc5).1 ?_
      refine XS.iloadN X4.here hx rfl (hb hby d6_37) rfl ?_
      refine XS.iload X4.here hx rfl (hb hby d6_38) rfl ?_
      exact kt
    obtain ⟨_, _, ⟨T11, L11, k11, n11⟩, -, X11, ⟨Lc11, hQ11, l11, y11, z11⟩, st11⟩ := Jvm.LawKit.callS X4 hx (y := own_m24) hown (mvT hZ (hw _ (own_i 48 rfl))) (mvT hZ (hw _ (own_i 49 rfl))) (mvT hZ (hw _ (own_i 50 rfl))) (mvT hZ (hw _ (own_i 51 rfl))) (by decide) (backOf (W := 0) (rmIC l Z a0 hw [] x0 w0 h0 n0 Z0) hZ (hw _ (own_i 51 rfl)) (hw _ (own_i 50 rfl)) (by decide) (by decide)) (g := (mkF m 40 #[.val (.ref o0), .val (.ref o1), .val (.int 0), .val (.int x0), .val (.int w0)] [(.int w0), (.int x0)])) rfl (by rw [hml]; rfl) (argsL := [(.int x0), (.int w0)]) (rest := []) (lenOf pd__28II_29I rfl) rfl (own_q rfl) (hb hby d6_40) (fun _ _ => ⟨rfl, e4, (by decide : 0 + 0 ≤ _), (by decide : 0 + 0 ≤ _)⟩)
    dsimp only [Pt.U, Pt.locs, Pt.cells, Pt.slots] at X11 l11 y11 z11 st11 hQ11
    obtain ⟨rfl, N11q, e11⟩ := hQ11
    obtain ⟨lc11, X11, N11⟩ := own_pack X11 l11 y11 z11 N4 N11q (C := 0) (S' := 0) rfl rfl
    refine own_thr (a := T11.setTop (mkF m 43 #[.val (.ref o0), .val (.ref o1), .val (.int 0), .val (.int x0), .val (.int w0)] [(.int (f_rmIC x0 w0))])) (fun t kt => st11 t kt) ?_
    exact own_end X11 hlk (v := some (.int (f_rmIC x0 w0))) (fun h => by rw [Bd.returns] at h; cases h) (fun fs hr => retI X11 hx Bd.returns (hb hby d6_43) hr) (by rw [e11]; exact ⟨(by rw [f_rmCM11, if_neg hc5]), N11, rfl⟩) (by decide : 0 ≤ _) (by decide : 0 ≤ _)
theorem ef_rmCM12 (m : MethodId) (o0 : Addr) (o1 : Addr)  : entryFrame m #[(.ref o0), (.ref o1)] 5 = mkF m 0 #[.val (.ref o0), .val (.ref o1), .unset, .unset, .unset] [] := by first |  (simp [entryFrame, mkF, argsToLocals, Value.category]; done) | rfl
def f_rmCM12 (o0 : Addr) (o1 : Addr) (x0 : Int32) (w0 : Int32) (w1 : Int32) (cs : Int32) (fm : Value) : Int32 := if x0 = (own_cp w0 w1) then (f_rmIC (1 : Int32) (2 : Int32)) else (f_rmIC x0 (own_cp w0 w1))
def Q_rmCM12 (Z : State) (o0 : Addr) (o1 : Addr) (x0 : Int32) (w0 : Int32) (w1 : Int32) (cs : Int32) (fm : Value) (h0 : Heap) (n0 : Nat) (v : Option Value) (h : Heap) (L : List Loc) : Prop := v = some (.int (f_rmCM12 o0 o1 x0 w0 w1 cs fm)) ∧ Fr n0 L ∧ h = h0
theorem rmCM12 (l : Launch) (Z : State) (a0 : Array Value) (hw : ∀ d ∈ tables_1, d.before a0 Z = true) (ws : List Jvm.Cond) (o0 : Addr) (o1 : Addr) (x0 : Int32) (w0 : Int32) (w1 : Int32) (cs : Int32) (fm : Value) (h0 : Heap) (n0 : Nat) (Z0 : n0 ≤ h0.size) (hKs : own_K Z cs fm) (hO : Old Z n0 h0) (UA : own_U1 Z h0 o0 x0) (UB : own_U2 Z h0 o1 w0 w1) (hx0 : own_R x0) (hw0 : own_R w0) (hw1 : own_R w1) :
    MetFree l own_m25 (head1 (Jvm.Cond.code own_m25 prog_2_method_2_code 5 (some .int) :: ws) ({ frames := 4, cells := 0, slots := 0, locals := 58 } : Room)) (fun a U => a = #[(.ref o0), (.ref o1)] ∧ Z.Warmed39 U.vm ∧ U.heap = h0) (fun _ _ _ _ _ => True) (fun _ U o U' => ∃ v L, o = .returned v ∧ Q_rmCM12 Z o0 o1 x0 w0 w1 cs fm h0 n0 v U'.heap L ∧ FrameEnd U o U' L ({ frames := 4, cells := 0, slots := 0, locals := 58 } : Room).cells ({ frames := 4, cells := 0, slots := 0, locals := 58 } : Room).slots) := by
  refine MetFree.of_bodySF (plainFor_of_name pn_com_example_tiphys_tiphys_CodePointOrder) hisR ?_
  intro p e s m args below meth c s₁ Bd hml0 hP hK
  obtain ⟨rfl, hZ, hh⟩ := hP
  have hx := Bd.exec
  have hby := Bd.bytes
  have hml : c.maxLocals = 5 := hml0
  have hown : s.vm.findClass "com/example/tiphys/tiphys/CodePointOrder" = some m.cls := findClass_of_methodNamed Bd.named
  have hnm := (name_of_methodNamed Bd.named Bd.method).1
  have hlk := Bd.notSynchronized
  have X0 : Stand p l e ({ frames := 4, cells := 0, slots := 0, locals := 58 } : Room) s m #[(.ref o0), (.ref o1)] below meth c s₁ [] 0 0 := Stand.of_body Bd
  have e0 : s₁.heap = h0 := by rw [← hh, Bd.state]; rfl
  have N0 := Fr.nil n0
  show own_G p.tables e below s (Q_rmCM12 Z o0 o1 x0 w0 w1 cs fm h0 n0) ({ frames := 4, cells := 0, slots := 0, locals := 58 } : Room).cells ({ frames := 4, cells := 0, slots := 0, locals := 58 } : Room).slots _
  refine own_thr (a := s₁.setTop (mkF m 0 #[.val (.ref o0), .val (.ref o1), .unset, .unset, .unset] [])) (fun t kt => castTop (ef_rmCM12 m o0 o1) kt) ?_
  refine own_thr (a := s₁.setTop (mkF m 4 #[.val (.ref o0), .val (.ref o1), .val (.int 0), .unset, .unset] [(.ref o0), (.int 0)])) (fun t kt => ?_) ?_
  · refine XS.iconst X0.here hx rfl (hb hby d6_0) ?_
    refine XS.istoreN X0.here hx rfl (hb hby d6_1) rfl (l' := #[.val (.ref o0), .val (.ref o1), .val (.int 0), .unset, .unset]) rfl ?_
    refine XS.iloadN X0.here hx rfl (hb hby d6_2) rfl ?_
    refine XS.aloadN X0.here hx rfl (hb hby d6_3) rfl rfl ?_
    exact kt
  obtain ⟨cq1, kq1, q1a, q1b, q1c⟩ := isOf hZ e0 UA.1
  obtain ⟨_, _, ⟨T1, L1, k1, n1⟩, -, X1, ⟨Lc1, hQ1, l1, y1, z1⟩, st1⟩ := X0.virtualBack hx (y := own_m22) (z := own_m22) hown (mvT hZ (hw _ (own_i 37 rfl))) (mvT hZ (hw _ (own_i 38 rfl))) (notFace_of_selects (args := #[]) (mvT hZ (hw _ (own_i 40 rfl)))) (mvT hZ (hw _ (own_i 40 rfl))) (mvT hZ (hw _ (own_i 39 rfl))) (by decide) (backOf (W := 1) (rmLU1 l Z a0 hw [] o0 x0 cs fm h0 n0 Z0 UA hKs hO) hZ (hw _ (own_i 41 rfl)) (hw _ (own_i 13 rfl)) (by decide) (by decide)) q1a q1c (g := (mkF m 4 #[.val (.ref o0), .val (.ref o1), .val (.int 0), .unset, .unset] [(.ref o0), (.int 0)])) rfl (by rw [hml]; rfl) (Steps.refl _) (argsL := []) (rest := [(.int 0)]) (lenOf pd__28_29I rfl) rfl (own_q rfl) (hb hby d6_4) (fun _ _ => ⟨rfl, e0, (by decide : 0 + 0 ≤ _), (by decide : 0 + 0 ≤ _)⟩)
  dsimp only [Pt.U, Pt.locs, Pt.cells, Pt.slots] at X1 l1 y1 z1 st1 hQ1
  obtain ⟨rfl, N1q, e1⟩ := hQ1
  obtain ⟨lc1, X1, N1⟩ := own_pack X1 l1 y1 z1 N0 N1q (C := 0) (S' := 0) rfl rfl
  refine own_thr (a := T1.setTop (mkF m 7 #[.val (.ref o0), .val (.ref o1), .val (.int 0), .unset, .unset] [(.int 1), (.int 0)])) (fun t kt => st1.trans kt) ?_
  refine own_thr (a := T1.setTop (mkF m 12 #[.val (.ref o0), .val (.ref o1), .val (.int 0), .unset, .unset] [(.ref o1), (.int 0)])) (fun t kt => ?_) ?_
  · refine XS.icmpNo X1.here hx rfl (hb hby d6_7) rfl (tlt (by decide)).2.1 ?_
    refine XS.iloadN X1.here hx rfl (hb hby d6_10) rfl ?_
    refine XS.aloadN X1.here hx rfl (hb hby d6_11) rfl rfl ?_
    exact kt
  obtain ⟨cq2, kq2, q2a, q2b, q2c⟩ := isOf hZ e1 UB.1
  obtain ⟨_, _, ⟨T2, L2, k2, n2⟩, -, X2, ⟨Lc2, hQ2, l2, y2, z2⟩, st2⟩ := X1.virtualBack hx (y := own_m22) (z := own_m22) hown (mvT hZ (hw _ (own_i 37 rfl))) (mvT hZ (hw _ (own_i 38 rfl))) (notFace_of_selects (args := #[]) (mvT hZ (hw _ (own_i 40 rfl)))) (mvT hZ (hw _ (own_i 40 rfl))) (mvT hZ (hw _ (own_i 39 rfl))) (by decide) (backOf (W := 1) (rmLU2 l Z a0 hw [] o1 w0 w1 cs fm h0 n0 Z0 UB hKs hO) hZ (hw _ (own_i 41 rfl)) (hw _ (own_i 13 rfl)) (by decide) (by decide)) q2a q2c (g := (mkF m 12 #[.val (.ref o0), .val (.ref o1), .val (.int 0), .unset, .unset] [(.ref o1), (.int 0)])) rfl (by rw [hml]; rfl) (Steps.refl _) (argsL := []) (rest := [(.int 0)]) (lenOf pd__28_29I rfl) rfl (own_q rfl) (hb hby d6_12) (fun _ _ => ⟨rfl, e1, (by decide : 0 + 0 ≤ _), (by decide : 0 + 0 ≤ _)⟩)
  dsimp only [Pt.U, Pt.locs, Pt.cells, Pt.slots] at X2 l2 y2 z2 st2 hQ2
  obtain ⟨rfl, N2q, e2⟩ := hQ2
  obtain ⟨lc2, X2, N2⟩ := own_pack X2 l2 y2 z2 N1 N2q (C := 0) (S' := 0) rfl rfl
  refine own_thr (a := T2.setTop (mkF m 15 #[.val (.ref o0), .val (.ref o1), .val (.int 0), .unset, .unset] [(.int 2), (.int 0)])) (fun t kt => st2.trans kt) ?_
  refine own_thr (a := T2.setTop (mkF m 20 #[.val (.ref o0), .val (.ref o1), .val (.int 0), .unset, .unset] [(.int 0), (.ref o0)])) (fun t kt => ?_) ?_
  · refine XS.icmpNo X2.here hx rfl (hb hby d6_15) rfl (tlt (by decide)).2.1 ?_
    refine XS.aloadN X2.here hx rfl (hb hby d6_18) rfl rfl ?_
    refine XS.iloadN X2.here hx rfl (hb hby d6_19) rfl ?_
    exact kt
  obtain ⟨cq3, kq3, q3a, q3b, q3c⟩ := isOf hZ e2 UA.1
  obtain ⟨_, _, ⟨T3, L3, k3, n3⟩, -, X3, ⟨Lc3, hQ3, l3, y3, z3⟩, st3⟩ := X2.virtualBack hx (y := own_m23) (z := own_m23) hown (mvT hZ (hw _ (own_i 90 rfl))) (mvT hZ (hw _ (own_i 91 rfl))) (notFace_of_selects (args := #[]) (mvT hZ (hw _ (own_i 93 rfl)))) (mvT hZ (hw _ (own_i 93 rfl))) (mvT hZ (hw _ (own_i 92 rfl))) (by decide) (backOf (W := 0) (rmCU10 l Z a0 hw [] o0 x0 cs fm h0 n0 Z0 UA hKs hO) hZ (hw _ (own_i 94 rfl)) (hw _ (own_i 13 rfl)) (by decide) (by decide)) q3a q3c (g := (mkF m 20 #[.val (.ref o0), .val (.ref o1), .val (.int 0), .unset, .unset] [(.int 0), (.ref o0)])) rfl (by rw [hml]; rfl) (Steps.refl _) (argsL := [(.int 0)]) (rest := []) (lenOf pd__28I_29I rfl) rfl (own_q rfl) (hb hby d6_20) (fun _ _ => ⟨rfl, e2, (by decide : 0 + 0 ≤ _), (by decide : 0 + 0 ≤ _)⟩)
  dsimp only [Pt.U, Pt.locs, Pt.cells, Pt.slots] at X3 l3 y3 z3 st3 hQ3
  obtain ⟨rfl, N3q, e3⟩ := hQ3
  obtain ⟨lc3, X3, N3⟩ := own_pack X3 l3 y3 z3 N2 N3q (C := 0) (S' := 0) rfl rfl
  refine own_thr (a := T3.setTop (mkF m 23 #[.val (.ref o0), .val (.ref o1), .val (.int 0), .unset, .unset] [(.int x0)])) (fun t kt => st3.trans kt) ?_
  refine own_thr (a := T3.setTop (mkF m 26 #[.val (.ref o0), .val (.ref o1), .val (.int 0), .val (.int x0), .unset] [(.int 0), (.ref o1)])) (fun t kt => ?_) ?_
  · refine XS.istoreN X3.here hx rfl (hb hby d6_23) rfl (l' := #[.val (.ref o0), .val (.ref o1), .val (.int 0), .val (.int x0), .unset]) rfl ?_
    refine XS.aloadN X3.here hx rfl (hb hby d6_24) rfl rfl ?_
    refine XS.iloadN X3.here hx rfl (hb hby d6_25) rfl ?_
    exact kt
  obtain ⟨cq4, kq4, q4a, q4b, q4c⟩ := isOf hZ e3 UB.1
  obtain ⟨_, _, ⟨T4, L4, k4, n4⟩, -, X4, ⟨Lc4, hQ4, l4, y4, z4⟩, st4⟩ := X3.virtualBack hx (y := own_m23) (z := own_m23) hown (mvT hZ (hw _ (own_i 90 rfl))) (mvT hZ (hw _ (own_i 91 rfl))) (notFace_of_selects (args := #[]) (mvT hZ (hw _ (own_i 93 rfl)))) (mvT hZ (hw _ (own_i 93 rfl))) (mvT hZ (hw _ (own_i 92 rfl))) (by decide) (backOf (W := 0) (rmCU20 l Z a0 hw [] o1 w0 w1 cs fm h0 n0 Z0 UB hKs hO) hZ (hw _ (own_i 94 rfl)) (hw _ (own_i 13 rfl)) (by decide) (by decide)) q4a q4c (g := (mkF m 26 #[.val (.ref o0), .val (.ref o1), .val (.int 0), .val (.int x0), .unset] [(.int 0), (.ref o1)])) rfl (by rw [hml]; rfl) (Steps.refl _) (argsL := [(.int 0)]) (rest := []) (lenOf pd__28I_29I rfl) rfl (own_q rfl) (hb hby d6_26) (fun _ _ => ⟨rfl, e3, (by decide : 0 + 0 ≤ _), (by decide : 0 + 0 ≤ _)⟩)
  dsimp only [Pt.U, Pt.locs, Pt.cells, Pt.slots] at X4 l4 y4 z4 st4 hQ4
  obtain ⟨rfl, N4q, e4⟩ := hQ4
  obtain ⟨lc4, X4, N4⟩ := own_pack X4 l4 y4 z4 N3 N4q (C := 0) (S' := 0) rfl rfl
  refine own_thr (a := T4.setTop (mkF m 29 #[.val (.ref o0), .val (.ref o1), .val (.int 0), .val (.int x0), .unset] [(.int (own_cp w0 w1))])) (fun t kt => st4.trans kt) ?_
  refine own_thr (a := T4.setTop (mkF m 34 #[.val (.ref o0), .val (.ref o1), .val (.int 0), .val (.int x0), .val (.int (own_cp w0 w1))] [(.int (own_cp w0 w1)), (.int x0)])) (fun t kt => ?_) ?_
  · refine XS.istore X4.here hx rfl (hb hby d6_29) rfl (l' := #[.val (.ref o0), .val (.ref o1), .val (.int 0), .val (.int x0), .val (.int (own_cp w0 w1))]) rfl ?_
    refine XS.iloadN X4.here hx rfl (hb hby d6_31) rfl ?_
    refine XS.iload X4.here hx rfl (hb hby d6_32) rfl ?_
    exact kt
  by_cases hc5 : x0 = (own_cp w0 w1)
  · refine own_thr (a := T4.setTop (mkF m 46 #[.val (.ref o0), .val (.ref o1), .val (.int 0), .val (.int x0), .val (.int (own_cp w0 w1))] [(.int x0), (.int 0)])) (fun t kt => ?_) ?_
    · refine XS.icmpYes X4.here hx rfl (pc0 := 34) (pc' := 44) rfl (hb hby d6_34) rfl (teq hc5).1 (by decide) (by decide) ?_
      refine XS.iloadN X4.here hx rfl (hb hby d6_44) rfl ?_
      refine XS.iloadN X4.here hx rfl (hb hby d6_45) rfl ?_
      exact kt
    obtain ⟨_, _, ⟨T6, L6, k6, n6⟩, -, X6, ⟨Lc6, hQ6, l6, y6, z6⟩, st6⟩ := Jvm.LawKit.callS X4 hx (y := own_m19) hown (mvT hZ (hw _ (own_i 120 rfl))) (mvT hZ (hw _ (own_i 121 rfl))) (mvT hZ (hw _ (own_i 116 rfl))) (mvT hZ (hw _ (own_i 122 rfl))) (by decide) (backOf (W := 1) (rmCC1 l Z a0 hw [] x0 h0 n0 Z0 hx0.ge) hZ (hw _ (own_i 122 rfl)) (hw _ (own_i 116 rfl)) (by decide) (by decide)) (g := (mkF m 46 #[.val (.ref o0), .val (.ref o1), .val (.int 0), .val (.int x0), .val (.int (own_cp w0 w1))] [(.int x0), (.int 0)])) rfl (by rw [hml]; rfl) (argsL := [(.int x0)]) (rest := [(.int 0)]) (lenOf pd__28I_29I rfl) rfl (own_q rfl) (hb hby d6_46) (fun _ _ => ⟨rfl, e4, (by decide : 0 + 0 ≤ _), (by decide : 0 + 0 ≤ _)⟩)
    dsimp only [Pt.U, Pt.locs, Pt.cells, Pt.slots] at X6 l6 y6 z6 st6 hQ6
    obtain ⟨rfl, N6q, e6⟩ := hQ6
    obtain ⟨lc6, X6, N6⟩ := own_pack X6 l6 y6 z6 N4 N6q (C := 0) (S' := 0) rfl rfl
    refine own_thr (a := T6.setTop (mkF m 49 #[.val (.ref o0), .val (.ref o1), .val (.int 0), .val (.int x0), .val (.int (own_cp w0 w1))] [(.int 1), (.int 0)])) (fun t kt => st6 t kt) ?_
    refine own_thr (a := T6.setTop (mkF m 4 #[.val (.ref o0), .val (.ref o1), .val (.int 1), .val (.int x0), .val (.int (own_cp w0 w1))] [(.ref o0), (.int 1)])) (fun t kt => ?_) ?_
    · refine XS.iadd X6.here hx rfl (hb hby d6_49) rfl ?_
      refine XS.istoreN X6.here hx rfl (hb hby d6_50) rfl (l' := #[.val (.ref o0), .val (.ref o1), .val (.int 1), .val (.int x0), .val (.int (own_cp w0 w1))]) rfl ?_
      refine XS.goto X6.here hx rfl (pc0 := 51) (pc' := 2) rfl (hb hby d6_51) (by decide) (by decide) ?_
      refine XS.iloadN X6.here hx rfl (hb hby d6_2) rfl ?_
      refine XS.aloadN X6.here hx rfl (hb hby d6_3) rfl rfl ?_
      exact kt
    obtain ⟨cq7, kq7, q7a, q7b, q7c⟩ := isOf hZ e6 UA.1
    obtain ⟨_, _, ⟨T7, L7, k7, n7⟩, -, X7, ⟨Lc7, hQ7, l7, y7, z7⟩, st7⟩ := X6.virtualBack hx (y := own_m22) (z := own_m22) hown (mvT hZ (hw _ (own_i 37 rfl))) (mvT hZ (hw _ (own_i 38 rfl))) (notFace_of_selects (args := #[]) (mvT hZ (hw _ (own_i 40 rfl)))) (mvT hZ (hw _ (own_i 40 rfl))) (mvT hZ (hw _ (own_i 39 rfl))) (by decide) (backOf (W := 1) (rmLU1 l Z a0 hw [] o0 x0 cs fm h0 n0 Z0 UA hKs hO) hZ (hw _ (own_i 41 rfl)) (hw _ (own_i 13 rfl)) (by decide) (by decide)) q7a q7c (g := (mkF m 4 #[.val (.ref o0), .val (.ref o1), .val (.int 1), .val (.int x0), .val (.int (own_cp w0 w1))] [(.ref o0), (.int 1)])) rfl (by rw [hml]; rfl) (Steps.refl _) (argsL := []) (rest := [(.int 1)]) (lenOf pd__28_29I rfl) rfl (own_q rfl) (hb hby d6_4) (fun _ _ => ⟨rfl, e6, (by decide : 0 + 0 ≤ _), (by decide : 0 + 0 ≤ _)⟩)
    dsimp only [Pt.U, Pt.locs, Pt.cells, Pt.slots] at X7 l7 y7 z7 st7 hQ7
    obtain ⟨rfl, N7q, e7⟩ := hQ7
    obtain ⟨lc7, X7, N7⟩ := own_pack X7 l7 y7 z7 N6 N7q (C := 0) (S' := 0) rfl rfl
    refine own_thr (a := T7.setTop (mkF m 7 #[.val (.ref o0), .val (.ref o1), .val (.int 1), .val (.int x0), .val (.int (own_cp w0 w1))] [(.int 1), (.int 1)])) (fun t kt => st7.trans kt) ?_
    refine own_thr (a := T7.setTop (mkF m 55 #[.val (.ref o0), .val (.ref o1), .val (.int 1), .val (.int x0), .val (.int (own_cp w0 w1))] [(.ref o0)])) (fun t kt => ?_) ?_
    · refine XS.icmpYes X7.here hx rfl (pc0 := 7) (pc' := 54) rfl (hb hby d6_7) rfl (flt (by decide)).2.1 (by decide) (by decide) ?_
      refine XS.aloadN X7.here hx rfl (hb hby d6_54) rfl rfl ?_
      exact kt
    obtain ⟨cq8, kq8, q8a, q8b, q8c⟩ := isOf hZ e7 UA.1
    obtain ⟨_, _, ⟨T8, L8, k8, n8⟩, -, X8, ⟨Lc8, hQ8, l8, y8, z8⟩, st8⟩ := X7.virtualBack hx (y := own_m22) (z := own_m22) hown (mvT hZ (hw _ (own_i 37 rfl))) (mvT hZ (hw _ (own_i 38 rfl))) (notFace_of_selects (args := #[]) (mvT hZ (hw _ (own_i 40 rfl)))) (mvT hZ (hw _ (own_i 40 rfl))) (mvT hZ (hw _ (own_i 39 rfl))) (by decide) (backOf (W := 0) (rmLU1 l Z a0 hw [] o0 x0 cs fm h0 n0 Z0 UA hKs hO) hZ (hw _ (own_i 41 rfl)) (hw _ (own_i 13 rfl)) (by decide) (by decide)) q8a q8c (g := (mkF m 55 #[.val (.ref o0), .val (.ref o1), .val (.int 1), .val (.int x0), .val (.int (own_cp w0 w1))] [(.ref o0)])) rfl (by rw [hml]; rfl) (Steps.refl _) (argsL := []) (rest := []) (lenOf pd__28_29I rfl) rfl (own_q rfl) (hb hby d6_55) (fun _ _ => ⟨rfl, e7, (by decide : 0 + 0 ≤ _), (by decide : 0 + 0 ≤ _)⟩)
    dsimp only [Pt.U, Pt.locs, Pt.cells, Pt.slots] at X8 l8 y8 z8 st8 hQ8
    obtain ⟨rfl, N8q, e8⟩ := hQ8
    obtain ⟨lc8, X8, N8⟩ := own_pack X8 l8 y8 z8 N7 N8q (C := 0) (S' := 0) rfl rfl
    refine own_thr (a := T8.setTop (mkF m 58 #[.val (.ref o0), .val (.ref o1), .val (.int 1), .val (.int x0), .val (.int (own_cp w0 w1))] [(.int 1)])) (fun t kt => st8.trans kt) ?_
    refine own_thr (a := T8.setTop (mkF m 59 #[.val (.ref o0), .val (.ref o1), .val (.int 1), .val (.int x0), .val (.int (own_cp w0 w1))] [(.ref o1), (.int 1)])) (fun t kt => ?_) ?_
    · refine XS.aloadN X8.here hx rfl (hb hby d6_58) rfl rfl ?_
      exact kt
    obtain ⟨cq9, kq9, q9a, q9b, q9c⟩ := isOf hZ e8 UB.1
    obtain ⟨_, _, ⟨T9, L9, k9, n9⟩, -, X9, ⟨Lc9, hQ9, l9, y9, z9⟩, st9⟩ := X8.virtualBack hx (y := own_m22) (z := own_m22) hown (mvT hZ (hw _ (own_i 37 rfl))) (mvT hZ (hw _ (own_i 38 rfl))) (notFace_of_selects (args := #[]) (mvT hZ (hw _ (own_i 40 rfl)))) (mvT hZ (hw _ (own_i 40 rfl))) (mvT hZ (hw _ (own_i 39 rfl))) (by decide) (backOf (W := 1) (rmLU2 l Z a0 hw [] o1 w0 w1 cs fm h0 n0 Z0 UB hKs hO) hZ (hw _ (own_i 41 rfl)) (hw _ (own_i 13 rfl)) (by decide) (by decide)) q9a q9c (g := (mkF m 59 #[.val (.ref o0), .val (.ref o1), .val (.int 1), .val (.int x0), .val (.int (own_cp w0 w1))] [(.ref o1), (.int 1)])) rfl (by rw [hml]; rfl) (Steps.refl _) (argsL := []) (rest := [(.int 1)]) (lenOf pd__28_29I rfl) rfl (own_q rfl) (hb hby d6_59) (fun _ _ => ⟨rfl, e8, (by decide : 0 + 0 ≤ _), (by decide : 0 + 0 ≤ _)⟩)
    dsimp only [Pt.U, Pt.locs, Pt.cells, Pt.slots] at X9 l9 y9 z9 st9 hQ9
    obtain ⟨rfl, N9q, e9⟩ := hQ9
    obtain ⟨lc9, X9, N9⟩ := own_pack X9 l9 y9 z9 N8 N9q (C := 0) (S' := 0) rfl rfl
    refine own_thr (a := T9.setTop (mkF m 62 #[.val (.ref o0), .val (.ref o1), .val (.int 1), .val (.int x0), .val (.int (own_cp w0 w1))] [(.int 2), (.int 1)])) (fun t kt => st9.trans kt) ?_
    obtain ⟨_, _, ⟨T10, L10, k10, n10⟩, -, X10, ⟨Lc10, hQ10, l10, y10, z10⟩, st10⟩ := Jvm.LawKit.callS X9 hx (y := own_m24) hown (mvT hZ (hw _ (own_i 48 rfl))) (mvT hZ (hw _ (own_i 49 rfl))) (mvT hZ (hw _ (own_i 50 rfl))) (mvT hZ (hw _ (own_i 51 rfl))) (by decide) (backOf (W := 0) (rmIC l Z a0 hw [] (1 : Int32) (2 : Int32) h0 n0 Z0) hZ (hw _ (own_i 51 rfl)) (hw _ (own_i 50 rfl)) (by decide) (by decide)) (g := (mkF m 62 #[.val (.ref o0), .val (.ref o1), .val (.int 1), .val (.int x0), .val (.int (own_cp w0 w1))] [(.int 2), (.int 1)])) rfl (by rw [hml]; rfl) (argsL := [(.int 1), (.int 2)]) (rest := []) (lenOf pd__28II_29I rfl) rfl (own_q rfl) (hb hby d6_62) (fun _ _ => ⟨rfl, e9, (by decide : 0 + 0 ≤ _), (by decide : 0 + 0 ≤ _)⟩)
    dsimp only [Pt.U, Pt.locs, Pt.cells, Pt.slots] at X10 l10 y10 z10 st10 hQ10
    obtain ⟨rfl, N10q, e10⟩ := hQ10
    obtain ⟨lc10, X10, N10⟩ := own_pack X10 l10 y10 z10 N9 N10q (C := 0) (S' := 0) rfl rfl
    refine own_thr (a := T10.setTop (mkF m 65 #[.val (.ref o0), .val (.ref o1), .val (.int 1), .val (.int x0), .val (.int (own_cp w0 w1))] [(.int (f_rmIC (1 : Int32) (2 : Int32)))])) (fun t kt => st10 t kt) ?_
    exact own_end X10 hlk (v := some (.int (f_rmIC (1 : Int32) (2 : Int32)))) (fun h => by rw [Bd.returns] at h; cases h) (fun fs hr => retI X10 hx Bd.returns (hb hby d6_65) hr) (by rw [e10]; exact ⟨(by rw [f_rmCM12, if_pos hc5]), N10, rfl⟩) (by decide : 0 ≤ _) (by decide : 0 ≤ _)
  · refine own_thr (a := T4.setTop (mkF m 40 #[.val (.ref o0), .val (.ref o1), .val (.int 0), .val (.int x0), .val (.int (own_cp w0 w1))] [(.int (own_cp w0 w1)), (.int x0)])) (fun t kt => ?_) ?_
    · refine XS.icmpNo X4.here hx rfl (hb hby d6_34) rfl (feq hc5).1 ?_
      refine XS.iloadN X4.here hx rfl (hb hby d6_37) rfl ?_
      refine XS.iload X4.here hx rfl (hb hby d6_38) rfl ?_
      exact kt
    obtain ⟨_, _, ⟨T11, L11, k11, n11⟩, -, X11, ⟨Lc11, hQ11, l11, y11, z11⟩, st11⟩ := Jvm.LawKit.callS X4 hx (y := own_m24) hown (mvT hZ (hw _ (own_i 48 rfl))) (mvT hZ (hw _ (own_i 49 rfl))) (mvT hZ (hw _ (own_i 50 rfl))) (mvT hZ (hw _ (own_i 51 rfl))) (by decide) (backOf (W := 0) (rmIC l Z a0 hw [] x0 (own_cp w0 w1) h0 n0 Z0) hZ (hw _ (own_i 51 rfl)) (hw _ (own_i 50 rfl)) (by decide) (by decide)) (g := (mkF m 40 #[.val (.ref o0), .val (.ref o1), .val (.int 0), .val (.int x0), .val (.int (own_cp w0 w1))] [(.int (own_cp w0 w1)), (.int x0)])) rfl (by rw [hml]; rfl) (argsL := [(.int x0), (.int (own_cp w0 w1))]) (rest := []) (lenOf pd__28II_29I rfl) rfl (own_q rfl) (hb hby d6_40) (fun _ _ => ⟨rfl, e4, (by decide : 0 + 0 ≤ _), (by decide : 0 + 0 ≤ _)⟩)
    dsimp only [Pt.U, Pt.locs, Pt.cells, Pt.slots] at X11 l11 y11 z11 st11 hQ11
    obtain ⟨rfl, N11q, e11⟩ := hQ11
    obtain ⟨lc11, X11, N11⟩ := own_pack X11 l11 y11 z11 N4 N11q (C := 0) (S' := 0) rfl rfl
    refine own_thr (a := T11.setTop (mkF m 43 #[.val (.ref o0), .val (.ref o1), .val (.int 0), .val (.int x0), .val (.int (own_cp w0 w1))] [(.int (f_rmIC x0 (own_cp w0 w1)))])) (fun t kt => st11 t kt) ?_
    exact own_end X11 hlk (v := some (.int (f_rmIC x0 (own_cp w0 w1)))) (fun h => by rw [Bd.returns] at h; cases h) (fun fs hr => retI X11 hx Bd.returns (hb hby d6_43) hr) (by rw [e11]; exact ⟨(by rw [f_rmCM12, if_neg hc5]), N11, rfl⟩) (by decide : 0 ≤ _) (by decide : 0 ≤ _)
theorem ef_rmCM20 (m : MethodId) (o0 : Addr) (o1 : Addr)  : entryFrame m #[(.ref o0), (.ref o1)] 5 = mkF m 0 #[.val (.ref o0), .val (.ref o1), .unset, .unset, .unset] [] := by first |  (simp [entryFrame, mkF, argsToLocals, Value.category]; done) | rfl
def f_rmCM20 (o0 : Addr) (o1 : Addr) (x0 : Int32) (x1 : Int32) (cs : Int32) (fm : Value) : Int32 := (f_rmIC (2 : Int32) (0 : Int32))
def Q_rmCM20 (Z : State) (o0 : Addr) (o1 : Addr) (x0 : Int32) (x1 : Int32) (cs : Int32) (fm : Value) (h0 : Heap) (n0 : Nat) (v : Option Value) (h : Heap) (L : List Loc) : Prop := v = some (.int (f_rmCM20 o0 o1 x0 x1 cs fm)) ∧ Fr n0 L ∧ h = h0
theorem rmCM20 (l : Launch) (Z : State) (a0 : Array Value) (hw : ∀ d ∈ tables_1, d.before a0 Z = true) (ws : List Jvm.Cond) (o0 : Addr) (o1 : Addr) (x0 : Int32) (x1 : Int32) (cs : Int32) (fm : Value) (h0 : Heap) (n0 : Nat) (Z0 : n0 ≤ h0.size) (hKs : own_K Z cs fm) (hO : Old Z n0 h0) (UA : own_U2 Z h0 o0 x0 x1) (UB : own_U0 Z h0 o1) (hx0 : own_R x0) (hx1 : own_R x1) :
    MetFree l own_m25 (head1 (Jvm.Cond.code own_m25 prog_2_method_2_code 5 (some .int) :: ws) ({ frames := 2, cells := 0, slots := 0, locals := 26 } : Room)) (fun a U => a = #[(.ref o0), (.ref o1)] ∧ Z.Warmed39 U.vm ∧ U.heap = h0) (fun _ _ _ _ _ => True) (fun _ U o U' => ∃ v L, o = .returned v ∧ Q_rmCM20 Z o0 o1 x0 x1 cs fm h0 n0 v U'.heap L ∧ FrameEnd U o U' L ({ frames := 2, cells := 0, slots := 0, locals := 26 } : Room).cells ({ frames := 2, cells := 0, slots := 0, locals := 26 } : Room).slots) := by
  refine MetFree.of_bodySF (plainFor_of_name pn_com_example_tiphys_tiphys_CodePointOrder) hisR ?_
  intro p e s m args below meth c s₁ Bd hml0 hP hK
  obtain ⟨rfl, hZ, hh⟩ := hP
  have hx := Bd.exec
  have hby := Bd.bytes
  have hml : c.maxLocals = 5 := hml0
  have hown : s.vm.findClass "com/example/tiphys/tiphys/CodePointOrder" = some m.cls := findClass_of_methodNamed Bd.named
  have hnm := (name_of_methodNamed Bd.named Bd.method).1
  have hlk := Bd.notSynchronized
  have X0 : Stand p l e ({ frames := 2, cells := 0, slots := 0, locals := 26 } : Room) s m #[(.ref o0), (.ref o1)] below meth c s₁ [] 0 0 := Stand.of_body Bd
  have e0 : s₁.heap = h0 := by rw [← hh, Bd.state]; rfl
  have N0 := Fr.nil n0
  show own_G p.tables e below s (Q_rmCM20 Z o0 o1 x0 x1 cs fm h0 n0) ({ frames := 2, cells := 0, slots := 0, locals := 26 } : Room).cells ({ frames := 2, cells := 0, slots := 0, locals := 26 } : Room).slots _
  refine own_thr (a := s₁.setTop (mkF m 0 #[.val (.ref o0), .val (.ref o1), .unset, .unset, .unset] [])) (fun t kt => castTop (ef_rmCM20 m o0 o1) kt) ?_
  refine own_thr (a := s₁.setTop (mkF m 4 #[.val (.ref o0), .val (.ref o1), .val (.int 0), .unset, .unset] [(.ref o0), (.int 0)])) (fun t kt => ?_) ?_
  · refine XS.iconst X0.here hx rfl (hb hby d6_0) ?_
    refine XS.istoreN X0.here hx rfl (hb hby d6_1) rfl (l' := #[.val (.ref o0), .val (.ref o1), .val (.int 0), .unset, .unset]) rfl ?_
    refine XS.iloadN X0.here hx rfl (hb hby d6_2) rfl ?_
    refine XS.aloadN X0.here hx rfl (hb hby d6_3) rfl rfl ?_
    exact kt
  obtain ⟨cq1, kq1, q1a, q1b, q1c⟩ := isOf hZ e0 UA.1
  obtain ⟨_, _, ⟨T1, L1, k1, n1⟩, -, X1, ⟨Lc1, hQ1, l1, y1, z1⟩, st1⟩ := X0.virtualBack hx (y := own_m22) (z := own_m22) hown (mvT hZ (hw _ (own_i 37 rfl))) (mvT hZ (hw _ (own_i 38 rfl))) (notFace_of_selects (args := #[]) (mvT hZ (hw _ (own_i 40 rfl)))) (mvT hZ (hw _ (own_i 40 rfl))) (mvT hZ (hw _ (own_i 39 rfl))) (by decide) (backOf (W := 1) (rmLU2 l Z a0 hw [] o0 x0 x1 cs fm h0 n0 Z0 UA hKs hO) hZ (hw _ (own_i 41 rfl)) (hw _ (own_i 13 rfl)) (by decide) (by decide)) q1a q1c (g := (mkF m 4 #[.val (.ref o0), .val (.ref o1), .val (.int 0), .unset, .unset] [(.ref o0), (.int 0)])) rfl (by rw [hml]; rfl) (Steps.refl _) (argsL := []) (rest := [(.int 0)]) (lenOf pd__28_29I rfl) rfl (own_q rfl) (hb hby d6_4) (fun _ _ => ⟨rfl, e0, (by decide : 0 + 0 ≤ _), (by decide : 0 + 0 ≤ _)⟩)
  dsimp only [Pt.U, Pt.locs, Pt.cells, Pt.slots] at X1 l1 y1 z1 st1 hQ1
  obtain ⟨rfl, N1q, e1⟩ := hQ1
  obtain ⟨lc1, X1, N1⟩ := own_pack X1 l1 y1 z1 N0 N1q (C := 0) (S' := 0) rfl rfl
  refine own_thr (a := T1.setTop (mkF m 7 #[.val (.ref o0), .val (.ref o1), .val (.int 0), .unset, .unset] [(.int 2), (.int 0)])) (fun t kt => st1.trans kt) ?_
  refine own_thr (a := T1.setTop (mkF m 12 #[.val (.ref o0), .val (.ref o1), .val (.int 0), .unset, .unset] [(.ref o1), (.int 0)])) (fun t kt => ?_) ?_
  · refine XS.icmpNo X1.here hx rfl (hb hby d6_7) rfl (tlt (by decide)).2.1 ?_
    refine XS.iloadN X1.here hx rfl (hb hby d6_10) rfl ?_
    refine XS.aloadN X1.here hx rfl (hb hby d6_11) rfl rfl ?_
    exact kt
  obtain ⟨cq2, kq2, q2a, q2b, q2c⟩ := isOf hZ e1 UB.1
  obtain ⟨_, _, ⟨T2, L2, k2, n2⟩, -, X2, ⟨Lc2, hQ2, l2, y2, z2⟩, st2⟩ := X1.virtualBack hx (y := own_m22) (z := own_m22) hown (mvT hZ (hw _ (own_i 37 rfl))) (mvT hZ (hw _ (own_i 38 rfl))) (notFace_of_selects (args := #[]) (mvT hZ (hw _ (own_i 40 rfl)))) (mvT hZ (hw _ (own_i 40 rfl))) (mvT hZ (hw _ (own_i 39 rfl))) (by decide) (backOf (W := 1) (rmLU0 l Z a0 hw [] o1  cs fm h0 n0 Z0 UB hKs hO) hZ (hw _ (own_i 41 rfl)) (hw _ (own_i 13 rfl)) (by decide) (by decide)) q2a q2c (g := (mkF m 12 #[.val (.ref o0), .val (.ref o1), .val (.int 0), .unset, .unset] [(.ref o1), (.int 0)])) rfl (by rw [hml]; rfl) (Steps.refl _) (argsL := []) (rest := [(.int 0)]) (lenOf pd__28_29I rfl) rfl (own_q rfl) (hb hby d6_12) (fun _ _ => ⟨rfl, e1, (by decide : 0 + 0 ≤ _), (by decide : 0 + 0 ≤ _)⟩)
  dsimp only [Pt.U, Pt.locs, Pt.cells, Pt.slots] at X2 l2 y2 z2 st2 hQ2
  obtain ⟨rfl, N2q, e2⟩ := hQ2
  obtain ⟨lc2, X2, N2⟩ := own_pack X2 l2 y2 z2 N1 N2q (C := 0) (S' := 0) rfl rfl
  refine own_thr (a := T2.setTop (mkF m 15 #[.val (.ref o0), .val (.ref o1), .val (.int 0), .unset, .unset] [(.int 0), (.int 0)])) (fun t kt => st2.trans kt) ?_
  refine own_thr (a := T2.setTop (mkF m 55 #[.val (.ref o0), .val (.ref o1), .val (.int 0), .unset, .unset] [(.ref o0)])) (fun t kt => ?_) ?_
  · refine XS.icmpYes X2.here hx rfl (pc0 := 15) (pc' := 54) rfl (hb hby d6_15) rfl (flt (by decide)).2.1 (by decide) (by decide) ?_
    refine XS.aloadN X2.here hx rfl (hb hby d6_54) rfl rfl ?_
    exact kt
  obtain ⟨cq3, kq3, q3a, q3b, q3c⟩ := isOf hZ e2 UA.1
  obtain ⟨_, _, ⟨T3, L3, k3, n3⟩, -, X3, ⟨Lc3, hQ3, l3, y3, z3⟩, st3⟩ := X2.virtualBack hx (y := own_m22) (z := own_m22) hown (mvT hZ (hw _ (own_i 37 rfl))) (mvT hZ (hw _ (own_i 38 rfl))) (notFace_of_selects (args := #[]) (mvT hZ (hw _ (own_i 40 rfl)))) (mvT hZ (hw _ (own_i 40 rfl))) (mvT hZ (hw _ (own_i 39 rfl))) (by decide) (backOf (W := 0) (rmLU2 l Z a0 hw [] o0 x0 x1 cs fm h0 n0 Z0 UA hKs hO) hZ (hw _ (own_i 41 rfl)) (hw _ (own_i 13 rfl)) (by decide) (by decide)) q3a q3c (g := (mkF m 55 #[.val (.ref o0), .val (.ref o1), .val (.int 0), .unset, .unset] [(.ref o0)])) rfl (by rw [hml]; rfl) (Steps.refl _) (argsL := []) (rest := []) (lenOf pd__28_29I rfl) rfl (own_q rfl) (hb hby d6_55) (fun _ _ => ⟨rfl, e2, (by decide : 0 + 0 ≤ _), (by decide : 0 + 0 ≤ _)⟩)
  dsimp only [Pt.U, Pt.locs, Pt.cells, Pt.slots] at X3 l3 y3 z3 st3 hQ3
  obtain ⟨rfl, N3q, e3⟩ := hQ3
  obtain ⟨lc3, X3, N3⟩ := own_pack X3 l3 y3 z3 N2 N3q (C := 0) (S' := 0) rfl rfl
  refine own_thr (a := T3.setTop (mkF m 58 #[.val (.ref o0), .val (.ref o1), .val (.int 0), .unset, .unset] [(.int 2)])) (fun t kt => st3.trans kt) ?_
  refine own_thr (a := T3.setTop (mkF m 59 #[.val (.ref o0), .val (.ref o1), .val (.int 0), .unset, .unset] [(.ref o1), (.int 2)])) (fun t kt => ?_) ?_
  · refine XS.aloadN X3.here hx rfl (hb hby d6_58) rfl rfl ?_
    exact kt
  obtain ⟨cq4, kq4, q4a, q4b, q4c⟩ := isOf hZ e3 UB.1
  obtain ⟨_, _, ⟨T4, L4, k4, n4⟩, -, X4, ⟨Lc4, hQ4, l4, y4, z4⟩, st4⟩ := X3.virtualBack hx (y := own_m22) (z := own_m22) hown (mvT hZ (hw _ (own_i 37 rfl))) (mvT hZ (hw _ (own_i 38 rfl))) (notFace_of_selects (args := #[]) (mvT hZ (hw _ (own_i 40 rfl)))) (mvT hZ (hw _ (own_i 40 rfl))) (mvT hZ (hw _ (own_i 39 rfl))) (by decide) (backOf (W := 1) (rmLU0 l Z a0 hw [] o1  cs fm h0 n0 Z0 UB hKs hO) hZ (hw _ (own_i 41 rfl)) (hw _ (own_i 13 rfl)) (by decide) (by decide)) q4a q4c (g := (mkF m 59 #[.val (.ref o0), .val (.ref o1), .val (.int 0), .unset, .unset] [(.ref o1), (.int 2)])) rfl (by rw [hml]; rfl) (Steps.refl _) (argsL := []) (rest := [(.int 2)]) (lenOf pd__28_29I rfl) rfl (own_q rfl) (hb hby d6_59) (fun _ _ => ⟨rfl, e3, (by decide : 0 + 0 ≤ _), (by decide : 0 + 0 ≤ _)⟩)
  dsimp only [Pt.U, Pt.locs, Pt.cells, Pt.slots] at X4 l4 y4 z4 st4 hQ4
  obtain ⟨rfl, N4q, e4⟩ := hQ4
  obtain ⟨lc4, X4, N4⟩ := own_pack X4 l4 y4 z4 N3 N4q (C := 0) (S' := 0) rfl rfl
  refine own_thr (a := T4.setTop (mkF m 62 #[.val (.ref o0), .val (.ref o1), .val (.int 0), .unset, .unset] [(.int 0), (.int 2)])) (fun t kt => st4.trans kt) ?_
  obtain ⟨_, _, ⟨T5, L5, k5, n5⟩, -, X5, ⟨Lc5, hQ5, l5, y5, z5⟩, st5⟩ := Jvm.LawKit.callS X4 hx (y := own_m24) hown (mvT hZ (hw _ (own_i 48 rfl))) (mvT hZ (hw _ (own_i 49 rfl))) (mvT hZ (hw _ (own_i 50 rfl))) (mvT hZ (hw _ (own_i 51 rfl))) (by decide) (backOf (W := 0) (rmIC l Z a0 hw [] (2 : Int32) (0 : Int32) h0 n0 Z0) hZ (hw _ (own_i 51 rfl)) (hw _ (own_i 50 rfl)) (by decide) (by decide)) (g := (mkF m 62 #[.val (.ref o0), .val (.ref o1), .val (.int 0), .unset, .unset] [(.int 0), (.int 2)])) rfl (by rw [hml]; rfl) (argsL := [(.int 2), (.int 0)]) (rest := []) (lenOf pd__28II_29I rfl) rfl (own_q rfl) (hb hby d6_62) (fun _ _ => ⟨rfl, e4, (by decide : 0 + 0 ≤ _), (by decide : 0 + 0 ≤ _)⟩)
  dsimp only [Pt.U, Pt.locs, Pt.cells, Pt.slots] at X5 l5 y5 z5 st5 hQ5
  obtain ⟨rfl, N5q, e5⟩ := hQ5
  obtain ⟨lc5, X5, N5⟩ := own_pack X5 l5 y5 z5 N4 N5q (C := 0) (S' := 0) rfl rfl
  refine own_thr (a := T5.setTop (mkF m 65 #[.val (.ref o0), .val (.ref o1), .val (.int 0), .unset, .unset] [(.int (f_rmIC (2 : Int32) (0 : Int32)))])) (fun t kt => st5 t kt) ?_
  exact own_end X5 hlk (v := some (.int (f_rmIC (2 : Int32) (0 : Int32)))) (fun h => by rw [Bd.returns] at h; cases h) (fun fs hr => retI X5 hx Bd.returns (hb hby d6_65) hr) (by rw [e5]; exact ⟨(by rw [f_rmCM20]), N5, rfl⟩) (by decide : 0 ≤ _) (by decide : 0 ≤ _)
theorem ef_rmCM21 (m : MethodId) (o0 : Addr) (o1 : Addr)  : entryFrame m #[(.ref o0), (.ref o1)] 5 = mkF m 0 #[.val (.ref o0), .val (.ref o1), .unset, .unset, .unset] [] := by first |  (simp [entryFrame, mkF, argsToLocals, Value.category]; done) | rfl
def f_rmCM21 (o0 : Addr) (o1 : Addr) (x0 : Int32) (x1 : Int32) (w0 : Int32) (cs : Int32) (fm : Value) : Int32 := if (own_cp x0 x1) = w0 then (f_rmIC (2 : Int32) (1 : Int32)) else (f_rmIC (own_cp x0 x1) w0)
def Q_rmCM21 (Z : State) (o0 : Addr) (o1 : Addr) (x0 : Int32) (x1 : Int32) (w0 : Int32) (cs : Int32) (fm : Value) (h0 : Heap) (n0 : Nat) (v : Option Value) (h : Heap) (L : List Loc) : Prop := v = some (.int (f_rmCM21 o0 o1 x0 x1 w0 cs fm)) ∧ Fr n0 L ∧ h = h0
theorem rmCM21 (l : Launch) (Z : State) (a0 : Array Value) (hw : ∀ d ∈ tables_1, d.before a0 Z = true) (ws : List Jvm.Cond) (o0 : Addr) (o1 : Addr) (x0 : Int32) (x1 : Int32) (w0 : Int32) (cs : Int32) (fm : Value) (h0 : Heap) (n0 : Nat) (Z0 : n0 ≤ h0.size) (hKs : own_K Z cs fm) (hO : Old Z n0 h0) (UA : own_U2 Z h0 o0 x0 x1) (UB : own_U1 Z h0 o1 w0) (hx0 : own_R x0) (hx1 : own_R x1) (hw0 : own_R w0) :
    MetFree l own_m25 (head1 (Jvm.Cond.code own_m25 prog_2_method_2_code 5 (some .int) :: ws) ({ frames := 4, cells := 0, slots := 0, locals := 58 } : Room)) (fun a U => a = #[(.ref o0), (.ref o1)] ∧ Z.Warmed39 U.vm ∧ U.heap = h0) (fun _ _ _ _ _ => True) (fun _ U o U' => ∃ v L, o = .returned v ∧ Q_rmCM21 Z o0 o1 x0 x1 w0 cs fm h0 n0 v U'.heap L ∧ FrameEnd U o U' L ({ frames := 4, cells := 0, slots := 0, locals := 58 } : Room).cells ({ frames := 4, cells := 0, slots := 0, locals := 58 } : Room).slots) := by
  refine MetFree.of_bodySF (plainFor_of_name pn_com_example_tiphys_tiphys_CodePointOrder) hisR ?_
  intro p e s m args below meth c s₁ Bd hml0 hP hK
  obtain ⟨rfl, hZ, hh⟩ := hP
  have hx := Bd.exec
  have hby := Bd.bytes
  have hml : c.maxLocals = 5 := hml0
  have hown : s.vm.findClass "com/example/tiphys/tiphys/CodePointOrder" = some m.cls := findClass_of_methodNamed Bd.named
  have hnm := (name_of_methodNamed Bd.named Bd.method).1
  have hlk := Bd.notSynchronized
  have X0 : Stand p l e ({ frames := 4, cells := 0, slots := 0, locals := 58 } : Room) s m #[(.ref o0), (.ref o1)] below meth c s₁ [] 0 0 := Stand.of_body Bd
  have e0 : s₁.heap = h0 := by rw [← hh, Bd.state]; rfl
  have N0 := Fr.nil n0
  show own_G p.tables e below s (Q_rmCM21 Z o0 o1 x0 x1 w0 cs fm h0 n0) ({ frames := 4, cells := 0, slots := 0, locals := 58 } : Room).cells ({ frames := 4, cells := 0, slots := 0, locals := 58 } : Room).slots _
  refine own_thr (a := s₁.setTop (mkF m 0 #[.val (.ref o0), .val (.ref o1), .unset, .unset, .unset] [])) (fun t kt => castTop (ef_rmCM21 m o0 o1) kt) ?_
  refine own_thr (a := s₁.setTop (mkF m 4 #[.val (.ref o0), .val (.ref o1), .val (.int 0), .unset, .unset] [(.ref o0), (.int 0)])) (fun t kt => ?_) ?_
  · refine XS.iconst X0.here hx rfl (hb hby d6_0) ?_
    refine XS.istoreN X0.here hx rfl (hb hby d6_1) rfl (l' := #[.val (.ref o0), .val (.ref o1), .val (.int 0), .unset, .unset]) rfl ?_
    refine XS.iloadN X0.here hx rfl (hb hby d6_2) rfl ?_
    refine XS.aloadN X0.here hx rfl (hb hby d6_3) rfl rfl ?_
    exact kt
  obtain ⟨cq1, kq1, q1a, q1b, q1c⟩ := isOf hZ e0 UA.1
  obtain ⟨_, _, ⟨T1, L1, k1, n1⟩, -, X1, ⟨Lc1, hQ1, l1, y1, z1⟩, st1⟩ := X0.virtualBack hx (y := own_m22) (z := own_m22) hown (mvT hZ (hw _ (own_i 37 rfl))) (mvT hZ (hw _ (own_i 38 rfl))) (notFace_of_selects (args := #[]) (mvT hZ (hw _ (own_i 40 rfl)))) (mvT hZ (hw _ (own_i 40 rfl))) (mvT hZ (hw _ (own_i 39 rfl))) (by decide) (backOf (W := 1) (rmLU2 l Z a0 hw [] o0 x0 x1 cs fm h0 n0 Z0 UA hKs hO) hZ (hw _ (own_i 41 rfl)) (hw _ (own_i 13 rfl)) (by decide) (by decide)) q1a q1c (g := (mkF m 4 #[.val (.ref o0), .val (.ref o1), .val (.int 0), .unset, .unset] [(.ref o0), (.int 0)])) rfl (by rw [hml]; rfl) (Steps.refl _) (argsL := []) (rest := [(.int 0)]) (lenOf pd__28_29I rfl) rfl (own_q rfl) (hb hby d6_4) (fun _ _ => ⟨rfl, e0, (by decide : 0 + 0 ≤ _), (by decide : 0 + 0 ≤ _)⟩)
  dsimp only [Pt.U, Pt.locs, Pt.cells, Pt.slots] at X1 l1 y1 z1 st1 hQ1
  obtain ⟨rfl, N1q, e1⟩ := hQ1
  obtain ⟨lc1, X1, N1⟩ := own_pack X1 l1 y1 z1 N0 N1q (C := 0) (S' := 0) rfl rfl
  refine own_thr (a := T1.setTop (mkF m 7 #[.val (.ref o0), .val (.ref o1), .val (.int 0), .unset, .unset] [(.int 2), (.int 0)])) (fun t kt => st1.trans kt) ?_
  refine own_thr (a := T1.setTop (mkF m 12 #[.val (.ref o0), .val (.ref o1), .val (.int 0), .unset, .unset] [(.ref o1), (.int 0)])) (fun t kt => ?_) ?_
  · refine XS.icmpNo X1.here hx rfl (hb hby d6_7) rfl (tlt (by decide)).2.1 ?_
    refine XS.iloadN X1.here hx rfl (hb hby d6_10) rfl ?_
    refine XS.aloadN X1.here hx rfl (hb hby d6_11) rfl rfl ?_
    exact kt
  obtain ⟨cq2, kq2, q2a, q2b, q2c⟩ := isOf hZ e1 UB.1
  obtain ⟨_, _, ⟨T2, L2, k2, n2⟩, -, X2, ⟨Lc2, hQ2, l2, y2, z2⟩, st2⟩ := X1.virtualBack hx (y := own_m22) (z := own_m22) hown (mvT hZ (hw _ (own_i 37 rfl))) (mvT hZ (hw _ (own_i 38 rfl))) (notFace_of_selects (args := #[]) (mvT hZ (hw _ (own_i 40 rfl)))) (mvT hZ (hw _ (own_i 40 rfl))) (mvT hZ (hw _ (own_i 39 rfl))) (by decide) (backOf (W := 1) (rmLU1 l Z a0 hw [] o1 w0 cs fm h0 n0 Z0 UB hKs hO) hZ (hw _ (own_i 41 rfl)) (hw _ (own_i 13 rfl)) (by decide) (by decide)) q2a q2c (g := (mkF m 12 #[.val (.ref o0), .val (.ref o1), .val (.int 0), .unset, .unset] [(.ref o1), (.int 0)])) rfl (by rw [hml]; rfl) (Steps.refl _) (argsL := []) (rest := [(.int 0)]) (lenOf pd__28_29I rfl) rfl (own_q rfl) (hb hby d6_12) (fun _ _ => ⟨rfl, e1, (by decide : 0 + 0 ≤ _), (by decide : 0 + 0 ≤ _)⟩)
  dsimp only [Pt.U, Pt.locs, Pt.cells, Pt.slots] at X2 l2 y2 z2 st2 hQ2
  obtain ⟨rfl, N2q, e2⟩ := hQ2
  obtain ⟨lc2, X2, N2⟩ := own_pack X2 l2 y2 z2 N1 N2q (C := 0) (S' := 0) rfl rfl
  refine own_thr (a := T2.setTop (mkF m 15 #[.val (.ref o0), .val (.ref o1), .val (.int 0), .unset, .unset] [(.int 1), (.int 0)])) (fun t kt => st2.trans kt) ?_
  refine own_thr (a := T2.setTop (mkF m 20 #[.val (.ref o0), .val (.ref o1), .val (.int 0), .unset, .unset] [(.int 0), (.ref o0)])) (fun t kt => ?_) ?_
  · refine XS.icmpNo X2.here hx rfl (hb hby d6_15) rfl (tlt (by decide)).2.1 ?_
    refine XS.aloadN X2.here hx rfl (hb hby d6_18) rfl rfl ?_
    refine XS.iloadN X2.here hx rfl (hb hby d6_19) rfl ?_
    exact kt
  obtain ⟨cq3, kq3, q3a, q3b, q3c⟩ := isOf hZ e2 UA.1
  obtain ⟨_, _, ⟨T3, L3, k3, n3⟩, -, X3, ⟨Lc3, hQ3, l3, y3, z3⟩, st3⟩ := X2.virtualBack hx (y := own_m23) (z := own_m23) hown (mvT hZ (hw _ (own_i 90 rfl))) (mvT hZ (hw _ (own_i 91 rfl))) (notFace_of_selects (args := #[]) (mvT hZ (hw _ (own_i 93 rfl)))) (mvT hZ (hw _ (own_i 93 rfl))) (mvT hZ (hw _ (own_i 92 rfl))) (by decide) (backOf (W := 0) (rmCU20 l Z a0 hw [] o0 x0 x1 cs fm h0 n0 Z0 UA hKs hO) hZ (hw _ (own_i 94 rfl)) (hw _ (own_i 13 rfl)) (by decide) (by decide)) q3a q3c (g := (mkF m 20 #[.val (.ref o0), .val (.ref o1), .val (.int 0), .unset, .unset] [(.int 0), (.ref o0)])) rfl (by rw [hml]; rfl) (Steps.refl _) (argsL := [(.int 0)]) (rest := []) (lenOf pd__28I_29I rfl) rfl (own_q rfl) (hb hby d6_20) (fun _ _ => ⟨rfl, e2, (by decide : 0 + 0 ≤ _), (by decide : 0 + 0 ≤ _)⟩)
  dsimp only [Pt.U, Pt.locs, Pt.cells, Pt.slots] at X3 l3 y3 z3 st3 hQ3
  obtain ⟨rfl, N3q, e3⟩ := hQ3
  obtain ⟨lc3, X3, N3⟩ := own_pack X3 l3 y3 z3 N2 N3q (C := 0) (S' := 0) rfl rfl
  refine own_thr (a := T3.setTop (mkF m 23 #[.val (.ref o0), .val (.ref o1), .val (.int 0), .unset, .unset] [(.int (own_cp x0 x1))])) (fun t kt => st3.trans kt) ?_
  refine own_thr (a := T3.setTop (mkF m 26 #[.val (.ref o0), .val (.ref o1), .val (.int 0), .val (.int (own_cp x0 x1)), .unset] [(.int 0), (.ref o1)])) (fun t kt => ?_) ?_
  · refine XS.istoreN X3.here hx rfl (hb hby d6_23) rfl (l' := #[.val (.ref o0), .val (.ref o1), .val (.int 0), .val (.int (own_cp x0 x1)), .unset]) rfl ?_
    refine XS.aloadN X3.here hx rfl (hb hby d6_24) rfl rfl ?_
    refine XS.iloadN X3.here hx rfl (hb hby d6_25) rfl ?_
    exact kt
  obtain ⟨cq4, kq4, q4a, q4b, q4c⟩ := isOf hZ e3 UB.1
  obtain ⟨_, _, ⟨T4, L4, k4, n4⟩, -, X4, ⟨Lc4, hQ4, l4, y4, z4⟩, st4⟩ := X3.virtualBack hx (y := own_m23) (z := own_m23) hown (mvT hZ (hw _ (own_i 90 rfl))) (mvT hZ (hw _ (own_i 91 rfl))) (notFace_of_selects (args := #[]) (mvT hZ (hw _ (own_i 93 rfl)))) (mvT hZ (hw _ (own_i 93 rfl))) (mvT hZ (hw _ (own_i 92 rfl))) (by decide) (backOf (W := 0) (rmCU10 l Z a0 hw [] o1 w0 cs fm h0 n0 Z0 UB hKs hO) hZ (hw _ (own_i 94 rfl)) (hw _ (own_i 13 rfl)) (by decide) (by decide)) q4a q4c (g := (mkF m 26 #[.val (.ref o0), .val (.ref o1), .val (.int 0), .val (.int (own_cp x0 x1)), .unset] [(.int 0), (.ref o1)])) rfl (by rw [hml]; rfl) (Steps.refl _) (argsL := [(.int 0)]) (rest := []) (lenOf pd__28I_29I rfl) rfl (own_q rfl) (hb hby d6_26) (fun _ _ => ⟨rfl, e3, (by decide : 0 + 0 ≤ _), (by decide : 0 + 0 ≤ _)⟩)
  dsimp only [Pt.U, Pt.locs, Pt.cells, Pt.slots] at X4 l4 y4 z4 st4 hQ4
  obtain ⟨rfl, N4q, e4⟩ := hQ4
  obtain ⟨lc4, X4, N4⟩ := own_pack X4 l4 y4 z4 N3 N4q (C := 0) (S' := 0) rfl rfl
  refine own_thr (a := T4.setTop (mkF m 29 #[.val (.ref o0), .val (.ref o1), .val (.int 0), .val (.int (own_cp x0 x1)), .unset] [(.int w0)])) (fun t kt => st4.trans kt) ?_
  refine own_thr (a := T4.setTop (mkF m 34 #[.val (.ref o0), .val (.ref o1), .val (.int 0), .val (.int (own_cp x0 x1)), .val (.int w0)] [(.int w0), (.int (own_cp x0 x1))])) (fun t kt => ?_) ?_
  · refine XS.istore X4.here hx rfl (hb hby d6_29) rfl (l' := #[.val (.ref o0), .val (.ref o1), .val (.int 0), .val (.int (own_cp x0 x1)), .val (.int w0)]) rfl ?_
    refine XS.iloadN X4.here hx rfl (hb hby d6_31) rfl ?_
    refine XS.iload X4.here hx rfl (hb hby d6_32) rfl ?_
    exact kt
  by_cases hc5 : (own_cp x0 x1) = w0
  · refine own_thr (a := T4.setTop (mkF m 46 #[.val (.ref o0), .val (.ref o1), .val (.int 0), .val (.int (own_cp x0 x1)), .val (.int w0)] [(.int (own_cp x0 x1)), (.int 0)])) (fun t kt => ?_) ?_
    · refine XS.icmpYes X4.here hx rfl (pc0 := 34) (pc' := 44) rfl (hb hby d6_34) rfl (teq hc5).1 (by decide) (by decide) ?_
      refine XS.iloadN X4.here hx rfl (hb hby d6_44) rfl ?_
      refine XS.iloadN X4.here hx rfl (hb hby d6_45) rfl ?_
      exact kt
    obtain ⟨_, _, ⟨T6, L6, k6, n6⟩, -, X6, ⟨Lc6, hQ6, l6, y6, z6⟩, st6⟩ := Jvm.LawKit.callS X4 hx (y := own_m19) hown (mvT hZ (hw _ (own_i 120 rfl))) (mvT hZ (hw _ (own_i 121 rfl))) (mvT hZ (hw _ (own_i 116 rfl))) (mvT hZ (hw _ (own_i 122 rfl))) (by decide) (backOf (W := 1) (rmCC1 l Z a0 hw [] (own_cp x0 x1) h0 n0 Z0 (by rw [hc5]; exact hw0.ge)) hZ (hw _ (own_i 122 rfl)) (hw _ (own_i 116 rfl)) (by decide) (by decide)) (g := (mkF m 46 #[.val (.ref o0), .val (.ref o1), .val (.int 0), .val (.int (own_cp x0 x1)), .val (.int w0)] [(.int (own_cp x0 x1)), (.int 0)])) rfl (by rw [hml]; rfl) (argsL := [(.int (own_cp x0 x1))]) (rest := [(.int 0)]) (lenOf pd__28I_29I rfl) rfl (own_q rfl) (hb hby d6_46) (fun _ _ => ⟨rfl, e4, (by decide : 0 + 0 ≤ _), (by decide : 0 + 0 ≤ _)⟩)
    dsimp only [Pt.U, Pt.locs, Pt.cells, Pt.slots] at X6 l6 y6 z6 st6 hQ6
    obtain ⟨rfl, N6q, e6⟩ := hQ6
    obtain ⟨lc6, X6, N6⟩ := own_pack X6 l6 y6 z6 N4 N6q (C := 0) (S' := 0) rfl rfl
    refine own_thr (a := T6.setTop (mkF m 49 #[.val (.ref o0), .val (.ref o1), .val (.int 0), .val (.int (own_cp x0 x1)), .val (.int w0)] [(.int 1), (.int 0)])) (fun t kt => st6 t kt) ?_
    refine own_thr (a := T6.setTop (mkF m 4 #[.val (.ref o0), .val (.ref o1), .val (.int 1), .val (.int (own_cp x0 x1)), .val (.int w0)] [(.ref o0), (.int 1)])) (fun t kt => ?_) ?_
    · refine XS.iadd X6.here hx rfl (hb hby d6_49) rfl ?_
      refine XS.istoreN X6.here hx rfl (hb hby d6_50) rfl (l' := #[.val (.ref o0), .val (.ref o1), .val (.int 1), .val (.int (own_cp x0 x1)), .val (.int w0)]) rfl ?_
      refine XS.goto X6.here hx rfl (pc0 := 51) (pc' := 2) rfl (hb hby d6_51) (by decide) (by decide) ?_
      refine XS.iloadN X6.here hx rfl (hb hby d6_2) rfl ?_
      refine XS.aloadN X6.here hx rfl (hb hby d6_3) rfl rfl ?_
      exact kt
    obtain ⟨cq7, kq7, q7a, q7b, q7c⟩ := isOf hZ e6 UA.1
    obtain ⟨_, _, ⟨T7, L7, k7, n7⟩, -, X7, ⟨Lc7, hQ7, l7, y7, z7⟩, st7⟩ := X6.virtualBack hx (y := own_m22) (z := own_m22) hown (mvT hZ (hw _ (own_i 37 rfl))) (mvT hZ (hw _ (own_i 38 rfl))) (notFace_of_selects (args := #[]) (mvT hZ (hw _ (own_i 40 rfl)))) (mvT hZ (hw _ (own_i 40 rfl))) (mvT hZ (hw _ (own_i 39 rfl))) (by decide) (backOf (W := 1) (rmLU2 l Z a0 hw [] o0 x0 x1 cs fm h0 n0 Z0 UA hKs hO) hZ (hw _ (own_i 41 rfl)) (hw _ (own_i 13 rfl)) (by decide) (by decide)) q7a q7c (g := (mkF m 4 #[.val (.ref o0), .val (.ref o1), .val (.int 1), .val (.int (own_cp x0 x1)), .val (.int w0)] [(.ref o0), (.int 1)])) rfl (by rw [hml]; rfl) (Steps.refl _) (argsL := []) (rest := [(.int 1)]) (lenOf pd__28_29I rfl) rfl (own_q rfl) (hb hby d6_4) (fun _ _ => ⟨rfl, e6, (by decide : 0 + 0 ≤ _), (by decide : 0 + 0 ≤ _)⟩)
    dsimp only [Pt.U, Pt.locs, Pt.cells, Pt.slots] at X7 l7 y7 z7 st7 hQ7
    obtain ⟨rfl, N7q, e7⟩ := hQ7
    obtain ⟨lc7, X7, N7⟩ := own_pack X7 l7 y7 z7 N6 N7q (C := 0) (S' := 0) rfl rfl
    refine own_thr (a := T7.setTop (mkF m 7 #[.val (.ref o0), .val (.ref o1), .val (.int 1), .val (.int (own_cp x0 x1)), .val (.int w0)] [(.int 2), (.int 1)])) (fun t kt => st7.trans kt) ?_
    refine own_thr (a := T7.setTop (mkF m 12 #[.val (.ref o0), .val (.ref o1), .val (.int 1), .val (.int (own_cp x0 x1)), .val (.int w0)] [(.ref o1), (.int 1)])) (fun t kt => ?_) ?_
    · refine XS.icmpNo X7.here hx rfl (hb hby d6_7) rfl (tlt (by decide)).2.1 ?_
      refine XS.iloadN X7.here hx rfl (hb hby d6_10) rfl ?_
      refine XS.aloadN X7.here hx rfl (hb hby d6_11) rfl rfl ?_
      exact kt
    obtain ⟨cq8, kq8, q8a, q8b, q8c⟩ := isOf hZ e7 UB.1
    obtain ⟨_, _, ⟨T8, L8, k8, n8⟩, -, X8, ⟨Lc8, hQ8, l8, y8, z8⟩, st8⟩ := X7.virtualBack hx (y := own_m22) (z := own_m22) hown (mvT hZ (hw _ (own_i 37 rfl))) (mvT hZ (hw _ (own_i 38 rfl))) (notFace_of_selects (args := #[]) (mvT hZ (hw _ (own_i 40 rfl)))) (mvT hZ (hw _ (own_i 40 rfl))) (mvT hZ (hw _ (own_i 39 rfl))) (by decide) (backOf (W := 1) (rmLU1 l Z a0 hw [] o1 w0 cs fm h0 n0 Z0 UB hKs hO) hZ (hw _ (own_i 41 rfl)) (hw _ (own_i 13 rfl)) (by decide) (by decide)) q8a q8c (g := (mkF m 12 #[.val (.ref o0), .val (.ref o1), .val (.int 1), .val (.int (own_cp x0 x1)), .val (.int w0)] [(.ref o1), (.int 1)])) rfl (by rw [hml]; rfl) (Steps.refl _) (argsL := []) (rest := [(.int 1)]) (lenOf pd__28_29I rfl) rfl (own_q rfl) (hb hby d6_12) (fun _ _ => ⟨rfl, e7, (by decide : 0 + 0 ≤ _), (by decide : 0 + 0 ≤ _)⟩)
    dsimp only [Pt.U, Pt.locs, Pt.cells, Pt.slots] at X8 l8 y8 z8 st8 hQ8
    obtain ⟨rfl, N8q, e8⟩ := hQ8
    obtain ⟨lc8, X8, N8⟩ := own_pack X8 l8 y8 z8 N7 N8q (C := 0) (S' := 0) rfl rfl
    refine own_thr (a := T8.setTop (mkF m 15 #[.val (.ref o0), .val (.ref o1), .val (.int 1), .val (.int (own_cp x0 x1)), .val (.int w0)] [(.int 1), (.int 1)])) (fun t kt => st8.trans kt) ?_
    refine own_thr (a := T8.setTop (mkF m 55 #[.val (.ref o0), .val (.ref o1), .val (.int 1), .val (.int (own_cp x0 x1)), .val (.int w0)] [(.ref o0)])) (fun t kt => ?_) ?_
    · refine XS.icmpYes X8.here hx rfl (pc0 := 15) (pc' := 54) rfl (hb hby d6_15) rfl (flt (by decide)).2.1 (by decide) (by decide) ?_
      refine XS.aloadN X8.here hx rfl (hb hby d6_54) rfl rfl ?_
      exact kt
    obtain ⟨cq9, kq9, q9a, q9b, q9c⟩ := isOf hZ e8 UA.1
    obtain ⟨_, _, ⟨T9, L9, k9, n9⟩, -, X9, ⟨Lc9, hQ9, l9, y9, z9⟩, st9⟩ := X8.virtualBack hx (y := own_m22) (z := own_m22) hown (mvT hZ (hw _ (own_i 37 rfl))) (mvT hZ (hw _ (own_i 38 rfl))) (notFace_of_selects (args := #[]) (mvT hZ (hw _ (own_i 40 rfl)))) (mvT hZ (hw _ (own_i 40 rfl))) (mvT hZ (hw _ (own_i 39 rfl))) (by decide) (backOf (W := 0) (rmLU2 l Z a0 hw [] o0 x0 x1 cs fm h0 n0 Z0 UA hKs hO) hZ (hw _ (own_i 41 rfl)) (hw _ (own_i 13 rfl)) (by decide) (by decide)) q9a q9c (g := (mkF m 55 #[.val (.ref o0), .val (.ref o1), .val (.int 1), .val (.int (own_cp x0 x1)), .val (.int w0)] [(.ref o0)])) rfl (by rw [hml]; rfl) (Steps.refl _) (argsL := []) (rest := []) (lenOf pd__28_29I rfl) rfl (own_q rfl) (hb hby d6_55) (fun _ _ => ⟨rfl, e8, (by decide : 0 + 0 ≤ _), (by decide : 0 + 0 ≤ _)⟩)
    dsimp only [Pt.U, Pt.locs, Pt.cells, Pt.slots] at X9 l9 y9 z9 st9 hQ9
    obtain ⟨rfl, N9q, e9⟩ := hQ9
    obtain ⟨lc9, X9, N9⟩ := own_pack X9 l9 y9 z9 N8 N9q (C := 0) (S' := 0) rfl rfl
    refine own_thr (a := T9.setTop (mkF m 58 #[.val (.ref o0), .val (.ref o1), .val (.int 1), .val (.int (own_cp x0 x1)), .val (.int w0)] [(.int 2)])) (fun t kt => st9.trans kt) ?_
    refine own_thr (a := T9.setTop (mkF m 59 #[.val (.ref o0), .val (.ref o1), .val (.int 1), .val (.int (own_cp x0 x1)), .val (.int w0)] [(.ref o1), (.int 2)])) (fun t kt => ?_) ?_
    · refine XS.aloadN X9.here hx rfl (hb hby d6_58) rfl rfl ?_
      exact kt
    obtain ⟨cq10, kq10, q10a, q10b, q10c⟩ := isOf hZ e9 UB.1
    obtain ⟨_, _, ⟨T10, L10, k10, n10⟩, -, X10, ⟨Lc10, hQ10, l10, y10, z10⟩, st10⟩ := X9.virtualBack hx (y := own_m22) (z := own_m22) hown (mvT hZ (hw _ (own_i 37 rfl))) (mvT hZ (hw _ (own_i 38 rfl))) (notFace_of_selects (args := #[]) (mvT hZ (hw _ (own_i 40 rfl)))) (mvT hZ (hw _ (own_i 40 rfl))) (mvT hZ (hw _ (own_i 39 rfl))) (by decide) (backOf (W := 1) (rmLU1 l Z a0 hw [] o1 w0 cs fm h0 n0 Z0 UB hKs hO) hZ (hw _ (own_i 41 rfl)) (hw _ (own_i 13 rfl)) (by decide) (by decide)) q10a q10c (g := (mkF m 59 #[.val (.ref o0), .val (.ref o1), .val (.int 1), .val (.int (own_cp x0 x1)), .val (.int w0)] [(.ref o1), (.int 2)])) rfl (by rw [hml]; rfl) (Steps.refl _) (argsL := []) (rest := [(.int 2)]) (lenOf pd__28_29I rfl) rfl (own_q rfl) (hb hby d6_59) (fun _ _ => ⟨rfl, e9, (by decide : 0 + 0 ≤ _), (by decide : 0 + 0 ≤ _)⟩)
    dsimp only [Pt.U, Pt.locs, Pt.cells, Pt.slots] at X10 l10 y10 z10 st10 hQ10
    obtain ⟨rfl, N10q, e10⟩ := hQ10
    obtain ⟨lc10, X10, N10⟩ := own_pack X10 l10 y10 z10 N9 N10q (C := 0) (S' := 0) rfl rfl
    refine own_thr (a := T10.setTop (mkF m 62 #[.val (.ref o0), .val (.ref o1), .val (.int 1), .val (.int (own_cp x0 x1)), .val (.int w0)] [(.int 1), (.int 2)])) (fun t kt => st10.trans kt) ?_
    obtain ⟨_, _, ⟨T11, L11, k11, n11⟩, -, X11, ⟨Lc11, hQ11, l11, y11, z11⟩, st11⟩ := Jvm.LawKit.callS X10 hx (y := own_m24) hown (mvT hZ (hw _ (own_i 48 rfl))) (mvT hZ (hw _ (own_i 49 rfl))) (mvT hZ (hw _ (own_i 50 rfl))) (mvT hZ (hw _ (own_i 51 rfl))) (by decide) (backOf (W := 0) (rmIC l Z a0 hw [] (2 : Int32) (1 : Int32) h0 n0 Z0) hZ (hw _ (own_i 51 rfl)) (hw _ (own_i 50 rfl)) (by decide) (by decide)) (g := (mkF m 62 #[.val (.ref o0), .val (.ref o1), .val (.int 1), .val (.int (own_cp x0 x1)), .val (.int w0)] [(.int 1), (.int 2)])) rfl (by rw [hml]; rfl) (argsL := [(.int 2), (.int 1)]) (rest := []) (lenOf pd__28II_29I rfl) rfl (own_q rfl) (hb hby d6_62) (fun _ _ => ⟨rfl, e10, (by decide : 0 + 0 ≤ _), (by decide : 0 + 0 ≤ _)⟩)
    dsimp only [Pt.U, Pt.locs, Pt.cells, Pt.slots] at X11 l11 y11 z11 st11 hQ11
    obtain ⟨rfl, N11q, e11⟩ := hQ11
    obtain ⟨lc11, X11, N11⟩ := own_pack X11 l11 y11 z11 N10 N11q (C := 0) (S' := 0) rfl rfl
    refine own_thr (a := T11.setTop (mkF m 65 #[.val (.ref o0), .val (.ref o1), .val (.int 1), .val (.int (own_cp x0 x1)), .val (.int w0)] [(.int (f_rmIC (2 : Int32) (1 : Int32)))])) (fun t kt => st11 t kt) ?_
    exact own_end X11 hlk (v := some (.int (f_rmIC (2 : Int32) (1 : Int32)))) (fun h => by rw [Bd.returns] at h; cases h) (fun fs hr => retI X11 hx Bd.returns (hb hby d6_65) hr) (by rw [e11]; exact ⟨(by rw [f_rmCM21, if_pos hc5]), N11, rfl⟩) (by decide : 0 ≤ _) (by decide : 0 ≤ _)
  · refine own_thr (a := T4.setTop (mkF m 40 #[.val (.ref o0), .val (.ref o1), .val (.int 0), .val (.int (own_cp x0 x1)), .val (.int w0)] [(.int w0), (.int (own_cp x0 x1))])) (fun t kt => ?_) ?_
    · refine XS.icmpNo X4.here hx rfl (hb hby d6_34) rfl (feq hc5).1 ?_
      refine XS.iloadN X4.here hx rfl (hb hby d6_37) rfl ?_
      refine XS.iload X4.here hx rfl (hb hby d6_38) rfl ?_
      exact kt
    obtain ⟨_, _, ⟨T12, L12, k12, n12⟩, -, X12, ⟨Lc12, hQ12, l12, y12, z12⟩, st12⟩ := Jvm.LawKit.callS X4 hx (y := own_m24) hown (mvT hZ (hw _ (own_i 48 rfl))) (mvT hZ (hw _ (own_i 49 rfl))) (mvT hZ (hw _ (own_i 50 rfl))) (mvT hZ (hw _ (own_i 51 rfl))) (by decide) (backOf (W := 0) (rmIC l Z a0 hw [] (own_cp x0 x1) w0 h0 n0 Z0) hZ (hw _ (own_i 51 rfl)) (hw _ (own_i 50 rfl)) (by decide) (by decide)) (g := (mkF m 40 #[.val (.ref o0), .val (.ref o1), .val (.int 0), .val (.int (own_cp x0 x1)), .val (.int w0)] [(.int w0), (.int (own_cp x0 x1))])) rfl (by rw [hml]; rfl) (argsL := [(.int (own_cp x0 x1)), (.int w0)]) (rest := []) (lenOf pd__28II_29I rfl) rfl (own_q rfl) (hb hby d6_40) (fun _ _ => ⟨rfl, e4, (by decide : 0 + 0 ≤ _), (by decide : 0 + 0 ≤ _)⟩)
    dsimp only [Pt.U, Pt.locs, Pt.cells, Pt.slots] at X12 l12 y12 z12 st12 hQ12
    obtain ⟨rfl, N12q, e12⟩ := hQ12
    obtain ⟨lc12, X12, N12⟩ := own_pack X12 l12 y12 z12 N4 N12q (C := 0) (S' := 0) rfl rfl
    refine own_thr (a := T12.setTop (mkF m 43 #[.val (.ref o0), .val (.ref o1), .val (.int 0), .val (.int (own_cp x0 x1)), .val (.int w0)] [(.int (f_rmIC (own_cp x0 x1) w0))])) (fun t kt => st12 t kt) ?_
    exact own_end X12 hlk (v := some (.int (f_rmIC (own_cp x0 x1) w0))) (fun h => by rw [Bd.returns] at h; cases h) (fun fs hr => retI X12 hx Bd.returns (hb hby d6_43) hr) (by rw [e12]; exact ⟨(by rw [f_rmCM21, if_neg hc5]), N12, rfl⟩) (by decide : 0 ≤ _) (by decide : 0 ≤ _)
theorem ef_rmCM22 (m : MethodId) (o0 : Addr) (o1 : Addr)  : entryFrame m #[(.ref o0), (.ref o1)] 5 = mkF m 0 #[.val (.ref o0), .val (.ref o1), .unset, .unset, .unset] [] := by first |  (simp [entryFrame, mkF, argsToLocals, Value.category]; done) | rfl
def f_rmCM22 (o0 : Addr) (o1 : Addr) (x0 : Int32) (x1 : Int32) (w0 : Int32) (w1 : Int32) (cs : Int32) (fm : Value) : Int32 := if (own_cp x0 x1) = (own_cp w0 w1) then (if (own_cp x0 x1) < (65536 : Int32) then (if x1 = w1 then (f_rmIC (2 : Int32) (2 : Int32)) else (f_rmIC x1 w1)) else (f_rmIC (2 : Int32) (2 : Int32))) else (f_rmIC (own_cp x0 x1) (own_cp w0 w1))
def Q_rmCM22 (Z : State) (o0 : Addr) (o1 : Addr) (x0 : Int32) (x1 : Int32) (w0 : Int32) (w1 : Int32) (cs : Int32) (fm : Value) (h0 : Heap) (n0 : Nat) (v : Option Value) (h : Heap) (L : List Loc) : Prop := v = some (.int (f_rmCM22 o0 o1 x0 x1 w0 w1 cs fm)) ∧ Fr n0 L ∧ h = h0
theorem rmCM22 (l : Launch) (Z : State) (a0 : Array Value) (hw : ∀ d ∈ tables_1, d.before a0 Z = true) (ws : List Jvm.Cond) (o0 : Addr) (o1 : Addr) (x0 : Int32) (x1 : Int32) (w0 : Int32) (w1 : Int32) (cs : Int32) (fm : Value) (h0 : Heap) (n0 : Nat) (Z0 : n0 ≤ h0.size) (hKs : own_K Z cs fm) (hO : Old Z n0 h0) (UA : own_U2 Z h0 o0 x0 x1) (UB : own_U2 Z h0 o1 w0 w1) (hx0 : own_R x0) (hx1 : own_R x1) (hw0 : own_R w0) (hw1 : own_R w1) :
    MetFree l own_m25 (head1 (Jvm.Cond.code own_m25 prog_2_method_2_code 5 (some .int) :: ws) ({ frames := 4, cells := 0, slots := 0, locals := 58 } : Room)) (fun a U => a = #[(.ref o0), (.ref o1)] ∧ Z.Warmed39 U.vm ∧ U.heap = h0) (fun _ _ _ _ _ => True) (fun _ U o U' => ∃ v L, o = .returned v ∧ Q_rmCM22 Z o0 o1 x0 x1 w0 w1 cs fm h0 n0 v U'.heap L ∧ FrameEnd U o U' L ({ frames := 4, cells := 0, slots := 0, locals := 58 } : Room).cells ({ frames := 4, cells := 0, slots := 0, locals := 58 } : Room).slots) := by
  refine MetFree.of_bodySF (plainFor_of_name pn_com_example_tiphys_tiphys_CodePointOrder) hisR ?_
  intro p e s m args below meth c s₁ Bd hml0 hP hK
  obtain ⟨rfl, hZ, hh⟩ := hP
  have hx := Bd.exec
  have hby := Bd.bytes
  have hml : c.maxLocals = 5 := hml0
  have hown : s.vm.findClass "com/example/tiphys/tiphys/CodePointOrder" = some m.cls := findClass_of_methodNamed Bd.named
  have hnm := (name_of_methodNamed Bd.named Bd.method).1
  have hlk := Bd.notSynchronized
  have X0 : Stand p l e ({ frames := 4, cells := 0, slots := 0, locals := 58 } : Room) s m #[(.ref o0), (.ref o1)] below meth c s₁ [] 0 0 := Stand.of_body Bd
  have e0 : s₁.heap = h0 := by rw [← hh, Bd.state]; rfl
  have N0 := Fr.nil n0
  show own_G p.tables e below s (Q_rmCM22 Z o0 o1 x0 x1 w0 w1 cs fm h0 n0) ({ frames := 4, cells := 0, slots := 0, locals := 58 } : Room).cells ({ frames := 4, cells := 0, slots := 0, locals := 58 } : Room).slots _
  refine own_thr (a := s₁.setTop (mkF m 0 #[.val (.ref o0), .val (.ref o1), .unset, .unset, .unset] [])) (fun t kt => castTop (ef_rmCM22 m o0 o1) kt) ?_
  refine own_thr (a := s₁.setTop (mkF m 4 #[.val (.ref o0), .val (.ref o1), .val (.int 0), .unset, .unset] [(.ref o0), (.int 0)])) (fun t kt => ?_) ?_
  · refine XS.iconst X0.here hx rfl (hb hby d6_0) ?_
    refine XS.istoreN X0.here hx rfl (hb hby d6_1) rfl (l' := #[.val (.ref o0), .val (.ref o1), .val (.int 0), .unset, .unset]) rfl ?_
    refine XS.iloadN X0.here hx rfl (hb hby d6_2) rfl ?_
    refine XS.aloadN X0.here hx rfl (hb hby d6_3) rfl rfl ?_
    exact kt
  obtain ⟨cq1, kq1, q1a, q1b, q1c⟩ := isOf hZ e0 UA.1
  obtain ⟨_, _, ⟨T1, L1, k1, n1⟩, -, X1, ⟨Lc1, hQ1, l1, y1, z1⟩, st1⟩ := X0.virtualBack hx (y := own_m22) (z := own_m22) hown (mvT hZ (hw _ (own_i 37 rfl))) (mvT hZ (hw _ (own_i 38 rfl))) (notFace_of_selects (args := #[]) (mvT hZ (hw _ (own_i 40 rfl)))) (mvT hZ (hw _ (own_i 40 rfl))) (mvT hZ (hw _ (own_i 39 rfl))) (by decide) (backOf (W := 1) (rmLU2 l Z a0 hw [] o0 x0 x1 cs fm h0 n0 Z0 UA hKs hO) hZ (hw _ (own_i 41 rfl)) (hw _ (own_i 13 rfl)) (by decide) (by decide)) q1a q1c (g := (mkF m 4 #[.val (.ref o0), .val (.ref o1), .val (.int 0), .unset, .unset] [(.ref o0), (.int 0)])) rfl (by rw [hml]; rfl) (Steps.refl _) (argsL := []) (rest := [(.int 0)]) (lenOf pd__28_29I rfl) rfl (own_q rfl) (hb hby d6_4) (fun _ _ => ⟨rfl, e0, (by decide : 0 + 0 ≤ _), (by decide : 0 + 0 ≤ _)⟩)
  dsimp only [Pt.U, Pt.locs, Pt.cells, Pt.slots] at X1 l1 y1 z1 st1 hQ1
  obtain ⟨rfl, N1q, e1⟩ := hQ1
  obtain ⟨lc1, X1, N1⟩ := own_pack X1 l1 y1 z1 N0 N1q (C := 0) (S' := 0) rfl rfl
  refine own_thr (a := T1.setTop (mkF m 7 #[.val (.ref o0), .val (.ref o1), .val (.int 0), .unset, .unset] [(.int 2), (.int 0)])) (fun t kt => st1.trans kt) ?_
  refine own_thr (a := T1.setTop (mkF m 12 #[.val (.ref o0), .val (.ref o1), .val (.int 0), .unset, .unset] [(.ref o1), (.int 0)])) (fun t kt => ?_) ?_
  · refine XS.icmpNo X1.here hx rfl (hb hby d6_7) rfl (tlt (by decide)).2.1 ?_
    refine XS.iloadN X1.here hx rfl (hb hby d6_10) rfl ?_
    refine XS.aloadN X1.here hx rfl (hb hby d6_11) rfl rfl ?_
    exact kt
  obtain ⟨cq2, kq2, q2a, q2b, q2c⟩ := isOf hZ e1 UB.1
  obtain ⟨_, _, ⟨T2, L2, k2, n2⟩, -, X2, ⟨Lc2, hQ2, l2, y2, z2⟩, st2⟩ := X1.virtualBack hx (y := own_m22) (z := own_m22) hown (mvT hZ (hw _ (own_i 37 rfl))) (mvT hZ (hw _ (own_i 38 rfl))) (notFace_of_selects (args := #[]) (mvT hZ (hw _ (own_i 40 rfl)))) (mvT hZ (hw _ (own_i 40 rfl))) (mvT hZ (hw _ (own_i 39 rfl))) (by decide) (backOf (W := 1) (rmLU2 l Z a0 hw [] o1 w0 w1 cs fm h0 n0 Z0 UB hKs hO) hZ (hw _ (own_i 41 rfl)) (hw _ (own_i 13 rfl)) (by decide) (by decide)) q2a q2c (g := (mkF m 12 #[.val (.ref o0), .val (.ref o1), .val (.int 0), .unset, .unset] [(.ref o1), (.int 0)])) rfl (by rw [hml]; rfl) (Steps.refl _) (argsL := []) (rest := [(.int 0)]) (lenOf pd__28_29I rfl) rfl (own_q rfl) (hb hby d6_12) (fun _ _ => ⟨rfl, e1, (by decide : 0 + 0 ≤ _), (by decide : 0 + 0 ≤ _)⟩)
  dsimp only [Pt.U, Pt.locs, Pt.cells, Pt.slots] at X2 l2 y2 z2 st2 hQ2
  obtain ⟨rfl, N2q, e2⟩ := hQ2
  obtain ⟨lc2, X2, N2⟩ := own_pack X2 l2 y2 z2 N1 N2q (C := 0) (S' := 0) rfl rfl
  refine own_thr (a := T2.setTop (mkF m 15 #[.val (.ref o0), .val (.ref o1), .val (.int 0), .unset, .unset] [(.int 2), (.int 0)])) (fun t kt => st2.trans kt) ?_
  refine own_thr (a := T2.setTop (mkF m 20 #[.val (.ref o0), .val (.ref o1), .val (.int 0), .unset, .unset] [(.int 0), (.ref o0)])) (fun t kt => ?_) ?_
  · refine XS.icmpNo X2.here hx rfl (hb hby d6_15) rfl (tlt (by decide)).2.1 ?_
    refine XS.aloadN X2.here hx rfl (hb hby d6_18) rfl rfl ?_
    refine XS.iloadN X2.here hx rfl (hb hby d6_19) rfl ?_
    exact kt
  obtain ⟨cq3, kq3, q3a, q3b, q3c⟩ := isOf hZ e2 UA.1
  obtain ⟨_, _, ⟨T3, L3, k3, n3⟩, -, X3, ⟨Lc3, hQ3, l3, y3, z3⟩, st3⟩ := X2.virtualBack hx (y := own_m23) (z := own_m23) hown (mvT hZ (hw _ (own_i 90 rfl))) (mvT hZ (hw _ (own_i 91 rfl))) (notFace_of_selects (args := #[]) (mvT hZ (hw _ (own_i 93 rfl)))) (mvT hZ (hw _ (own_i 93 rfl))) (mvT hZ (hw _ (own_i 92 rfl))) (by decide) (backOf (W := 0) (rmCU20 l Z a0 hw [] o0 x0 x1 cs fm h0 n0 Z0 UA hKs hO) hZ (hw _ (own_i 94 rfl)) (hw _ (own_i 13 rfl)) (by decide) (by decide)) q3a q3c (g := (mkF m 20 #[.val (.ref o0), .val (.ref o1), .val (.int 0), .unset, .unset] [(.int 0), (.ref o0)])) rfl (by rw [hml]; rfl) (Steps.refl _) (argsL := [(.int 0)]) (rest := []) (lenOf pd__28I_29I rfl) rfl (own_q rfl) (hb hby d6_20) (fun _ _ => ⟨rfl, e2, (by decide : 0 + 0 ≤ _), (by decide : 0 + 0 ≤ _)⟩)
  dsimp only [Pt.U, Pt.locs, Pt.cells, Pt.slots] at X3 l3 y3 z3 st3 hQ3
  obtain ⟨rfl, N3q, e3⟩ := hQ3
  obtain ⟨lc3, X3, N3⟩ := own_pack X3 l3 y3 z3 N2 N3q (C := 0) (S' := 0) rfl rfl
  refine own_thr (a := T3.setTop (mkF m 23 #[.val (.ref o0), .val (.ref o1), .val (.int 0), .unset, .unset] [(.int (own_cp x0 x1))])) (fun t kt => st3.trans kt) ?_
  refine own_thr (a := T3.setTop (mkF m 26 #[.val (.ref o0), .val (.ref o1), .val (.int 0), .val (.int (own_cp x0 x1)), .unset] [(.int 0), (.ref o1)])) (fun t kt => ?_) ?_
  · refine XS.istoreN X3.here hx rfl (hb hby d6_23) rfl (l' := #[.val (.ref o0), .val (.ref o1), .val (.int 0), .val (.int (own_cp x0 x1)), .unset]) rfl ?_
    refine XS.aloadN X3.here hx rfl (hb hby d6_24) rfl rfl ?_
    refine XS.iloadN X3.here hx rfl (hb hby d6_25) rfl ?_
    exact kt
  obtain ⟨cq4, kq4, q4a, q4b, q4c⟩ := isOf hZ e3 UB.1
  obtain ⟨_, _, ⟨T4, L4, k4, n4⟩, -, X4, ⟨Lc4, hQ4, l4, y4, z4⟩, st4⟩ := X3.virtualBack hx (y := own_m23) (z := own_m23) hown (mvT hZ (hw _ (own_i 90 rfl))) (mvT hZ (hw _ (own_i 91 rfl))) (notFace_of_selects (args := #[]) (mvT hZ (hw _ (own_i 93 rfl)))) (mvT hZ (hw _ (own_i 93 rfl))) (mvT hZ (hw _ (own_i 92 rfl))) (by decide) (backOf (W := 0) (rmCU20 l Z a0 hw [] o1 w0 w1 cs fm h0 n0 Z0 UB hKs hO) hZ (hw _ (own_i 94 rfl)) (hw _ (own_i 13 rfl)) (by decide) (by decide)) q4a q4c (g := (mkF m 26 #[.val (.ref o0), .val (.ref o1), .val (.int 0), .val (.int (own_cp x0 x1)), .unset] [(.int 0), (.ref o1)])) rfl (by rw [hml]; rfl) (Steps.refl _) (argsL := [(.int 0)]) (rest := []) (lenOf pd__28I_29I rfl) rfl (own_q rfl) (hb hby d6_26) (fun _ _ => ⟨rfl, e3, (by decide : 0 + 0 ≤ _), (by decide : 0 + 0 ≤ _)⟩)
  dsimp only [Pt.U, Pt.locs, Pt.cells, Pt.slots] at X4 l4 y4 z4 st4 hQ4
  obtain ⟨rfl, N4q, e4⟩ := hQ4
  obtain ⟨lc4, X4, N4⟩ := own_pack X4 l4 y4 z4 N3 N4q (C := 0) (S' := 0) rfl rfl
  refine own_thr (a := T4.setTop (mkF m 29 #[.val (.ref o0), .val (.ref o1), .val (.int 0), .val (.int (own_cp x0 x1)), .unset] [(.int (own_cp w0 w1))])) (fun t kt => st4.trans kt) ?_
  refine own_thr (a := T4.setTop (mkF m 34 #[.val (.ref o0), .val (.ref o1), .val (.int 0), .val (.int (own_cp x0 x1)), .val (.int (own_cp w0 w1))] [(.int (own_cp w0 w1)), (.int (own_cp x0 x1))])) (fun t kt => ?_) ?_
  · refine XS.istore X4.here hx rfl (hb hby d6_29) rfl (l' := #[.val (.ref o0), .val (.ref o1), .val (.int 0), .val (.int (own_cp x0 x1)), .val (.int (own_cp w0 w1))]) rfl ?_
    refine XS.iloadN X4.here hx rfl (hb hby d6_31) rfl ?_
    refine XS.iload X4.here hx rfl (hb hby d6_32) rfl ?_
    exact kt
  by_cases hc5 : (own_cp x0 x1) = (own_cp w0 w1)
  · refine own_thr (a := T4.setTop (mkF m 46 #[.val (.ref o0), .val (.ref o1), .val (.int 0), .val (.int (own_cp x0 x1)), .val (.int (own_cp w0 w1))] [(.int (own_cp x0 x1)), (.int 0)])) (fun t kt => ?_) ?_
    · refine XS.icmpYes X4.here hx rfl (pc0 := 34) (pc' := 44) rfl (hb hby d6_34) rfl (teq hc5).1 (by decide) (by decide) ?_
      refine XS.iloadN X4.here hx rfl (hb hby d6_44) rfl ?_
      refine XS.iloadN X4.here hx rfl (hb hby d6_45) rfl ?_
      exact kt
    by_cases hc6 : (own_cp x0 x1) < (65536 : Int32)
    · skip
      obtain ⟨_, _, ⟨T7, L7, k7, n7⟩, -, X7, ⟨Lc7, hQ7, l7, y7, z7⟩, st7⟩ := Jvm.LawKit.callS X4 hx (y := own_m19) hown (mvT hZ (hw _ (own_i 120 rfl))) (mvT hZ (hw _ (own_i 121 rfl))) (mvT hZ (hw _ (own_i 116 rfl))) (mvT hZ (hw _ (own_i 122 rfl))) (by decide) (backOf (W := 1) (rmCC1 l Z a0 hw [] (own_cp x0 x1) h0 n0 Z0 hc6) hZ (hw _ (own_i 122 rfl)) (hw _ (own_i 116 rfl)) (by decide) (by decide)) (g := (mkF m 46 #[.val (.ref o0), .val (.ref o1), .val (.int 0), .val (.int (own_cp x0 x1)), .val (.int (own_cp w0 w1))] [(.int (own_cp x0 x1)), (.int 0)])) rfl (by rw [hml]; rfl) (argsL := [(.int (own_cp x0 x1))]) (rest := [(.int 0)]) (lenOf pd__28I_29I rfl) rfl (own_q rfl) (hb hby d6_46) (fun _ _ => ⟨rfl, e4, (by decide : 0 + 0 ≤ _), (by decide : 0 + 0 ≤ _)⟩)
      dsimp only [Pt.U, Pt.locs, Pt.cells, Pt.slots] at X7 l7 y7 z7 st7 hQ7
      obtain ⟨rfl, N7q, e7⟩ := hQ7
      obtain ⟨lc7, X7, N7⟩ := own_pack X7 l7 y7 z7 N4 N7q (C := 0) (S' := 0) rfl rfl
      refine own_thr (a := T7.setTop (mkF m 49 #[.val (.ref o0), .val (.ref o1), .val (.int 0), .val (.int (own_cp x0 x1)), .val (.int (own_cp w0 w1))] [(.int 1), (.int 0)])) (fun t kt => st7 t kt) ?_
      refine own_thr (a := T7.setTop (mkF m 4 #[.val (.ref o0), .val (.ref o1), .val (.int 1), .val (.int (own_cp x0 x1)), .val (.int (own_cp w0 w1))] [(.ref o0), (.int 1)])) (fun t kt => ?_) ?_
      · refine XS.iadd X7.here hx rfl (hb hby d6_49) rfl ?_
        refine XS.istoreN X7.here hx rfl (hb hby d6_50) rfl (l' := #[.val (.ref o0), .val (.ref o1), .val (.int 1), .val (.int (own_cp x0 x1)), .val (.int (own_cp w0 w1))]) rfl ?_
        refine XS.goto X7.here hx rfl (pc0 := 51) (pc' := 2) rfl (hb hby d6_51) (by decide) (by decide) ?_
        refine XS.iloadN X7.here hx rfl (hb hby d6_2) rfl ?_
        refine XS.aloadN X7.here hx rfl (hb hby d6_3) rfl rfl ?_
        exact kt
      obtain ⟨cq8, kq8, q8a, q8b, q8c⟩ := isOf hZ e7 UA.1
      obtain ⟨_, _, ⟨T8, L8, k8, n8⟩, -, X8, ⟨Lc8, hQ8, l8, y8, z8⟩, st8⟩ := X7.virtualBack hx (y := own_m22) (z := own_m22) hown (mvT hZ (hw _ (own_i 37 rfl))) (mvT hZ (hw _ (own_i 38 rfl))) (notFace_of_selects (args := #[]) (mvT hZ (hw _ (own_i 40 rfl)))) (mvT hZ (hw _ (own_i 40 rfl))) (mvT hZ (hw _ (own_i 39 rfl))) (by decide) (backOf (W := 1) (rmLU2 l Z a0 hw [] o0 x0 x1 cs fm h0 n0 Z0 UA hKs hO) hZ (hw _ (own_i 41 rfl)) (hw _ (own_i 13 rfl)) (by decide) (by decide)) q8a q8c (g := (mkF m 4 #[.val (.ref o0), .val (.ref o1), .val (.int 1), .val (.int (own_cp x0 x1)), .val (.int (own_cp w0 w1))] [(.ref o0), (.int 1)])) rfl (by rw [hml]; rfl) (Steps.refl _) (argsL := []) (rest := [(.int 1)]) (lenOf pd__28_29I rfl) rfl (own_q rfl) (hb hby d6_4) (fun _ _ => ⟨rfl, e7, (by decide : 0 + 0 ≤ _), (by decide : 0 + 0 ≤ _)⟩)
      dsimp only [Pt.U, Pt.locs, Pt.cells, Pt.slots] at X8 l8 y8 z8 st8 hQ8
      obtain ⟨rfl, N8q, e8⟩ := hQ8
      obtain ⟨lc8, X8, N8⟩ := own_pack X8 l8 y8 z8 N7 N8q (C := 0) (S' := 0) rfl rfl
      refine own_thr (a := T8.setTop (mkF m 7 #[.val (.ref o0), .val (.ref o1), .val (.int 1), .val (.int (own_cp x0 x1)), .val (.int (own_cp w0 w1))] [(.int 2), (.int 1)])) (fun t kt => st8.trans kt) ?_
      refine own_thr (a := T8.setTop (mkF m 12 #[.val (.ref o0), .val (.ref o1), .val (.int 1), .val (.int (own_cp x0 x1)), .val (.int (own_cp w0 w1))] [(.ref o1), (.int 1)])) (fun t kt => ?_) ?_
      · refine XS.icmpNo X8.here hx rfl (hb hby d6_7) rfl (tlt (by decide)).2.1 ?_
        refine XS.iloadN X8.here hx rfl (hb hby d6_10) rfl ?_
        refine XS.aloadN X8.here hx rfl (hb hby d6_11) rfl rfl ?_
        exact kt
      obtain ⟨cq9, kq9, q9a, q9b, q9c⟩ := isOf hZ e8 UB.1
      obtain ⟨_, _, ⟨T9, L9, k9, n9⟩, -, X9, ⟨Lc9, hQ9, l9, y9, z9⟩, st9⟩ := X8.virtualBack hx (y := own_m22) (z := own_m22) hown (mvT hZ (hw _ (own_i 37 rfl))) (mvT hZ (hw _ (own_i 38 rfl))) (notFace_of_selects (args := #[]) (mvT hZ (hw _ (own_i 40 rfl)))) (mvT hZ (hw _ (own_i 40 rfl))) (mvT hZ (hw _ (own_i 39 rfl))) (by decide) (backOf (W := 1) (rmLU2 l Z a0 hw [] o1 w0 w1 cs fm h0 n0 Z0 UB hKs hO) hZ (hw _ (own_i 41 rfl)) (hw _ (own_i 13 rfl)) (by decide) (by decide)) q9a q9c (g := (mkF m 12 #[.val (.ref o0), .val (.ref o1), .val (.int 1), .val (.int (own_cp x0 x1)), .val (.int (own_cp w0 w1))] [(.ref o1), (.int 1)])) rfl (by rw [hml]; rfl) (Steps.refl _) (argsL := []) (rest := [(.int 1)]) (lenOf pd__28_29I rfl) rfl (own_q rfl) (hb hby d6_12) (fun _ _ => ⟨rfl, e8, (by decide : 0 + 0 ≤ _), (by decide : 0 + 0 ≤ _)⟩)
      dsimp only [Pt.U, Pt.locs, Pt.cells, Pt.slots] at X9 l9 y9 z9 st9 hQ9
      obtain ⟨rfl, N9q, e9⟩ := hQ9
      obtain ⟨lc9, X9, N9⟩ := own_pack X9 l9 y9 z9 N8 N9q (C := 0) (S' := 0) rfl rfl
      refine own_thr (a := T9.setTop (mkF m 15 #[.val (.ref o0), .val (.ref o1), .val (.int 1), .val (.int (own_cp x0 x1)), .val (.int (own_cp w0 w1))] [(.int 2), (.int 1)])) (fun t kt => st9.trans kt) ?_
      refine own_thr (a := T9.setTop (mkF m 20 #[.val (.ref o0), .val (.ref o1), .val (.int 1), .val (.int (own_cp x0 x1)), .val (.int (own_cp w0 w1))] [(.int 1), (.ref o0)])) (fun t kt => ?_) ?_
      · refine XS.icmpNo X9.here hx rfl (hb hby d6_15) rfl (tlt (by decide)).2.1 ?_
        refine XS.aloadN X9.here hx rfl (hb hby d6_18) rfl rfl ?_
        refine XS.iloadN X9.here hx rfl (hb hby d6_19) rfl ?_
        exact kt
      obtain ⟨cq10, kq10, q10a, q10b, q10c⟩ := isOf hZ e9 UA.1
      obtain ⟨_, _, ⟨T10, L10, k10, n10⟩, -, X10, ⟨Lc10, hQ10, l10, y10, z10⟩, st10⟩ := X9.virtualBack hx (y := own_m23) (z := own_m23) hown (mvT hZ (hw _ (own_i 90 rfl))) (mvT hZ (hw _ (own_i 91 rfl))) (notFace_of_selects (args := #[]) (mvT hZ (hw _ (own_i 93 rfl)))) (mvT hZ (hw _ (own_i 93 rfl))) (mvT hZ (hw _ (own_i 92 rfl))) (by decide) (backOf (W := 0) (rmCU21 l Z a0 hw [] o0 x0 x1 cs fm h0 n0 Z0 UA hKs hO) hZ (hw _ (own_i 94 rfl)) (hw _ (own_i 13 rfl)) (by decide) (by decide)) q10a q10c (g := (mkF m 20 #[.val (.ref o0), .val (.ref o1), .val (.int 1), .val (.int (own_cp x0 x1)), .val (.int (own_cp w0 w1))] [(.int 1), (.ref o0)])) rfl (by rw [hml]; rfl) (Steps.refl _) (argsL := [(.int 1)]) (rest := []) (lenOf pd__28I_29I rfl) rfl (own_q rfl) (hb hby d6_20) (fun _ _ => ⟨rfl, e9, (by decide : 0 + 0 ≤ _), (by decide : 0 + 0 ≤ _)⟩)
      dsimp only [Pt.U, Pt.locs, Pt.cells, Pt.slots] at X10 l10 y10 z10 st10 hQ10
      obtain ⟨rfl, N10q, e10⟩ := hQ10
      obtain ⟨lc10, X10, N10⟩ := own_pack X10 l10 y10 z10 N9 N10q (C := 0) (S' := 0) rfl rfl
      refine own_thr (a := T10.setTop (mkF m 23 #[.val (.ref o0), .val (.ref o1), .val (.int 1), .val (.int (own_cp x0 x1)), .val (.int (own_cp w0 w1))] [(.int x1)])) (fun t kt => st10.trans kt) ?_
      refine own_thr (a := T10.setTop (mkF m 26 #[.val (.ref o0), .val (.ref o1), .val (.int 1), .val (.int x1), .val (.int (own_cp w0 w1))] [(.int 1), (.ref o1)])) (fun t kt => ?_) ?_
      · refine XS.istoreN X10.here hx rfl (hb hby d6_23) rfl (l' := #[.val (.ref o0), .val (.ref o1), .val (.int 1), .val (.int x1), .val (.int (own_cp w0 w1))]) rfl ?_
        refine XS.aloadN X10.here hx rfl (hb hby d6_24) rfl rfl ?_
        refine XS.iloadN X10.here hx rfl (hb hby d6_25) rfl ?_
        exact kt
      obtain ⟨cq11, kq11, q11a, q11b, q11c⟩ := isOf hZ e10 UB.1
      obtain ⟨_, _, ⟨T11, L11, k11, n11⟩, -, X11, ⟨Lc11, hQ11, l11, y11, z11⟩, st11⟩ := X10.virtualBack hx (y := own_m23) (z := own_m23) hown (mvT hZ (hw _ (own_i 90 rfl))) (mvT hZ (hw _ (own_i 91 rfl))) (notFace_of_selects (args := #[]) (mvT hZ (hw _ (own_i 93 rfl)))) (mvT hZ (hw _ (own_i 93 rfl))) (mvT hZ (hw _ (own_i 92 rfl))) (by decide) (backOf (W := 0) (rmCU21 l Z a0 hw [] o1 w0 w1 cs fm h0 n0 Z0 UB hKs hO) hZ (hw _ (own_i 94 rfl)) (hw _ (own_i 13 rfl)) (by decide) (by decide)) q11a q11c (g := (mkF m 26 #[.val (.ref o0), .val (.ref o1), .val (.int 1), .val (.int x1), .val (.int (own_cp w0 w1))] [(.int 1), (.ref o1)])) rfl (by rw [hml]; rfl) (Steps.refl _) (argsL := [(.int 1)]) (rest := []) (lenOf pd__28I_29I rfl) rfl (own_q rfl) (hb hby d6_26) (fun _ _ => ⟨rfl, e10, (by decide : 0 + 0 ≤ _), (by decide : 0 + 0 ≤ _)⟩)
      dsimp only [Pt.U, Pt.locs, Pt.cells, Pt.slots] at X11 l11 y11 z11 st11 hQ11
      obtain ⟨rfl, N11q, e11⟩ := hQ11
      obtain ⟨lc11, X11, N11⟩ := own_pack X11 l11 y11 z11 N10 N11q (C := 0) (S' := 0) rfl rfl
      refine own_thr (a := T11.setTop (mkF m 29 #[.val (.ref o0), .val (.ref o1), .val (.int 1), .val (.int x1), .val (.int (own_cp w0 w1))] [(.int w1)])) (fun t kt => st11.trans kt) ?_
      refine own_thr (a := T11.setTop (mkF m 34 #[.val (.ref o0), .val (.ref o1), .val (.int 1), .val (.int x1), .val (.int w1)] [(.int w1), (.int x1)])) (fun t kt => ?_) ?_
      · refine XS.istore X11.here hx rfl (hb hby d6_29) rfl (l' := #[.val (.ref o0), .val (.ref o1), .val (.int 1), .val (.int x1), .val (.int w1)]) rfl ?_
        refine XS.iloadN X11.here hx rfl (hb hby d6_31) rfl ?_
        refine XS.iload X11.here hx rfl (hb hby d6_32) rfl ?_
        exact kt
      by_cases hc12 : x1 = w1
      · refine own_thr (a := T11.setTop (mkF m 46 #[.val (.ref o0), .val (.ref o1), .val (.int 1), .val (.int x1), .val (.int w1)] [(.int x1), (.int 1)])) (fun t kt => ?_) ?_
        · refine XS.icmpYes X11.here hx rfl (pc0 := 34) (pc' := 44) rfl (hb hby d6_34) rfl (teq hc12).1 (by decide) (by decide) ?_
          refine XS.iloadN X11.here hx rfl (hb hby d6_44) rfl ?_
          refine XS.iloadN X11.here hx rfl (hb hby d6_45) rfl ?_
          exact kt
        obtain ⟨_, _, ⟨T13, L13, k13, n13⟩, -, X13, ⟨Lc13, hQ13, l13, y13, z13⟩, st13⟩ := Jvm.LawKit.callS X11 hx (y := own_m19) hown (mvT hZ (hw _ (own_i 120 rfl))) (mvT hZ (hw _ (own_i 121 rfl))) (mvT hZ (hw _ (own_i 116 rfl))) (mvT hZ (hw _ (own_i 122 rfl))) (by decide) (backOf (W := 1) (rmCC1 l Z a0 hw [] x1 h0 n0 Z0 hx1.ge) hZ (hw _ (own_i 122 rfl)) (hw _ (own_i 116 rfl)) (by decide) (by decide)) (g := (mkF m 46 #[.val (.ref o0), .val (.ref o1), .val (.int 1), .val (.int x1), .val (.int w1)] [(.int x1), (.int 1)])) rfl (by rw [hml]; rfl) (argsL := [(.int x1)]) (rest := [(.int 1)]) (lenOf pd__28I_29I rfl) rfl (own_q rfl) (hb hby d6_46) (fun _ _ => ⟨rfl, e11, (by decide : 0 + 0 ≤ _), (by decide : 0 + 0 ≤ _)⟩)
        dsimp only [Pt.U, Pt.locs, Pt.cells, Pt.slots] at X13 l13 y13 z13 st13 hQ13
        obtain ⟨rfl, N13q, e13⟩ := hQ13
        obtain ⟨lc13, X13, N13⟩ := own_pack X13 l13 y13 z13 N11 N13q (C := 0) (S' := 0) rfl rfl
        refine own_thr (a := T13.setTop (mkF m 49 #[.val (.ref o0), .val (.ref o1), .val (.int 1), .val (.int x1), .val (.int w1)] [(.int 1), (.int 1)])) (fun t kt => st13 t kt) ?_
        refine own_thr (a := T13.setTop (mkF m 4 #[.val (.ref o0), .val (.ref o1), .val (.int 2), .val (.int x1), .val (.int w1)] [(.ref o0), (.int 2)])) (fun t kt => ?_) ?_
        · refine XS.iadd X13.here hx rfl (hb hby d6_49) rfl ?_
          refine XS.istoreN X13.here hx rfl (hb hby d6_50) rfl (l' := #[.val (.ref o0), .val (.ref o1), .val (.int 2), .val (.int x1), .val (.int w1)]) rfl ?_
          refine XS.goto X13.here hx rfl (pc0 := 51) (pc' := 2) rfl (hb hby d6_51) (by decide) (by decide) ?_
          refine XS.iloadN X13.here hx rfl (hb hby d6_2) rfl ?_
          refine XS.aloadN X13.here hx rfl (hb hby d6_3) rfl rfl ?_
          exact kt
        obtain ⟨cq14, kq14, q14a, q14b, q14c⟩ := isOf hZ e13 UA.1
        obtain ⟨_, _, ⟨T14, L14, k14, n14⟩, -, X14, ⟨Lc14, hQ14, l14, y14, z14⟩, st14⟩ := X13.virtualBack hx (y := own_m22) (z := own_m22) hown (mvT hZ (hw _ (own_i 37 rfl))) (mvT hZ (hw _ (own_i 38 rfl))) (notFace_of_selects (args := #[]) (mvT hZ (hw _ (own_i 40 rfl)))) (mvT hZ (hw _ (own_i 40 rfl))) (mvT hZ (hw _ (own_i 39 rfl))) (by decide) (backOf (W := 1) (rmLU2 l Z a0 hw [] o0 x0 x1 cs fm h0 n0 Z0 UA hKs hO) hZ (hw _ (own_i 41 rfl)) (hw _ (own_i 13 rfl)) (by decide) (by decide)) q14a q14c (g := (mkF m 4 #[.val (.ref o0), .val (.ref o1), .val (.int 2), .val (.int x1), .val (.int w1)] [(.ref o0), (.int 2)])) rfl (by rw [hml]; rfl) (Steps.refl _) (argsL := []) (rest := [(.int 2)]) (lenOf pd__28_29I rfl) rfl (own_q rfl) (hb hby d6_4) (fun _ _ => ⟨rfl, e13, (by decide : 0 + 0 ≤ _), (by decide : 0 + 0 ≤ _)⟩)
        dsimp only [Pt.U, Pt.locs, Pt.cells, Pt.slots] at X14 l14 y14 z14 st14 hQ14
        obtain ⟨rfl, N14q, e14⟩ := hQ14
        obtain ⟨lc14, X14, N14⟩ := own_pack X14 l14 y14 z14 N13 N14q (C := 0) (S' := 0) rfl rfl
        refine own_thr (a := T14.setTop (mkF m 7 #[.val (.ref o0), .val (.ref o1), .val (.int 2), .val (.int x1), .val (.int w1)] [(.int 2), (.int 2)])) (fun t kt => st14.trans kt) ?_
        refine own_thr (a := T14.setTop (mkF m 55 #[.val (.ref o0), .val (.ref o1), .val (.int 2), .val (.int x1), .val (.int w1)] [(.ref o0)])) (fun t kt => ?_) ?_
        · refine XS.icmpYes X14.here hx rfl (pc0 := 7) (pc' := 54) rfl (hb hby d6_7) rfl (flt (by decide)).2.1 (by decide) (by decide) ?_
          refine XS.aloadN X14.here hx rfl (hb hby d6_54) rfl rfl ?_
          exact kt
        obtain ⟨cq15, kq15, q15a, q15b, q15c⟩ := isOf hZ e14 UA.1
        obtain ⟨_, _, ⟨T15, L15, k15, n15⟩, -, X15, ⟨Lc15, hQ15, l15, y15, z15⟩, st15⟩ := X14.virtualBack hx (y := own_m22) (z := own_m22) hown (mvT hZ (hw _ (own_i 37 rfl))) (mvT hZ (hw _ (own_i 38 rfl))) (notFace_of_selects (args := #[]) (mvT hZ (hw _ (own_i 40 rfl)))) (mvT hZ (hw _ (own_i 40 rfl))) (mvT hZ (hw _ (own_i 39 rfl))) (by decide) (backOf (W := 0) (rmLU2 l Z a0 hw [] o0 x0 x1 cs fm h0 n0 Z0 UA hKs hO) hZ (hw _ (own_i 41 rfl)) (hw _ (own_i 13 rfl)) (by decide) (by decide)) q15a q15c (g := (mkF m 55 #[.val (.ref o0), .val (.ref o1), .val (.int 2), .val (.int x1), .val (.int w1)] [(.ref o0)])) rfl (by rw [hml]; rfl) (Steps.refl _) (argsL := []) (rest := []) (lenOf pd__28_29I rfl) rfl (own_q rfl) (hb hby d6_55) (fun _ _ => ⟨rfl, e14, (by decide : 0 + 0 ≤ _), (by decide : 0 + 0 ≤ _)⟩)
        dsimp only [Pt.U, Pt.locs, Pt.cells, Pt.slots] at X15 l15 y15 z15 st15 hQ15
        obtain ⟨rfl, N15q, e15⟩ := hQ15
        obtain ⟨lc15, X15, N15⟩ := own_pack X15 l15 y15 z15 N14 N15q (C := 0) (S' := 0) rfl rfl
        refine own_thr (a := T15.setTop (mkF m 58 #[.val (.ref o0), .val (.ref o1), .val (.int 2), .val (.int x1), .val (.int w1)] [(.int 2)])) (fun t kt => st15.trans kt) ?_
        refine own_thr (a := T15.setTop (mkF m 59 #[.val (.ref o0), .val (.ref o1), .val (.int 2), .val (.int x1), .val (.int w1)] [(.ref o1), (.int 2)])) (fun t kt => ?_) ?_
        · refine XS.aloadN X15.here hx rfl (hb hby d6_58) rfl rfl ?_
          exact kt
        obtain ⟨cq16, kq16, q16a, q16b, q16c⟩ := isOf hZ e15 UB.1
        obtain ⟨_, _, ⟨T16, L16, k16, n16⟩, -, X16, ⟨Lc16, hQ16, l16, y16, z16⟩, st16⟩ := X15.virtualBack hx (y := own_m22) (z := own_m22) hown (mvT hZ (hw _ (own_i 37 rfl))) (mvT hZ (hw _ (own_i 38 rfl))) (notFace_of_selects (args := #[]) (mvT hZ (hw _ (own_i 40 rfl)))) (mvT hZ (hw _ (own_i 40 rfl))) (mvT hZ (hw _ (own_i 39 rfl))) (by decide) (backOf (W := 1) (rmLU2 l Z a0 hw [] o1 w0 w1 cs fm h0 n0 Z0 UB hKs hO) hZ (hw _ (own_i 41 rfl)) (hw _ (own_i 13 rfl)) (by decide) (by decide)) q16a q16c (g := (mkF m 59 #[.val (.ref o0), .val (.ref o1), .val (.int 2), .val (.int x1), .val (.int w1)] [(.ref o1), (.int 2)])) rfl (by rw [hml]; rfl) (Steps.refl _) (argsL := []) (rest := [(.int 2)]) (lenOf pd__28_29I rfl) rfl (own_q rfl) (hb hby d6_59) (fun _ _ => ⟨rfl, e15, (by decide : 0 + 0 ≤ _), (by decide : 0 + 0 ≤ _)⟩)
        dsimp only [Pt.U, Pt.locs, Pt.cells, Pt.slots] at X16 l16 y16 z16 st16 hQ16
        obtain ⟨rfl, N16q, e16⟩ := hQ16
        obtain ⟨lc16, X16, N16⟩ := own_pack X16 l16 y16 z16 N15 N16q (C := 0) (S' := 0) rfl rfl
        refine own_thr (a := T16.setTop (mkF m 62 #[.val (.ref o0), .val (.ref o1), .val (.int 2), .val (.int x1), .val (.int w1)] [(.int 2), (.int 2)])) (fun t kt => st16.trans kt) ?_
        obtain ⟨_, _, ⟨T17, L17, k17, n17⟩, -, X17, ⟨Lc17, hQ17, l17, y17, z17⟩, st17⟩ := Jvm.LawKit.callS X16 hx (y := own_m24) hown (mvT hZ (hw _ (own_i 48 rfl))) (mvT hZ (hw _ (own_i 49 rfl))) (mvT hZ (hw _ (own_i 50 rfl))) (mvT hZ (hw _ (own_i 51 rfl))) (by decide) (backOf (W := 0) (rmIC l Z a0 hw [] (2 : Int32) (2 : Int32) h0 n0 Z0) hZ (hw _ (own_i 51 rfl)) (hw _ (own_i 50 rfl)) (by decide) (by decide)) (g := (mkF m 62 #[.val (.ref o0), .val (.ref o1), .val (.int 2), .val (.int x1), .val (.int w1)] [(.int 2), (.int 2)])) rfl (by rw [hml]; rfl) (argsL := [(.int 2), (.int 2)]) (rest := []) (lenOf pd__28II_29I rfl) rfl (own_q rfl) (hb hby d6_62) (fun _ _ => ⟨rfl, e16, (by decide : 0 + 0 ≤ _), (by decide : 0 + 0 ≤ _)⟩)
        dsimp only [Pt.U, Pt.locs, Pt.cells, Pt.slots] at X17 l17 y17 z17 st17 hQ17
        obtain ⟨rfl, N17q, e17⟩ := hQ17
        obtain ⟨lc17, X17, N17⟩ := own_pack X17 l17 y17 z17 N16 N17q (C := 0) (S' := 0) rfl rfl
        refine own_thr (a := T17.setTop (mkF m 65 #[.val (.ref o0), .val (.ref o1), .val (.int 2), .val (.int x1), .val (.int w1)] [(.int (f_rmIC (2 : Int32) (2 : Int32)))])) (fun t kt => st17 t kt) ?_
        exact own_end X17 hlk (v := some (.int (f_rmIC (2 : Int32) (2 : Int32)))) (fun h => by rw [Bd.returns] at h; cases h) (fun fs hr => retI X17 hx Bd.returns (hb hby d6_65) hr) (by rw [e17]; exact ⟨(by rw [f_rmCM22, if_pos hc5, if_pos hc6, if_pos hc12]), N17, rfl⟩) (by decide : 0 ≤ _) (by decide : 0 ≤ _)
      · refine own_thr (a := T11.setTop (mkF m 40 #[.val (.ref o0), .val (.ref o1), .val (.int 1), .val (.int x1), .val (.int w1)] [(.int w1), (.int x1)])) (fun t kt => ?_) ?_
        · refine XS.icmpNo X11.here hx rfl (hb hby d6_34) rfl (feq hc12).1 ?_
          refine XS.iloadN X11.here hx rfl (hb hby d6_37) rfl ?_
          refine XS.iload X11.here hx rfl (hb hby d6_38) rfl ?_
          exact kt
        obtain ⟨_, _, ⟨T18, L18, k18, n18⟩, -, X18, ⟨Lc18, hQ18, l18, y18, z18⟩, st18⟩ := Jvm.LawKit.callS X11 hx (y := own_m24) hown (mvT hZ (hw _ (own_i 48 rfl))) (mvT hZ (hw _ (own_i 49 rfl))) (mvT hZ (hw _ (own_i 50 rfl))) (mvT hZ (hw _ (own_i 51 rfl))) (by decide) (backOf (W := 0) (rmIC l Z a0 hw [] x1 w1 h0 n0 Z0) hZ (hw _ (own_i 51 rfl)) (hw _ (own_i 50 rfl)) (by decide) (by decide)) (g := (mkF m 40 #[.val (.ref o0), .val (.ref o1), .val (.int 1), .val (.int x1), .val (.int w1)] [(.int w1), (.int x1)])) rfl (by rw [hml]; rfl) (argsL := [(.int x1), (.int w1)]) (rest := []) (lenOf pd__28II_29I rfl) rfl (own_q rfl) (hb hby d6_40) (fun _ _ => ⟨rfl, e11, (by decide : 0 + 0 ≤ _), (by decide : 0 + 0 ≤ _)⟩)
        dsimp only [Pt.U, Pt.locs, Pt.cells, Pt.slots] at X18 l18 y18 z18 st18 hQ18
        obtain ⟨rfl, N18q, e18⟩ := hQ18
        obtain ⟨lc18, X18, N18⟩ := own_pack X18 l18 y18 z18 N11 N18q (C := 0) (S' := 0) rfl rfl
        refine own_thr (a := T18.setTop (mkF m 43 #[.val (.ref o0), .val (.ref o1), .val (.int 1), .val (.int x1), .val (.int w1)] [(.int (f_rmIC x1 w1))])) (fun t kt => st18 t kt) ?_
        exact own_end X18 hlk (v := some (.int (f_rmIC x1 w1))) (fun h => by rw [Bd.returns] at h; cases h) (fun fs hr => retI X18 hx Bd.returns (hb hby d6_43) hr) (by rw [e18]; exact ⟨(by rw [f_rmCM22, if_pos hc5, if_pos hc6, if_neg hc12]), N18, rfl⟩) (by decide : 0 ≤ _) (by decide : 0 ≤ _)
    · skip
      obtain ⟨_, _, ⟨T19, L19, k19, n19⟩, -, X19, ⟨Lc19, hQ19, l19, y19, z19⟩, st19⟩ := Jvm.LawKit.callS X4 hx (y := own_m19) hown (mvT hZ (hw _ (own_i 120 rfl))) (mvT hZ (hw _ (own_i 121 rfl))) (mvT hZ (hw _ (own_i 116 rfl))) (mvT hZ (hw _ (own_i 122 rfl))) (by decide) (backOf (W := 1) (rmCC2 l Z a0 hw [] (own_cp x0 x1) h0 n0 Z0 hc6) hZ (hw _ (own_i 122 rfl)) (hw _ (own_i 116 rfl)) (by decide) (by decide)) (g := (mkF m 46 #[.val (.ref o0), .val (.ref o1), .val (.int 0), .val (.int (own_cp x0 x1)), .val (.int (own_cp w0 w1))] [(.int (own_cp x0 x1)), (.int 0)])) rfl (by rw [hml]; rfl) (argsL := [(.int (own_cp x0 x1))]) (rest := [(.int 0)]) (lenOf pd__28I_29I rfl) rfl (own_q rfl) (hb hby d6_46) (fun _ _ => ⟨rfl, e4, (by decide : 0 + 0 ≤ _), (by decide : 0 + 0 ≤ _)⟩)
      dsimp only [Pt.U, Pt.locs, Pt.cells, Pt.slots] at X19 l19 y19 z19 st19 hQ19
      obtain ⟨rfl, N19q, e19⟩ := hQ19
      obtain ⟨lc19, X19, N19⟩ := own_pack X19 l19 y19 z19 N4 N19q (C := 0) (S' := 0) rfl rfl
      refine own_thr (a := T19.setTop (mkF m 49 #[.val (.ref o0), .val (.ref o1), .val (.int 0), .val (.int (own_cp x0 x1)), .val (.int (own_cp w0 w1))] [(.int 2), (.int 0)])) (fun t kt => st19 t kt) ?_
      refine own_thr (a := T19.setTop (mkF m 4 #[.val (.ref o0), .val (.ref o1), .val (.int 2), .val (.int (own_cp x0 x1)), .val (.int (own_cp w0 w1))] [(.ref o0), (.int 2)])) (fun t kt => ?_) ?_
      · refine XS.iadd X19.here hx rfl (hb hby d6_49) rfl ?_
        refine XS.istoreN X19.here hx rfl (hb hby d6_50) rfl (l' := #[.val (.ref o0), .val (.ref o1), .val (.int 2), .val (.int (own_cp x0 x1)), .val (.int (own_cp w0 w1))]) rfl ?_
        refine XS.goto X19.here hx rfl (pc0 := 51) (pc' := 2) rfl (hb hby d6_51) (by decide) (by decide) ?_
        refine XS.iloadN X19.here hx rfl (hb hby d6_2) rfl ?_
        refine XS.aloadN X19.here hx rfl (hb hby d6_3) rfl rfl ?_
        exact kt
      obtain ⟨cq20, kq20, q20a, q20b, q20c⟩ := isOf hZ e19 UA.1
      obtain ⟨_, _, ⟨T20, L20, k20, n20⟩, -, X20, ⟨Lc20, hQ20, l20, y20, z20⟩, st20⟩ := X19.virtualBack hx (y := own_m22) (z := own_m22) hown (mvT hZ (hw _ (own_i 37 rfl))) (mvT hZ (hw _ (own_i 38 rfl))) (notFace_of_selects (args := #[]) (mvT hZ (hw _ (own_i 40 rfl)))) (mvT hZ (hw _ (own_i 40 rfl))) (mvT hZ (hw _ (own_i 39 rfl))) (by decide) (backOf (W := 1) (rmLU2 l Z a0 hw [] o0 x0 x1 cs fm h0 n0 Z0 UA hKs hO) hZ (hw _ (own_i 41 rfl)) (hw _ (own_i 13 rfl)) (by decide) (by decide)) q20a q20c (g := (mkF m 4 #[.val (.ref o0), .val (.ref o1), .val (.int 2), .val (.int (own_cp x0 x1)), .val (.int (own_cp w0 w1))] [(.ref o0), (.int 2)])) rfl (by rw [hml]; rfl) (Steps.refl _) (argsL := []) (rest := [(.int 2)]) (lenOf pd__28_29I rfl) rfl (own_q rfl) (hb hby d6_4) (fun _ _ => ⟨rfl, e19, (by decide : 0 + 0 ≤ _), (by decide : 0 + 0 ≤ _)⟩)
      dsimp only [Pt.U, Pt.locs, Pt.cells, Pt.slots] at X20 l20 y20 z20 st20 hQ20
      obtain ⟨rfl, N20q, e20⟩ := hQ20
      obtain ⟨lc20, X20, N20⟩ := own_pack X20 l20 y20 z20 N19 N20q (C := 0) (S' := 0) rfl rfl
      refine own_thr (a := T20.setTop (mkF m 7 #[.val (.ref o0), .val (.ref o1), .val (.int 2), .val (.int (own_cp x0 x1)), .val (.int (own_cp w0 w1))] [(.int 2), (.int 2)])) (fun t kt => st20.trans kt) ?_
      refine own_thr (a := T20.setTop (mkF m 55 #[.val (.ref o0), .val (.ref o1), .val (.int 2), .val (.int (own_cp x0 x1)), .val (.int (own_cp w0 w1))] [(.ref o0)])) (fun t kt => ?_) ?_
      · refine XS.icmpYes X20.here hx rfl (pc0 := 7) (pc' := 54) rfl (hb hby d6_7) rfl (flt (by decide)).2.1 (by decide) (by decide) ?_
        refine XS.aloadN X20.here hx rfl (hb hby d6_54) rfl rfl ?_
        exact kt
      obtain ⟨cq21, kq21, q21a, q21b, q21c⟩ := isOf hZ e20 UA.1
      obtain ⟨_, _, ⟨T21, L21, k21, n21⟩, -, X21, ⟨Lc21, hQ21, l21, y21, z21⟩, st21⟩ := X20.virtualBack hx (y := own_m22) (z := own_m22) hown (mvT hZ (hw _ (own_i 37 rfl))) (mvT hZ (hw _ (own_i 38 rfl))) (notFace_of_selects (args := #[]) (mvT hZ (hw _ (own_i 40 rfl)))) (mvT hZ (hw _ (own_i 40 rfl))) (mvT hZ (hw _ (own_i 39 rfl))) (by decide) (backOf (W := 0) (rmLU2 l Z a0 hw [] o0 x0 x1 cs fm h0 n0 Z0 UA hKs hO) hZ (hw _ (own_i 41 rfl)) (hw _ (own_i 13 rfl)) (by decide) (by decide)) q21a q21c (g := (mkF m 55 #[.val (.ref o0), .val (.ref o1), .val (.int 2), .val (.int (own_cp x0 x1)), .val (.int (own_cp w0 w1))] [(.ref o0)])) rfl (by rw [hml]; rfl) (Steps.refl _) (argsL := []) (rest := []) (lenOf pd__28_29I rfl) rfl (own_q rfl) (hb hby d6_55) (fun _ _ => ⟨rfl, e20, (by decide : 0 + 0 ≤ _), (by decide : 0 + 0 ≤ _)⟩)
      dsimp only [Pt.U, Pt.locs, Pt.cells, Pt.slots] at X21 l21 y21 z21 st21 hQ21
      obtain ⟨rfl, N21q, e21⟩ := hQ21
      obtain ⟨lc21, X21, N21⟩ := own_pack X21 l21 y21 z21 N20 N21q (C := 0) (S' := 0) rfl rfl
      refine own_thr (a := T21.setTop (mkF m 58 #[.val (.ref o0), .val (.ref o1), .val (.int 2), .val (.int (own_cp x0 x1)), .val (.int (own_cp w0 w1))] [(.int 2)])) (fun t kt => st21.trans kt) ?_
      refine own_thr (a := T21.setTop (mkF m 59 #[.val (.ref o0), .val (.ref o1), .val (.int 2), .val (.int (own_cp x0 x1)), .val (.int (own_cp w0 w1))] [(.ref o1), (.int 2)])) (fun t kt => ?_) ?_
      · refine XS.aloadN X21.here hx rfl (hb hby d6_58) rfl rfl ?_
        exact kt
      obtain ⟨cq22, kq22, q22a, q22b, q22c⟩ := isOf hZ e21 UB.1
      obtain ⟨_, _, ⟨T22, L22, k22, n22⟩, -, X22, ⟨Lc22, hQ22, l22, y22, z22⟩, st22⟩ := X21.virtualBack hx (y := own_m22) (z := own_m22) hown (mvT hZ (hw _ (own_i 37 rfl))) (mvT hZ (hw _ (own_i 38 rfl))) (notFace_of_selects (args := #[]) (mvT hZ (hw _ (own_i 40 rfl)))) (mvT hZ (hw _ (own_i 40 rfl))) (mvT hZ (hw _ (own_i 39 rfl))) (by decide) (backOf (W := 1) (rmLU2 l Z a0 hw [] o1 w0 w1 cs fm h0 n0 Z0 UB hKs hO) hZ (hw _ (own_i 41 rfl)) (hw _ (own_i 13 rfl)) (by decide) (by decide)) q22a q22c (g := (mkF m 59 #[.val (.ref o0), .val (.ref o1), .val (.int 2), .val (.int (own_cp x0 x1)), .val (.int (own_cp w0 w1))] [(.ref o1), (.int 2)])) rfl (by rw [hml]; rfl) (Steps.refl _) (argsL := []) (rest := [(.int 2)]) (lenOf pd__28_29I rfl) rfl (own_q rfl) (hb hby d6_59) (fun _ _ => ⟨rfl, e21, (by decide : 0 + 0 ≤ _), (by decide : 0 + 0 ≤ _)⟩)
      dsimp only [Pt.U, Pt.locs, Pt.cells, Pt.slots] at X22 l22 y22 z22 st22 hQ22
      obtain ⟨rfl, N22q, e22⟩ := hQ22
      obtain ⟨lc22, X22, N22⟩ := own_pack X22 l22 y22 z22 N21 N22q (C := 0) (S' := 0) rfl rfl
      refine own_thr (a := T22.setTop (mkF m 62 #[.val (.ref o0), .val (.ref o1), .val (.int 2), .val (.int (own_cp x0 x1)), .val (.int (own_cp w0 w1))] [(.int 2), (.int 2)])) (fun t kt => st22.trans kt) ?_
      obtain ⟨_, _, ⟨T23, L23, k23, n23⟩, -, X23, ⟨Lc23, hQ23, l23, y23, z23⟩, st23⟩ := Jvm.LawKit.callS X22 hx (y := own_m24) hown (mvT hZ (hw _ (own_i 48 rfl))) (mvT hZ (hw _ (own_i 49 rfl))) (mvT hZ (hw _ (own_i 50 rfl))) (mvT hZ (hw _ (own_i 51 rfl))) (by decide) (backOf (W := 0) (rmIC l Z a0 hw [] (2 : Int32) (2 : Int32) h0 n0 Z0) hZ (hw _ (own_i 51 rfl)) (hw _ (own_i 50 rfl)) (by decide) (by decide)) (g := (mkF m 62 #[.val (.ref o0), .val (.ref o1), .val (.int 2), .val (.int (own_cp x0 x1)), .val (.int (own_cp w0 w1))] [(.int 2), (.int 2)])) rfl (by rw [hml]; rfl) (argsL := [(.int 2), (.int 2)]) (rest := []) (lenOf pd__28II_29I rfl) rfl (own_q rfl) (hb hby d6_62) (fun _ _ => ⟨rfl, e22, (by decide : 0 + 0 ≤ _), (by decide : 0 + 0 ≤ _)⟩)
      dsimp only [Pt.U, Pt.locs, Pt.cells, Pt.slots] at X23 l23 y23 z23 st23 hQ23
      obtain ⟨rfl, N23q, e23⟩ := hQ23
      obtain ⟨lc23, X23, N23⟩ := own_pack X23 l23 y23 z23 N22 N23q (C := 0) (S' := 0) rfl rfl
      refine own_thr (a := T23.setTop (mkF m 65 #[.val (.ref o0), .val (.ref o1), .val (.int 2), .val (.int (own_cp x0 x1)), .val (.int (own_cp w0 w1))] [(.int (f_rmIC (2 : Int32) (2 : Int32)))])) (fun t kt => st23 t kt) ?_
      exact own_end X23 hlk (v := some (.int (f_rmIC (2 : Int32) (2 : Int32)))) (fun h => by rw [Bd.returns] at h; cases h) (fun fs hr => retI X23 hx Bd.returns (hb hby d6_65) hr) (by rw [e23]; exact ⟨(by rw [f_rmCM22, if_pos hc5, if_neg hc6]), N23, rfl⟩) (by decide : 0 ≤ _) (by decide : 0 ≤ _)
  · refine own_thr (a := T4.setTop (mkF m 40 #[.val (.ref o0), .val (.ref o1), .val (.int 0), .val (.int (own_cp x0 x1)), .val (.int (own_cp w0 w1))] [(.int (own_cp w0 w1)), (.int (own_cp x0 x1))])) (fun t kt => ?_) ?_
    · refine XS.icmpNo X4.here hx rfl (hb hby d6_34) rfl (feq hc5).1 ?_
      refine XS.iloadN X4.here hx rfl (hb hby d6_37) rfl ?_
      refine XS.iload X4.here hx rfl (hb hby d6_38) rfl ?_
      exact kt
    obtain ⟨_, _, ⟨T24, L24, k24, n24⟩, -, X24, ⟨Lc24, hQ24, l24, y24, z24⟩, st24⟩ := Jvm.LawKit.callS X4 hx (y := own_m24) hown (mvT hZ (hw _ (own_i 48 rfl))) (mvT hZ (hw _ (own_i 49 rfl))) (mvT hZ (hw _ (own_i 50 rfl))) (mvT hZ (hw _ (own_i 51 rfl))) (by decide) (backOf (W := 0) (rmIC l Z a0 hw [] (own_cp x0 x1) (own_cp w0 w1) h0 n0 Z0) hZ (hw _ (own_i 51 rfl)) (hw _ (own_i 50 rfl)) (by decide) (by decide)) (g := (mkF m 40 #[.val (.ref o0), .val (.ref o1), .val (.int 0), .val (.int (own_cp x0 x1)), .val (.int (own_cp w0 w1))] [(.int (own_cp w0 w1)), (.int (own_cp x0 x1))])) rfl (by rw [hml]; rfl) (argsL := [(.int (own_cp x0 x1)), (.int (own_cp w0 w1))]) (rest := []) (lenOf pd__28II_29I rfl) rfl (own_q rfl) (hb hby d6_40) (fun _ _ => ⟨rfl, e4, (by decide : 0 + 0 ≤ _), (by decide : 0 + 0 ≤ _)⟩)
    dsimp only [Pt.U, Pt.locs, Pt.cells, Pt.slots] at X24 l24 y24 z24 st24 hQ24
    obtain ⟨rfl, N24q, e24⟩ := hQ24
    obtain ⟨lc24, X24, N24⟩ := own_pack X24 l24 y24 z24 N4 N24q (C := 0) (S' := 0) rfl rfl
    refine own_thr (a := T24.setTop (mkF m 43 #[.val (.ref o0), .val (.ref o1), .val (.int 0), .val (.int (own_cp x0 x1)), .val (.int (own_cp w0 w1))] [(.int (f_rmIC (own_cp x0 x1) (own_cp w0 w1)))])) (fun t kt => st24 t kt) ?_
    exact own_end X24 hlk (v := some (.int (f_rmIC (own_cp x0 x1) (own_cp w0 w1)))) (fun h => by rw [Bd.returns] at h; cases h) (fun fs hr => retI X24 hx Bd.returns (hb hby d6_43) hr) (by rw [e24]; exact ⟨(by rw [f_rmCM22, if_neg hc5]), N24, rfl⟩) (by decide : 0 ≤ _) (by decide : 0 ≤ _)
theorem d30_0 : decode method_5_code 0 = .ok (.iload_n 0, 1) := by decide +kernel
theorem d30_1 : decode method_5_code 1 = .ok (.ldc 32, 2) := by decide +kernel
theorem d30_3 : decode method_5_code 3 = .ok (.if_icmp .lt 13, 3) := by decide +kernel
theorem d30_16 : decode method_5_code 16 = .ok (.iconst 0, 1) := by decide +kernel
theorem d30_17 : decode method_5_code 17 = .ok (.ireturn, 1) := by decide +kernel
theorem d30_6 : decode method_5_code 6 = .ok (.iload_n 0, 1) := by decide +kernel
theorem d30_7 : decode method_5_code 7 = .ok (.ldc 40, 2) := by decide +kernel
theorem d30_9 : decode method_5_code 9 = .ok (.if_icmp .gt 7, 3) := by decide +kernel
theorem d30_12 : decode method_5_code 12 = .ok (.iconst 1, 1) := by decide +kernel
theorem d30_13 : decode method_5_code 13 = .ok (.goto 4, 3) := by decide +kernel
theorem ef_rmIH (m : MethodId) (p0 : Int32)  : entryFrame m #[(.int p0)] 1 = mkF m 0 #[.val (.int p0)] [] := by first |  (simp [entryFrame, mkF, argsToLocals, Value.category]; done) | rfl
def f_rmIH (p0 : Int32) : Int32 := if p0 < (55296 : Int32) then (0 : Int32) else if (56319 : Int32) < p0 then (0 : Int32) else (1 : Int32)
def Q_rmIH (Z : State) (p0 : Int32) (h0 : Heap) (n0 : Nat) (v : Option Value) (h : Heap) (L : List Loc) : Prop := v = some (.int (f_rmIH p0)) ∧ Fr n0 L ∧ h = h0
theorem rmIH (l : Launch) (Z : State) (a0 : Array Value) (hw : ∀ d ∈ tables_1, d.before a0 Z = true) (ws : List Jvm.Cond) (p0 : Int32) (h0 : Heap) (n0 : Nat) (Z0 : n0 ≤ h0.size) :
    MetFree l own_m26 (head1 (Jvm.Cond.code own_m26 method_5_code 1 (some .boolean) :: ws) ({ frames := 0, cells := 0, slots := 0, locals := 0 } : Room)) (fun a U => a = #[(.int p0)] ∧ Z.Warmed39 U.vm ∧ U.heap = h0) (fun _ _ _ _ _ => True) (fun _ U o U' => ∃ v L, o = .returned v ∧ Q_rmIH Z p0 h0 n0 v U'.heap L ∧ FrameEnd U o U' L ({ frames := 0, cells := 0, slots := 0, locals := 0 } : Room).cells ({ frames := 0, cells := 0, slots := 0, locals := 0 } : Room).slots) := by
  refine MetFree.of_bodySF (plainFor_of_name pn_com_example_tiphys_tiphys_CodePointOrderComparePinLaw) hisR ?_
  intro p e s m args below meth c s₁ Bd hml0 hP hK
  obtain ⟨rfl, hZ, hh⟩ := hP
  have hx := Bd.exec
  have hby := Bd.bytes
  have hml : c.maxLocals = 1 := hml0
  have hown : s.vm.findClass "com/example/tiphys/tiphys/CodePointOrderComparePinLaw" = some m.cls := findClass_of_methodNamed Bd.named
  have hnm := (name_of_methodNamed Bd.named Bd.method).1
  have hlk := Bd.notSynchronized
  have X0 : Stand p l e ({ frames := 0, cells := 0, slots := 0, locals := 0 } : Room) s m #[(.int p0)] below meth c s₁ [] 0 0 := Stand.of_body Bd
  have e0 : s₁.heap = h0 := by rw [← hh, Bd.state]; rfl
  have N0 := Fr.nil n0
  show own_G p.tables e below s (Q_rmIH Z p0 h0 n0) ({ frames := 0, cells := 0, slots := 0, locals := 0 } : Room).cells ({ frames := 0, cells := 0, slots := 0, locals := 0 } : Room).slots _
  refine own_thr (a := s₁.setTop (mkF m 0 #[.val (.int p0)] [])) (fun t kt => castTop (ef_rmIH m p0) kt) ?_
  refine own_thr (a := s₁.setTop (mkF m 3 #[.val (.int p0)] [(.int 55296), (.int p0)])) (fun t kt => ?_) ?_
  · refine XS.iloadN X0.here hx rfl (hb hby d30_0) rfl ?_
    refine X0.ldcInt hx hown (mvT hZ (hw _ (own_i 7 rfl))) (g := (mkF m 1 #[.val (.int p0)] [(.int p0)])) rfl (hb hby d30_1) _ ?_
    exact kt
  by_cases hc1 : p0 < (55296 : Int32)
  · refine own_thr (a := s₁.setTop (mkF m 17 #[.val (.int p0)] [(.int 0)])) (fun t kt => ?_) ?_
    · refine XS.icmpYes X0.here hx rfl (pc0 := 3) (pc' := 16) rfl (hb hby d30_3) rfl (tlt hc1).1 (by decide) (by decide) ?_
      refine XS.iconst X0.here hx rfl (hb hby d30_16) ?_
      exact kt
    exact own_end X0 hlk (v := some (.int 0)) (fun h => by rw [Bd.returns] at h; cases h) (fun fs hr => retN X0 hx (t := .boolean) Bd.returns (by simp) (hb hby d30_17) hr) (by rw [e0]; exact ⟨(by rw [f_rmIH, if_pos hc1]), N0, rfl⟩) (by decide : 0 ≤ _) (by decide : 0 ≤ _)
  · refine own_thr (a := s₁.setTop (mkF m 9 #[.val (.int p0)] [(.int 56319), (.int p0)])) (fun t kt => ?_) ?_
    · refine XS.icmpNo X0.here hx rfl (hb hby d30_3) rfl (flt hc1).1 ?_
      refine XS.iloadN X0.here hx rfl (hb hby d30_6) rfl ?_
      refine X0.ldcInt hx hown (mvT hZ (hw _ (own_i 130 rfl))) (g := (mkF m 7 #[.val (.int p0)] [(.int p0)])) rfl (hb hby d30_7) _ ?_
      exact kt
    by_cases hc2 : (56319 : Int32) < p0
    · refine own_thr (a := s₁.setTop (mkF m 17 #[.val (.int p0)] [(.int 0)])) (fun t kt => ?_) ?_
      · refine XS.icmpYes X0.here hx rfl (pc0 := 9) (pc' := 16) rfl (hb hby d30_9) rfl (tlt hc2).2.2.1 (by decide) (by decide) ?_
        refine XS.iconst X0.here hx rfl (hb hby d30_16) ?_
        exact kt
      exact own_end X0 hlk (v := some (.int 0)) (fun h => by rw [Bd.returns] at h; cases h) (fun fs hr => retN X0 hx (t := .boolean) Bd.returns (by simp) (hb hby d30_17) hr) (by rw [e0]; exact ⟨(by rw [f_rmIH, if_neg hc1, if_pos hc2]), N0, rfl⟩) (by decide : 0 ≤ _) (by decide : 0 ≤ _)
    · refine own_thr (a := s₁.setTop (mkF m 17 #[.val (.int p0)] [(.int 1)])) (fun t kt => ?_) ?_
      · refine XS.icmpNo X0.here hx rfl (hb hby d30_9) rfl (flt hc2).2.2.1 ?_
        refine XS.iconst X0.here hx rfl (hb hby d30_12) ?_
        refine XS.goto X0.here hx rfl (pc0 := 13) (pc' := 17) rfl (hb hby d30_13) (by decide) (by decide) ?_
        exact kt
      exact own_end X0 hlk (v := some (.int 1)) (fun h => by rw [Bd.returns] at h; cases h) (fun fs hr => retN X0 hx (t := .boolean) Bd.returns (by simp) (hb hby d30_17) hr) (by rw [e0]; exact ⟨(by rw [f_rmIH, if_neg hc1, if_neg hc2]), N0, rfl⟩) (by decide : 0 ≤ _) (by decide : 0 ≤ _)
theorem d32_0 : decode method_6_code 0 = .ok (.iload_n 0, 1) := by decide +kernel
theorem d32_1 : decode method_6_code 1 = .ok (.ldc 33, 2) := by decide +kernel
theorem d32_3 : decode method_6_code 3 = .ok (.if_icmp .lt 13, 3) := by decide +kernel
theorem d32_16 : decode method_6_code 16 = .ok (.iconst 0, 1) := by decide +kernel
theorem d32_17 : decode method_6_code 17 = .ok (.ireturn, 1) := by decide +kernel
theorem d32_6 : decode method_6_code 6 = .ok (.iload_n 0, 1) := by decide +kernel
theorem d32_7 : decode method_6_code 7 = .ok (.ldc 41, 2) := by decide +kernel
theorem d32_9 : decode method_6_code 9 = .ok (.if_icmp .gt 7, 3) := by decide +kernel
theorem d32_12 : decode method_6_code 12 = .ok (.iconst 1, 1) := by decide +kernel
theorem d32_13 : decode method_6_code 13 = .ok (.goto 4, 3) := by decide +kernel
theorem ef_rmIW (m : MethodId) (p0 : Int32)  : entryFrame m #[(.int p0)] 1 = mkF m 0 #[.val (.int p0)] [] := by first |  (simp [entryFrame, mkF, argsToLocals, Value.category]; done) | rfl
def f_rmIW (p0 : Int32) : Int32 := if p0 < (56320 : Int32) then (0 : Int32) else if (57343 : Int32) < p0 then (0 : Int32) else (1 : Int32)
def Q_rmIW (Z : State) (p0 : Int32) (h0 : Heap) (n0 : Nat) (v : Option Value) (h : Heap) (L : List Loc) : Prop := v = some (.int (f_rmIW p0)) ∧ Fr n0 L ∧ h = h0
theorem rmIW (l : Launch) (Z : State) (a0 : Array Value) (hw : ∀ d ∈ tables_1, d.before a0 Z = true) (ws : List Jvm.Cond) (p0 : Int32) (h0 : Heap) (n0 : Nat) (Z0 : n0 ≤ h0.size) :
    MetFree l own_m27 (head1 (Jvm.Cond.code own_m27 method_6_code 1 (some .boolean) :: ws) ({ frames := 0, cells := 0, slots := 0, locals := 0 } : Room)) (fun a U => a = #[(.int p0)] ∧ Z.Warmed39 U.vm ∧ U.heap = h0) (fun _ _ _ _ _ => True) (fun _ U o U' => ∃ v L, o = .returned v ∧ Q_rmIW Z p0 h0 n0 v U'.heap L ∧ FrameEnd U o U' L ({ frames := 0, cells := 0, slots := 0, locals := 0 } : Room).cells ({ frames := 0, cells := 0, slots := 0, locals := 0 } : Room).slots) := by
  refine MetFree.of_bodySF (plainFor_of_name pn_com_example_tiphys_tiphys_CodePointOrderComparePinLaw) hisR ?_
  intro p e s m args below meth c s₁ Bd hml0 hP hK
  obtain ⟨rfl, hZ, hh⟩ := hP
  have hx := Bd.exec
  have hby := Bd.bytes
  have hml : c.maxLocals = 1 := hml0
  have hown : s.vm.findClass "com/example/tiphys/tiphys/CodePointOrderComparePinLaw" = some m.cls := findClass_of_methodNamed Bd.named
  have hnm := (name_of_methodNamed Bd.named Bd.method).1
  have hlk := Bd.notSynchronized
  have X0 : Stand p l e ({ frames := 0, cells := 0, slots := 0, locals := 0 } : Room) s m #[(.int p0)] below meth c s₁ [] 0 0 := Stand.of_body Bd
  have e0 : s₁.heap = h0 := by rw [← hh, Bd.state]; rfl
  have N0 := Fr.nil n0
  show own_G p.tables e below s (Q_rmIW Z p0 h0 n0) ({ frames := 0, cells := 0, slots := 0, locals := 0 } : Room).cells ({ frames := 0, cells := 0, slots := 0, locals := 0 } : Room).slots _
  refine own_thr (a := s₁.setTop (mkF m 0 #[.val (.int p0)] [])) (fun t kt => castTop (ef_rmIW m p0) kt) ?_
  refine own_thr (a := s₁.setTop (mkF m 3 #[.val (.int p0)] [(.int 56320), (.int p0)])) (fun t kt => ?_) ?_
  · refine XS.iloadN X0.here hx rfl (hb hby d32_0) rfl ?_
    refine X0.ldcInt hx hown (mvT hZ (hw _ (own_i 6 rfl))) (g := (mkF m 1 #[.val (.int p0)] [(.int p0)])) rfl (hb hby d32_1) _ ?_
    exact kt
  by_cases hc1 : p0 < (56320 : Int32)
  · refine own_thr (a := s₁.setTop (mkF m 17 #[.val (.int p0)] [(.int 0)])) (fun t kt => ?_) ?_
    · refine XS.icmpYes X0.here hx rfl (pc0 := 3) (pc' := 16) rfl (hb hby d32_3) rfl (tlt hc1).1 (by decide) (by decide) ?_
      refine XS.iconst X0.here hx rfl (hb hby d32_16) ?_
      exact kt
    exact own_end X0 hlk (v := some (.int 0)) (fun h => by rw [Bd.returns] at h; cases h) (fun fs hr => retN X0 hx (t := .boolean) Bd.returns (by simp) (hb hby d32_17) hr) (by rw [e0]; exact ⟨(by rw [f_rmIW, if_pos hc1]), N0, rfl⟩) (by decide : 0 ≤ _) (by decide : 0 ≤ _)
  · refine own_thr (a := s₁.setTop (mkF m 9 #[.val (.int p0)] [(.int 57343), (.int p0)])) (fun t kt => ?_) ?_
    · refine XS.icmpNo X0.here hx rfl (hb hby d32_3) rfl (flt hc1).1 ?_
      refine XS.iloadN X0.here hx rfl (hb hby d32_6) rfl ?_
      refine X0.ldcInt hx hown (mvT hZ (hw _ (own_i 137 rfl))) (g := (mkF m 7 #[.val (.int p0)] [(.int p0)])) rfl (hb hby d32_7) _ ?_
      exact kt
    by_cases hc2 : (57343 : Int32) < p0
    · refine own_thr (a := s₁.setTop (mkF m 17 #[.val (.int p0)] [(.int 0)])) (fun t kt => ?_) ?_
      · refine XS.icmpYes X0.here hx rfl (pc0 := 9) (pc' := 16) rfl (hb hby d32_9) rfl (tlt hc2).2.2.1 (by decide) (by decide) ?_
        refine XS.iconst X0.here hx rfl (hb hby d32_16) ?_
        exact kt
      exact own_end X0 hlk (v := some (.int 0)) (fun h => by rw [Bd.returns] at h; cases h) (fun fs hr => retN X0 hx (t := .boolean) Bd.returns (by simp) (hb hby d32_17) hr) (by rw [e0]; exact ⟨(by rw [f_rmIW, if_neg hc1, if_pos hc2]), N0, rfl⟩) (by decide : 0 ≤ _) (by decide : 0 ≤ _)
    · refine own_thr (a := s₁.setTop (mkF m 17 #[.val (.int p0)] [(.int 1)])) (fun t kt => ?_) ?_
      · refine XS.icmpNo X0.here hx rfl (hb hby d32_9) rfl (flt hc2).2.2.1 ?_
        refine XS.iconst X0.here hx rfl (hb hby d32_12) ?_
        refine XS.goto X0.here hx rfl (pc0 := 13) (pc' := 17) rfl (hb hby d32_13) (by decide) (by decide) ?_
        exact kt
      exact own_end X0 hlk (v := some (.int 1)) (fun h => by rw [Bd.returns] at h; cases h) (fun fs hr => retN X0 hx (t := .boolean) Bd.returns (by simp) (hb hby d32_17) hr) (by rw [e0]; exact ⟨(by rw [f_rmIW, if_neg hc1, if_neg hc2]), N0, rfl⟩) (by decide : 0 ≤ _) (by decide : 0 ≤ _)
theorem d29_0 : decode method_7_code 0 = .ok (.iload_n 0, 1) := by decide +kernel
theorem d29_1 : decode method_7_code 1 = .ok (.iconst 2, 1) := by decide +kernel
theorem d29_2 : decode method_7_code 2 = .ok (.if_icmp .ne 21, 3) := by decide +kernel
theorem d29_5 : decode method_7_code 5 = .ok (.iload_n 1, 1) := by decide +kernel
theorem d29_6 : decode method_7_code 6 = .ok (.invokestatic 42, 3) := by decide +kernel
theorem d29_9 : decode method_7_code 9 = .ok (.ifCond .eq 14, 3) := by decide +kernel
theorem d29_23 : decode method_7_code 23 = .ok (.iconst 0, 1) := by decide +kernel
theorem d29_24 : decode method_7_code 24 = .ok (.ireturn, 1) := by decide +kernel
theorem d29_12 : decode method_7_code 12 = .ok (.iload_n 2, 1) := by decide +kernel
theorem d29_13 : decode method_7_code 13 = .ok (.invokestatic 46, 3) := by decide +kernel
theorem d29_16 : decode method_7_code 16 = .ok (.ifCond .eq 7, 3) := by decide +kernel
theorem d29_19 : decode method_7_code 19 = .ok (.iconst 1, 1) := by decide +kernel
theorem d29_20 : decode method_7_code 20 = .ok (.goto 4, 3) := by decide +kernel
theorem ef_rmPR (m : MethodId) (p0 : Int32) (p1 : Int32) (p2 : Int32)  : entryFrame m #[(.int p0), (.int p1), (.int p2)] 3 = mkF m 0 #[.val (.int p0), .val (.int p1), .val (.int p2)] [] := by first |  (simp [entryFrame, mkF, argsToLocals, Value.category]; done) | rfl
def f_rmPR (p0 : Int32) (p1 : Int32) (p2 : Int32) : Int32 := if p0 = (2 : Int32) then (if (f_rmIH p1) = (0 : Int32) then (0 : Int32) else if (f_rmIW p2) = (0 : Int32) then (0 : Int32) else (1 : Int32)) else (0 : Int32)
def Q_rmPR (Z : State) (p0 : Int32) (p1 : Int32) (p2 : Int32) (h0 : Heap) (n0 : Nat) (v : Option Value) (h : Heap) (L : List Loc) : Prop := v = some (.int (f_rmPR p0 p1 p2)) ∧ Fr n0 L ∧ h = h0
theorem rmPR (l : Launch) (Z : State) (a0 : Array Value) (hw : ∀ d ∈ tables_1, d.before a0 Z = true) (ws : List Jvm.Cond) (p0 : Int32) (p1 : Int32) (p2 : Int32) (h0 : Heap) (n0 : Nat) (Z0 : n0 ≤ h0.size) :
    MetFree l own_m28 (head1 (Jvm.Cond.code own_m28 method_7_code 3 (some .boolean) :: ws) ({ frames := 1, cells := 0, slots := 0, locals := 12 } : Room)) (fun a U => a = #[(.int p0), (.int p1), (.int p2)] ∧ Z.Warmed39 U.vm ∧ U.heap = h0) (fun _ _ _ _ _ => True) (fun _ U o U' => ∃ v L, o = .returned v ∧ Q_rmPR Z p0 p1 p2 h0 n0 v U'.heap L ∧ FrameEnd U o U' L ({ frames := 1, cells := 0, slots := 0, locals := 12 } : Room).cells ({ frames := 1, cells := 0, slots := 0, locals := 12 } : Room).slots) := by
  refine MetFree.of_bodySF (plainFor_of_name pn_com_example_tiphys_tiphys_CodePointOrderComparePinLaw) hisR ?_
  intro p e s m args below meth c s₁ Bd hml0 hP hK
  obtain ⟨rfl, hZ, hh⟩ := hP
  have hx := Bd.exec
  have hby := Bd.bytes
  have hml : c.maxLocals = 3 := hml0
  have hown : s.vm.findClass "com/example/tiphys/tiphys/CodePointOrderComparePinLaw" = some m.cls := findClass_of_methodNamed Bd.named
  have hnm := (name_of_methodNamed Bd.named Bd.method).1
  have hlk := Bd.notSynchronized
  have X0 : Stand p l e ({ frames := 1, cells := 0, slots := 0, locals := 12 } : Room) s m #[(.int p0), (.int p1), (.int p2)] below meth c s₁ [] 0 0 := Stand.of_body Bd
  have e0 : s₁.heap = h0 := by rw [← hh, Bd.state]; rfl
  have N0 := Fr.nil n0
  show own_G p.tables e below s (Q_rmPR Z p0 p1 p2 h0 n0) ({ frames := 1, cells := 0, slots := 0, locals := 12 } : Room).cells ({ frames := 1, cells := 0, slots := 0, locals := 12 } : Room).slots _
  refine own_thr (a := s₁.setTop (mkF m 0 #[.val (.int p0), .val (.int p1), .val (.int p2)] [])) (fun t kt => castTop (ef_rmPR m p0 p1 p2) kt) ?_
  refine own_thr (a := s₁.setTop (mkF m 2 #[.val (.int p0), .val (.int p1), .val (.int p2)] [(.int 2), (.int p0)])) (fun t kt => ?_) ?_
  · refine XS.iloadN X0.here hx rfl (hb hby d29_0) rfl ?_
    refine XS.iconst X0.here hx rfl (hb hby d29_1) ?_
    exact kt
  by_cases hc1 : p0 = (2 : Int32)
  · refine own_thr (a := s₁.setTop (mkF m 6 #[.val (.int p0), .val (.int p1), .val (.int p2)] [(.int p1)])) (fun t kt => ?_) ?_
    · refine XS.icmpNo X0.here hx rfl (hb hby d29_2) rfl (teq hc1).2 ?_
      refine XS.iloadN X0.here hx rfl (hb hby d29_5) rfl ?_
      exact kt
    obtain ⟨_, _, ⟨T2, L2, k2, n2⟩, -, X2, ⟨Lc2, hQ2, l2, y2, z2⟩, st2⟩ := Jvm.LawKit.callS X0 hx (y := own_m26) hown (mvT hZ (hw _ (own_i 127 rfl))) (mvT hZ (hw _ (own_i 128 rfl))) (mvT hZ (hw _ (own_i 2 rfl))) (mvT hZ (hw _ (own_i 129 rfl))) (by decide) (backOf (W := 0) (rmIH l Z a0 hw [] p1 h0 n0 Z0) hZ (hw _ (own_i 129 rfl)) (hw _ (own_i 2 rfl)) (by decide) (by decide)) (g := (mkF m 6 #[.val (.int p0), .val (.int p1), .val (.int p2)] [(.int p1)])) rfl (by rw [hml]; rfl) (argsL := [(.int p1)]) (rest := []) (lenOf pd__28C_29Z rfl) rfl (own_q rfl) (hb hby d29_6) (fun _ _ => ⟨rfl, e0, (by decide : 0 + 0 ≤ _), (by decide : 0 + 0 ≤ _)⟩)
    dsimp only [Pt.U, Pt.locs, Pt.cells, Pt.slots] at X2 l2 y2 z2 st2 hQ2
    obtain ⟨rfl, N2q, e2⟩ := hQ2
    obtain ⟨lc2, X2, N2⟩ := own_pack X2 l2 y2 z2 N0 N2q (C := 0) (S' := 0) rfl rfl
    refine own_thr (a := T2.setTop (mkF m 9 #[.val (.int p0), .val (.int p1), .val (.int p2)] [(.int (f_rmIH p1))])) (fun t kt => st2 t kt) ?_
    by_cases hc3 : (f_rmIH p1) = (0 : Int32)
    · refine own_thr (a := T2.setTop (mkF m 24 #[.val (.int p0), .val (.int p1), .val (.int p2)] [(.int 0)])) (fun t kt => ?_) ?_
      · refine XS.ifYes X2.here hx rfl (pc0 := 9) (pc' := 23) rfl (hb hby d29_9) rfl ((if0 _ _).trans (teq hc3).1) (by decide) (by decide) ?_
        refine XS.iconst X2.here hx rfl (hb hby d29_23) ?_
        exact kt
      exact own_end X2 hlk (v := some (.int 0)) (fun h => by rw [Bd.returns] at h; cases h) (fun fs hr => retN X2 hx (t := .boolean) Bd.returns (by simp) (hb hby d29_24) hr) (by rw [e2]; exact ⟨(by rw [f_rmPR, if_pos hc1, if_pos hc3]), N2, rfl⟩) (by decide : 0 ≤ _) (by decide : 0 ≤ _)
    · refine own_thr (a := T2.setTop (mkF m 13 #[.val (.int p0), .val (.int p1), .val (.int p2)] [(.int p2)])) (fun t kt => ?_) ?_
      · refine XS.ifNo X2.here hx rfl (hb hby d29_9) rfl ((if0 _ _).trans (feq hc3).1) ?_
        refine XS.iloadN X2.here hx rfl (hb hby d29_12) rfl ?_
        exact kt
      obtain ⟨_, _, ⟨T4, L4, k4, n4⟩, -, X4, ⟨Lc4, hQ4, l4, y4, z4⟩, st4⟩ := Jvm.LawKit.callS X2 hx (y := own_m27) hown (mvT hZ (hw _ (own_i 134 rfl))) (mvT hZ (hw _ (own_i 135 rfl))) (mvT hZ (hw _ (own_i 2 rfl))) (mvT hZ (hw _ (own_i 136 rfl))) (by decide) (backOf (W := 0) (rmIW l Z a0 hw [] p2 h0 n0 Z0) hZ (hw _ (own_i 136 rfl)) (hw _ (own_i 2 rfl)) (by decide) (by decide)) (g := (mkF m 13 #[.val (.int p0), .val (.int p1), .val (.int p2)] [(.int p2)])) rfl (by rw [hml]; rfl) (argsL := [(.int p2)]) (rest := []) (lenOf pd__28C_29Z rfl) rfl (own_q rfl) (hb hby d29_13) (fun _ _ => ⟨rfl, e2, (by decide : 0 + 0 ≤ _), (by decide : 0 + 0 ≤ _)⟩)
      dsimp only [Pt.U, Pt.locs, Pt.cells, Pt.slots] at X4 l4 y4 z4 st4 hQ4
      obtain ⟨rfl, N4q, e4⟩ := hQ4
      obtain ⟨lc4, X4, N4⟩ := own_pack X4 l4 y4 z4 N2 N4q (C := 0) (S' := 0) rfl rfl
      refine own_thr (a := T4.setTop (mkF m 16 #[.val (.int p0), .val (.int p1), .val (.int p2)] [(.int (f_rmIW p2))])) (fun t kt => st4 t kt) ?_
      by_cases hc5 : (f_rmIW p2) = (0 : Int32)
      · refine own_thr (a := T4.setTop (mkF m 24 #[.val (.int p0), .val (.int p1), .val (.int p2)] [(.int 0)])) (fun t kt => ?_) ?_
        · refine XS.ifYes X4.here hx rfl (pc0 := 16) (pc' := 23) rfl (hb hby d29_16) rfl ((if0 _ _).trans (teq hc5).1) (by decide) (by decide) ?_
          refine XS.iconst X4.here hx rfl (hb hby d29_23) ?_
          exact kt
        exact own_end X4 hlk (v := some (.int 0)) (fun h => by rw [Bd.returns] at h; cases h) (fun fs hr => retN X4 hx (t := .boolean) Bd.returns (by simp) (hb hby d29_24) hr) (by rw [e4]; exact ⟨(by rw [f_rmPR, if_pos hc1, if_neg hc3, if_pos hc5]), N4, rfl⟩) (by decide : 0 ≤ _) (by decide : 0 ≤ _)
      · refine own_thr (a := T4.setTop (mkF m 24 #[.val (.int p0), .val (.int p1), .val (.int p2)] [(.int 1)])) (fun t kt => ?_) ?_
        · refine XS.ifNo X4.here hx rfl (hb hby d29_16) rfl ((if0 _ _).trans (feq hc5).1) ?_
          refine XS.iconst X4.here hx rfl (hb hby d29_19) ?_
          refine XS.goto X4.here hx rfl (pc0 := 20) (pc' := 24) rfl (hb hby d29_20) (by decide) (by decide) ?_
          exact kt
        exact own_end X4 hlk (v := some (.int 1)) (fun h => by rw [Bd.returns] at h; cases h) (fun fs hr => retN X4 hx (t := .boolean) Bd.returns (by simp) (hb hby d29_24) hr) (by rw [e4]; exact ⟨(by rw [f_rmPR, if_pos hc1, if_neg hc3, if_neg hc5]), N4, rfl⟩) (by decide : 0 ≤ _) (by decide : 0 ≤ _)
  · refine own_thr (a := s₁.setTop (mkF m 24 #[.val (.int p0), .val (.int p1), .val (.int p2)] [(.int 0)])) (fun t kt => ?_) ?_
    · refine XS.icmpYes X0.here hx rfl (pc0 := 2) (pc' := 23) rfl (hb hby d29_2) rfl (feq hc1).2 (by decide) (by decide) ?_
      refine XS.iconst X0.here hx rfl (hb hby d29_23) ?_
      exact kt
    exact own_end X0 hlk (v := some (.int 0)) (fun h => by rw [Bd.returns] at h; cases h) (fun fs hr => retN X0 hx (t := .boolean) Bd.returns (by simp) (hb hby d29_24) hr) (by rw [e0]; exact ⟨(by rw [f_rmPR, if_neg hc1]), N0, rfl⟩) (by decide : 0 ≤ _) (by decide : 0 ≤ _)
theorem d11_0 : decode method_8_code 0 = .ok (.iload_n 0, 1) := by decide +kernel
theorem d11_1 : decode method_8_code 1 = .ok (.ifCond .ne 5, 3) := by decide +kernel
theorem d11_4 : decode method_8_code 4 = .ok (.iconst 0, 1) := by decide +kernel
theorem d11_5 : decode method_8_code 5 = .ok (.ireturn, 1) := by decide +kernel
theorem d11_6 : decode method_8_code 6 = .ok (.iload_n 0, 1) := by decide +kernel
theorem d11_7 : decode method_8_code 7 = .ok (.iconst 1, 1) := by decide +kernel
theorem d11_8 : decode method_8_code 8 = .ok (.if_icmp .ne 5, 3) := by decide +kernel
theorem d11_11 : decode method_8_code 11 = .ok (.iconst 1, 1) := by decide +kernel
theorem d11_12 : decode method_8_code 12 = .ok (.ireturn, 1) := by decide +kernel
theorem d11_13 : decode method_8_code 13 = .ok (.iload_n 0, 1) := by decide +kernel
theorem d11_14 : decode method_8_code 14 = .ok (.iload_n 1, 1) := by decide +kernel
theorem d11_15 : decode method_8_code 15 = .ok (.iload_n 2, 1) := by decide +kernel
theorem pd__28ICC_29Z : parseMethodDescriptor "(ICC)Z" = some ⟨[.int, .char, .char], some .boolean⟩ := by decide +kernel
theorem d11_16 : decode method_8_code 16 = .ok (.invokestatic 49, 3) := by decide +kernel
theorem d11_19 : decode method_8_code 19 = .ok (.ifCond .eq 7, 3) := by decide +kernel
theorem d11_26 : decode method_8_code 26 = .ok (.iconst 2, 1) := by decide +kernel
theorem d11_27 : decode method_8_code 27 = .ok (.ireturn, 1) := by decide +kernel
theorem d11_22 : decode method_8_code 22 = .ok (.iconst 1, 1) := by decide +kernel
theorem d11_23 : decode method_8_code 23 = .ok (.goto 4, 3) := by decide +kernel
theorem ef_rmCN (m : MethodId) (p0 : Int32) (p1 : Int32) (p2 : Int32)  : entryFrame m #[(.int p0), (.int p1), (.int p2)] 3 = mkF m 0 #[.val (.int p0), .val (.int p1), .val (.int p2)] [] := by first |  (simp [entryFrame, mkF, argsToLocals, Value.category]; done) | rfl
def f_rmCN (p0 : Int32) (p1 : Int32) (p2 : Int32) : Int32 := if p0 = (0 : Int32) then (0 : Int32) else if p0 = (1 : Int32) then (1 : Int32) else if (f_rmPR p0 p1 p2) = (0 : Int32) then (2 : Int32) else (1 : Int32)
def Q_rmCN (Z : State) (p0 : Int32) (p1 : Int32) (p2 : Int32) (h0 : Heap) (n0 : Nat) (v : Option Value) (h : Heap) (L : List Loc) : Prop := v = some (.int (f_rmCN p0 p1 p2)) ∧ Fr n0 L ∧ h = h0
theorem rmCN (l : Launch) (Z : State) (a0 : Array Value) (hw : ∀ d ∈ tables_1, d.before a0 Z = true) (ws : List Jvm.Cond) (p0 : Int32) (p1 : Int32) (p2 : Int32) (h0 : Heap) (n0 : Nat) (Z0 : n0 ≤ h0.size) :
    MetFree l own_m29 (head1 (Jvm.Cond.code own_m29 method_8_code 3 (some .int) :: ws) ({ frames := 2, cells := 0, slots := 0, locals := 26 } : Room)) (fun a U => a = #[(.int p0), (.int p1), (.int p2)] ∧ Z.Warmed39 U.vm ∧ U.heap = h0) (fun _ _ _ _ _ => True) (fun _ U o U' => ∃ v L, o = .returned v ∧ Q_rmCN Z p0 p1 p2 h0 n0 v U'.heap L ∧ FrameEnd U o U' L ({ frames := 2, cells := 0, slots := 0, locals := 26 } : Room).cells ({ frames := 2, cells := 0, slots := 0, locals := 26 } : Room).slots) := by
  refine MetFree.of_bodySF (plainFor_of_name pn_com_example_tiphys_tiphys_CodePointOrderComparePinLaw) hisR ?_
  intro p e s m args below meth c s₁ Bd hml0 hP hK
  obtain ⟨rfl, hZ, hh⟩ := hP
  have hx := Bd.exec
  have hby := Bd.bytes
  have hml : c.maxLocals = 3 := hml0
  have hown : s.vm.findClass "com/example/tiphys/tiphys/CodePointOrderComparePinLaw" = some m.cls := findClass_of_methodNamed Bd.named
  have hnm := (name_of_methodNamed Bd.named Bd.method).1
  have hlk := Bd.notSynchronized
  have X0 : Stand p l e ({ frames := 2, cells := 0, slots := 0, locals := 26 } : Room) s m #[(.int p0), (.int p1), (.int p2)] below meth c s₁ [] 0 0 := Stand.of_body Bd
  have e0 : s₁.heap = h0 := by rw [← hh, Bd.state]; rfl
  have N0 := Fr.nil n0
  show own_G p.tables e below s (Q_rmCN Z p0 p1 p2 h0 n0) ({ frames := 2, cells := 0, slots := 0, locals := 26 } : Room).cells ({ frames := 2, cells := 0, slots := 0, locals := 26 } : Room).slots _
  refine own_thr (a := s₁.setTop (mkF m 0 #[.val (.int p0), .val (.int p1), .val (.int p2)] [])) (fun t kt => castTop (ef_rmCN m p0 p1 p2) kt) ?_
  refine own_thr (a := s₁.setTop (mkF m 1 #[.val (.int p0), .val (.int p1), .val (.int p2)] [(.int p0)])) (fun t kt => ?_) ?_
  · refine XS.iloadN X0.here hx rfl (hb hby d11_0) rfl ?_
    exact kt
  by_cases hc1 : p0 = (0 : Int32)
  · refine own_thr (a := s₁.setTop (mkF m 5 #[.val (.int p0), .val (.int p1), .val (.int p2)] [(.int 0)])) (fun t kt => ?_) ?_
    · refine XS.ifNo X0.here hx rfl (hb hby d11_1) rfl ((if0 _ _).trans (teq hc1).2) ?_
      refine XS.iconst X0.here hx rfl (hb hby d11_4) ?_
      exact kt
    exact own_end X0 hlk (v := some (.int 0)) (fun h => by rw [Bd.returns] at h; cases h) (fun fs hr => retI X0 hx Bd.returns (hb hby d11_5) hr) (by rw [e0]; exact ⟨(by rw [f_rmCN, if_pos hc1]), N0, rfl⟩) (by decide : 0 ≤ _) (by decide : 0 ≤ _)
  · refine own_thr (a := s₁.setTop (mkF m 8 #[.val (.int p0), .val (.int p1), .val (.int p2)] [(.int 1), (.int p0)])) (fun t kt => ?_) ?_
    · refine XS.ifYes X0.here hx rfl (pc0 := 1) (pc' := 6) rfl (hb hby d11_1) rfl ((if0 _ _).trans (feq hc1).2) (by decide) (by decide) ?_
      refine XS.iloadN X0.here hx rfl (hb hby d11_6) rfl ?_
      refine XS.iconst X0.here hx rfl (hb hby d11_7) ?_
      exact kt
    by_cases hc2 : p0 = (1 : Int32)
    · refine own_thr (a := s₁.setTop (mkF m 12 #[.val (.int p0), .val (.int p1), .val (.int p2)] [(.int 1)])) (fun t kt => ?_) ?_
      · refine XS.icmpNo X0.here hx rfl (hb hby d11_8) rfl (teq hc2).2 ?_
        refine XS.iconst X0.here hx rfl (hb hby d11_11) ?_
        exact kt
      exact own_end X0 hlk (v := some (.int 1)) (fun h => by rw [Bd.returns] at h; cases h) (fun fs hr => retI X0 hx Bd.returns (hb hby d11_12) hr) (by rw [e0]; exact ⟨(by rw [f_rmCN, if_neg hc1, if_pos hc2]), N0, rfl⟩) (by decide : 0 ≤ _) (by decide : 0 ≤ _)
    · refine own_thr (a := s₁.setTop (mkF m 16 #[.val (.int p0), .val (.int p1), .val (.int p2)] [(.int p2), (.int p1), (.int p0)])) (fun t kt => ?_) ?_
      · refine XS.icmpYes X0.here hx rfl (pc0 := 8) (pc' := 13) rfl (hb hby d11_8) rfl (feq hc2).2 (by decide) (by decide) ?_
        refine XS.iloadN X0.here hx rfl (hb hby d11_13) rfl ?_
        refine XS.iloadN X0.here hx rfl (hb hby d11_14) rfl ?_
        refine XS.iloadN X0.here hx rfl (hb hby d11_15) rfl ?_
        exact kt
      obtain ⟨_, _, ⟨T3, L3, k3, n3⟩, -, X3, ⟨Lc3, hQ3, l3, y3, z3⟩, st3⟩ := Jvm.LawKit.callS X0 hx (y := own_m28) hown (mvT hZ (hw _ (own_i 124 rfl))) (mvT hZ (hw _ (own_i 125 rfl))) (mvT hZ (hw _ (own_i 2 rfl))) (mvT hZ (hw _ (own_i 126 rfl))) (by decide) (backOf (W := 0) (rmPR l Z a0 hw [] p0 p1 p2 h0 n0 Z0) hZ (hw _ (own_i 126 rfl)) (hw _ (own_i 2 rfl)) (by decide) (by decide)) (g := (mkF m 16 #[.val (.int p0), .val (.int p1), .val (.int p2)] [(.int p2), (.int p1), (.int p0)])) rfl (by rw [hml]; rfl) (argsL := [(.int p0), (.int p1), (.int p2)]) (rest := []) (lenOf pd__28ICC_29Z rfl) rfl (own_q rfl) (hb hby d11_16) (fun _ _ => ⟨rfl, e0, (by decide : 0 + 0 ≤ _), (by decide : 0 + 0 ≤ _)⟩)
      dsimp only [Pt.U, Pt.locs, Pt.cells, Pt.slots] at X3 l3 y3 z3 st3 hQ3
      obtain ⟨rfl, N3q, e3⟩ := hQ3
      obtain ⟨lc3, X3, N3⟩ := own_pack X3 l3 y3 z3 N0 N3q (C := 0) (S' := 0) rfl rfl
      refine own_thr (a := T3.setTop (mkF m 19 #[.val (.int p0), .val (.int p1), .val (.int p2)] [(.int (f_rmPR p0 p1 p2))])) (fun t kt => st3 t kt) ?_
      by_cases hc4 : (f_rmPR p0 p1 p2) = (0 : Int32)
      · refine own_thr (a := T3.setTop (mkF m 27 #[.val (.int p0), .val (.int p1), .val (.int p2)] [(.int 2)])) (fun t kt => ?_) ?_
        · refine XS.ifYes X3.here hx rfl (pc0 := 19) (pc' := 26) rfl (hb hby d11_19) rfl ((if0 _ _).trans (teq hc4).1) (by decide) (by decide) ?_
          refine XS.iconst X3.here hx rfl (hb hby d11_26) ?_
          exact kt
        exact own_end X3 hlk (v := some (.int 2)) (fun h => by rw [Bd.returns] at h; cases h) (fun fs hr => retI X3 hx Bd.returns (hb hby d11_27) hr) (by rw [e3]; exact ⟨(by rw [f_rmCN, if_neg hc1, if_neg hc2, if_pos hc4]), N3, rfl⟩) (by decide : 0 ≤ _) (by decide : 0 ≤ _)
      · refine own_thr (a := T3.setTop (mkF m 27 #[.val (.int p0), .val (.int p1), .val (.int p2)] [(.int 1)])) (fun t kt => ?_) ?_
        · refine XS.ifNo X3.here hx rfl (hb hby d11_19) rfl ((if0 _ _).trans (feq hc4).1) ?_
          refine XS.iconst X3.here hx rfl (hb hby d11_22) ?_
          refine XS.goto X3.here hx rfl (pc0 := 23) (pc' := 27) rfl (hb hby d11_23) (by decide) (by decide) ?_
          exact kt
        exact own_end X3 hlk (v := some (.int 1)) (fun h => by rw [Bd.returns] at h; cases h) (fun fs hr => retI X3 hx Bd.returns (hb hby d11_27) hr) (by rw [e3]; exact ⟨(by rw [f_rmCN, if_neg hc1, if_neg hc2, if_neg hc4]), N3, rfl⟩) (by decide : 0 ≤ _) (by decide : 0 ≤ _)
theorem d31_0 : decode method_9_code 0 = .ok (.iload_n 0, 1) := by decide +kernel
theorem d31_1 : decode method_9_code 1 = .ok (.iload_n 1, 1) := by decide +kernel
theorem d31_2 : decode method_9_code 2 = .ok (.iload_n 2, 1) := by decide +kernel
theorem d31_3 : decode method_9_code 3 = .ok (.invokestatic 49, 3) := by decide +kernel
theorem d31_6 : decode method_9_code 6 = .ok (.ifCond .eq 19, 3) := by decide +kernel
theorem d31_25 : decode method_9_code 25 = .ok (.iload_n 1, 1) := by decide +kernel
theorem d31_26 : decode method_9_code 26 = .ok (.ireturn, 1) := by decide +kernel
theorem d31_9 : decode method_9_code 9 = .ok (.iload_n 1, 1) := by decide +kernel
theorem d31_10 : decode method_9_code 10 = .ok (.ldc 32, 2) := by decide +kernel
theorem d31_12 : decode method_9_code 12 = .ok (.isub, 1) := by decide +kernel
theorem d31_13 : decode method_9_code 13 = .ok (.bipush 10, 2) := by decide +kernel
theorem d31_15 : decode method_9_code 15 = .ok (.ishl, 1) := by decide +kernel
theorem d31_16 : decode method_9_code 16 = .ok (.iload_n 2, 1) := by decide +kernel
theorem d31_17 : decode method_9_code 17 = .ok (.ldc 33, 2) := by decide +kernel
theorem d31_19 : decode method_9_code 19 = .ok (.isub, 1) := by decide +kernel
theorem d31_20 : decode method_9_code 20 = .ok (.iadd, 1) := by decide +kernel
theorem d31_21 : decode method_9_code 21 = .ok (.ldc 53, 2) := by decide +kernel
theorem d31_23 : decode method_9_code 23 = .ok (.iadd, 1) := by decide +kernel
theorem d31_24 : decode method_9_code 24 = .ok (.ireturn, 1) := by decide +kernel
theorem ef_rmFP (m : MethodId) (p0 : Int32) (p1 : Int32) (p2 : Int32)  : entryFrame m #[(.int p0), (.int p1), (.int p2)] 3 = mkF m 0 #[.val (.int p0), .val (.int p1), .val (.int p2)] [] := by first |  (simp [entryFrame, mkF, argsToLocals, Value.category]; done) | rfl
def f_rmFP (p0 : Int32) (p1 : Int32) (p2 : Int32) : Int32 := if (f_rmPR p0 p1 p2) = (0 : Int32) then p1 else ((((p1 - (55296 : Int32)) <<< ((10 : Int32) &&& 31)) + (p2 - (56320 : Int32))) + (65536 : Int32))
def Q_rmFP (Z : State) (p0 : Int32) (p1 : Int32) (p2 : Int32) (h0 : Heap) (n0 : Nat) (v : Option Value) (h : Heap) (L : List Loc) : Prop := v = some (.int (f_rmFP p0 p1 p2)) ∧ Fr n0 L ∧ h = h0
theorem rmFP (l : Launch) (Z : State) (a0 : Array Value) (hw : ∀ d ∈ tables_1, d.before a0 Z = true) (ws : List Jvm.Cond) (p0 : Int32) (p1 : Int32) (p2 : Int32) (h0 : Heap) (n0 : Nat) (Z0 : n0 ≤ h0.size) :
    MetFree l own_m30 (head1 (Jvm.Cond.code own_m30 method_9_code 3 (some .int) :: ws) ({ frames := 2, cells := 0, slots := 0, locals := 26 } : Room)) (fun a U => a = #[(.int p0), (.int p1), (.int p2)] ∧ Z.Warmed39 U.vm ∧ U.heap = h0) (fun _ _ _ _ _ => True) (fun _ U o U' => ∃ v L, o = .returned v ∧ Q_rmFP Z p0 p1 p2 h0 n0 v U'.heap L ∧ FrameEnd U o U' L ({ frames := 2, cells := 0, slots := 0, locals := 26 } : Room).cells ({ frames := 2, cells := 0, slots := 0, locals := 26 } : Room).slots) := by
  refine MetFree.of_bodySF (plainFor_of_name pn_com_example_tiphys_tiphys_CodePointOrderComparePinLaw) hisR ?_
  intro p e s m args below meth c s₁ Bd hml0 hP hK
  obtain ⟨rfl, hZ, hh⟩ := hP
  have hx := Bd.exec
  have hby := Bd.bytes
  have hml : c.maxLocals = 3 := hml0
  have hown : s.vm.findClass "com/example/tiphys/tiphys/CodePointOrderComparePinLaw" = some m.cls := findClass_of_methodNamed Bd.named
  have hnm := (name_of_methodNamed Bd.named Bd.method).1
  have hlk := Bd.notSynchronized
  have X0 : Stand p l e ({ frames := 2, cells := 0, slots := 0, locals := 26 } : Room) s m #[(.int p0), (.int p1), (.int p2)] below meth c s₁ [] 0 0 := Stand.of_body Bd
  have e0 : s₁.heap = h0 := by rw [← hh, Bd.state]; rfl
  have N0 := Fr.nil n0
  show own_G p.tables e below s (Q_rmFP Z p0 p1 p2 h0 n0) ({ frames := 2, cells := 0, slots := 0, locals := 26 } : Room).cells ({ frames := 2, cells := 0, slots := 0, locals := 26 } : Room).slots _
  refine own_thr (a := s₁.setTop (mkF m 0 #[.val (.int p0), .val (.int p1), .val (.int p2)] [])) (fun t kt => castTop (ef_rmFP m p0 p1 p2) kt) ?_
  refine own_thr (a := s₁.setTop (mkF m 3 #[.val (.int p0), .val (.int p1), .val (.int p2)] [(.int p2), (.int p1), (.int p0)])) (fun t kt => ?_) ?_
  · refine XS.iloadN X0.here hx rfl (hb hby d31_0) rfl ?_
    refine XS.iloadN X0.here hx rfl (hb hby d31_1) rfl ?_
    refine XS.iloadN X0.here hx rfl (hb hby d31_2) rfl ?_
    exact kt
  obtain ⟨_, _, ⟨T1, L1, k1, n1⟩, -, X1, ⟨Lc1, hQ1, l1, y1, z1⟩, st1⟩ := Jvm.LawKit.callS X0 hx (y := own_m28) hown (mvT hZ (hw _ (own_i 124 rfl))) (mvT hZ (hw _ (own_i 125 rfl))) (mvT hZ (hw _ (own_i 2 rfl))) (mvT hZ (hw _ (own_i 126 rfl))) (by decide) (backOf (W := 0) (rmPR l Z a0 hw [] p0 p1 p2 h0 n0 Z0) hZ (hw _ (own_i 126 rfl)) (hw _ (own_i 2 rfl)) (by decide) (by decide)) (g := (mkF m 3 #[.val (.int p0), .val (.int p1), .val (.int p2)] [(.int p2), (.int p1), (.int p0)])) rfl (by rw [hml]; rfl) (argsL := [(.int p0), (.int p1), (.int p2)]) (rest := []) (lenOf pd__28ICC_29Z rfl) rfl (own_q rfl) (hb hby d31_3) (fun _ _ => ⟨rfl, e0, (by decide : 0 + 0 ≤ _), (by decide : 0 + 0 ≤ _)⟩)
  dsimp only [Pt.U, Pt.locs, Pt.cells, Pt.slots] at X1 l1 y1 z1 st1 hQ1
  obtain ⟨rfl, N1q, e1⟩ := hQ1
  obtain ⟨lc1, X1, N1⟩ := own_pack X1 l1 y1 z1 N0 N1q (C := 0) (S' := 0) rfl rfl
  refine own_thr (a := T1.setTop (mkF m 6 #[.val (.int p0), .val (.int p1), .val (.int p2)] [(.int (f_rmPR p0 p1 p2))])) (fun t kt => st1 t kt) ?_
  by_cases hc2 : (f_rmPR p0 p1 p2) = (0 : Int32)
  · refine own_thr (a := T1.setTop (mkF m 26 #[.val (.int p0), .val (.int p1), .val (.int p2)] [(.int p1)])) (fun t kt => ?_) ?_
    · refine XS.ifYes X1.here hx rfl (pc0 := 6) (pc' := 25) rfl (hb hby d31_6) rfl ((if0 _ _).trans (teq hc2).1) (by decide) (by decide) ?_
      refine XS.iloadN X1.here hx rfl (hb hby d31_25) rfl ?_
      exact kt
    exact own_end X1 hlk (v := some (.int p1)) (fun h => by rw [Bd.returns] at h; cases h) (fun fs hr => retI X1 hx Bd.returns (hb hby d31_26) hr) (by rw [e1]; exact ⟨(by rw [f_rmFP, if_pos hc2]), N1, rfl⟩) (by decide : 0 ≤ _) (by decide : 0 ≤ _)
  · refine own_thr (a := T1.setTop (mkF m 24 #[.val (.int p0), .val (.int p1), .val (.int p2)] [(.int ((((p1 - (55296 : Int32)) <<< ((10 : Int32) &&& 31)) + (p2 - (56320 : Int32))) + (65536 : Int32)))])) (fun t kt => ?_) ?_
    · refine XS.ifNo X1.here hx rfl (hb hby d31_6) rfl ((if0 _ _).trans (feq hc2).1) ?_
      refine XS.iloadN X1.here hx rfl (hb hby d31_9) rfl ?_
      refine X1.ldcInt hx hown (mvT hZ (hw _ (own_i 7 rfl))) (g := (mkF m 10 #[.val (.int p0), .val (.int p1), .val (.int p2)] [(.int p1)])) rfl (hb hby d31_10) _ ?_
      refine XS.isub X1.here hx rfl (hb hby d31_12) rfl ?_
      refine XS.bipush X1.here hx rfl (hb hby d31_13) ?_
      refine XS.ishl X1.here hx rfl (hb hby d31_15) rfl ?_
      refine XS.iloadN X1.here hx rfl (hb hby d31_16) rfl ?_
      refine X1.ldcInt hx hown (mvT hZ (hw _ (own_i 6 rfl))) (g := (mkF m 17 #[.val (.int p0), .val (.int p1), .val (.int p2)] [(.int p2), (.int ((p1 - (55296 : Int32)) <<< ((10 : Int32) &&& 31)))])) rfl (hb hby d31_17) _ ?_
      refine XS.isub X1.here hx rfl (hb hby d31_19) rfl ?_
      refine XS.iadd X1.here hx rfl (hb hby d31_20) rfl ?_
      refine X1.ldcInt hx hown (mvT hZ (hw _ (own_i 146 rfl))) (g := (mkF m 21 #[.val (.int p0), .val (.int p1), .val (.int p2)] [(.int (((p1 - (55296 : Int32)) <<< ((10 : Int32) &&& 31)) + (p2 - (56320 : Int32))))])) rfl (hb hby d31_21) _ ?_
      refine XS.iadd X1.here hx rfl (hb hby d31_23) rfl ?_
      exact kt
    exact own_end X1 hlk (v := some (.int ((((p1 - (55296 : Int32)) <<< ((10 : Int32) &&& 31)) + (p2 - (56320 : Int32))) + (65536 : Int32)))) (fun h => by rw [Bd.returns] at h; cases h) (fun fs hr => retI X1 hx Bd.returns (hb hby d31_24) hr) (by rw [e1]; exact ⟨(by rw [f_rmFP, if_neg hc2]), N1, rfl⟩) (by decide : 0 ≤ _) (by decide : 0 ≤ _)
theorem d12_0 : decode method_10_code 0 = .ok (.iload_n 0, 1) := by decide +kernel
theorem d12_1 : decode method_10_code 1 = .ok (.ifCond .ge 5, 3) := by decide +kernel
theorem d12_4 : decode method_10_code 4 = .ok (.iconst (-1), 1) := by decide +kernel
theorem d12_5 : decode method_10_code 5 = .ok (.ireturn, 1) := by decide +kernel
theorem d12_6 : decode method_10_code 6 = .ok (.iload_n 0, 1) := by decide +kernel
theorem d12_7 : decode method_10_code 7 = .ok (.ifCond .le 5, 3) := by decide +kernel
theorem d12_10 : decode method_10_code 10 = .ok (.iconst 1, 1) := by decide +kernel
theorem d12_11 : decode method_10_code 11 = .ok (.ireturn, 1) := by decide +kernel
theorem d12_12 : decode method_10_code 12 = .ok (.iconst 0, 1) := by decide +kernel
theorem d12_13 : decode method_10_code 13 = .ok (.ireturn, 1) := by decide +kernel
theorem ef_rmSG (m : MethodId) (p0 : Int32)  : entryFrame m #[(.int p0)] 1 = mkF m 0 #[.val (.int p0)] [] := by first |  (simp [entryFrame, mkF, argsToLocals, Value.category]; done) | rfl
def f_rmSG (p0 : Int32) : Int32 := if p0 < (0 : Int32) then (-1 : Int32) else if (0 : Int32) < p0 then (1 : Int32) else (0 : Int32)
def Q_rmSG (Z : State) (p0 : Int32) (h0 : Heap) (n0 : Nat) (v : Option Value) (h : Heap) (L : List Loc) : Prop := v = some (.int (f_rmSG p0)) ∧ Fr n0 L ∧ h = h0
theorem rmSG (l : Launch) (Z : State) (a0 : Array Value) (hw : ∀ d ∈ tables_1, d.before a0 Z = true) (ws : List Jvm.Cond) (p0 : Int32) (h0 : Heap) (n0 : Nat) (Z0 : n0 ≤ h0.size) :
    MetFree l own_m31 (head1 (Jvm.Cond.code own_m31 method_10_code 1 (some .int) :: ws) ({ frames := 0, cells := 0, slots := 0, locals := 0 } : Room)) (fun a U => a = #[(.int p0)] ∧ Z.Warmed39 U.vm ∧ U.heap = h0) (fun _ _ _ _ _ => True) (fun _ U o U' => ∃ v L, o = .returned v ∧ Q_rmSG Z p0 h0 n0 v U'.heap L ∧ FrameEnd U o U' L ({ frames := 0, cells := 0, slots := 0, locals := 0 } : Room).cells ({ frames := 0, cells := 0, slots := 0, locals := 0 } : Room).slots) := by
  refine MetFree.of_bodySF (plainFor_of_name pn_com_example_tiphys_tiphys_CodePointOrderComparePinLaw) hisR ?_
  intro p e s m args below meth c s₁ Bd hml0 hP hK
  obtain ⟨rfl, hZ, hh⟩ := hP
  have hx := Bd.exec
  have hby := Bd.bytes
  have hml : c.maxLocals = 1 := hml0
  have hown : s.vm.findClass "com/example/tiphys/tiphys/CodePointOrderComparePinLaw" = some m.cls := findClass_of_methodNamed Bd.named
  have hnm := (name_of_methodNamed Bd.named Bd.method).1
  have hlk := Bd.notSynchronized
  have X0 : Stand p l e ({ frames := 0, cells := 0, slots := 0, locals := 0 } : Room) s m #[(.int p0)] below meth c s₁ [] 0 0 := Stand.of_body Bd
  have e0 : s₁.heap = h0 := by rw [← hh, Bd.state]; rfl
  have N0 := Fr.nil n0
  show own_G p.tables e below s (Q_rmSG Z p0 h0 n0) ({ frames := 0, cells := 0, slots := 0, locals := 0 } : Room).cells ({ frames := 0, cells := 0, slots := 0, locals := 0 } : Room).slots _
  refine own_thr (a := s₁.setTop (mkF m 0 #[.val (.int p0)] [])) (fun t kt => castTop (ef_rmSG m p0) kt) ?_
  refine own_thr (a := s₁.setTop (mkF m 1 #[.val (.int p0)] [(.int p0)])) (fun t kt => ?_) ?_
  · refine XS.iloadN X0.here hx rfl (hb hby d12_0) rfl ?_
    exact kt
  by_cases hc1 : p0 < (0 : Int32)
  · refine own_thr (a := s₁.setTop (mkF m 5 #[.val (.int p0)] [(.int (-1 : Int32))])) (fun t kt => ?_) ?_
    · refine XS.ifNo X0.here hx rfl (hb hby d12_1) rfl ((if0 _ _).trans (tlt hc1).2.1) ?_
      refine XS.iconst X0.here hx rfl (hb hby d12_4) ?_
      exact kt
    exact own_end X0 hlk (v := some (.int (-1 : Int32))) (fun h => by rw [Bd.returns] at h; cases h) (fun fs hr => retI X0 hx Bd.returns (hb hby d12_5) hr) (by rw [e0]; exact ⟨(by rw [f_rmSG, if_pos hc1]), N0, rfl⟩) (by decide : 0 ≤ _) (by decide : 0 ≤ _)
  · refine own_thr (a := s₁.setTop (mkF m 7 #[.val (.int p0)] [(.int p0)])) (fun t kt => ?_) ?_
    · refine XS.ifYes X0.here hx rfl (pc0 := 1) (pc' := 6) rfl (hb hby d12_1) rfl ((if0 _ _).trans (flt hc1).2.1) (by decide) (by decide) ?_
      refine XS.iloadN X0.here hx rfl (hb hby d12_6) rfl ?_
      exact kt
    by_cases hc2 : (0 : Int32) < p0
    · refine own_thr (a := s₁.setTop (mkF m 11 #[.val (.int p0)] [(.int 1)])) (fun t kt => ?_) ?_
      · refine XS.ifNo X0.here hx rfl (hb hby d12_7) rfl ((if0 _ _).trans (tlt hc2).2.2.2) ?_
        refine XS.iconst X0.here hx rfl (hb hby d12_10) ?_
        exact kt
      exact own_end X0 hlk (v := some (.int 1)) (fun h => by rw [Bd.returns] at h; cases h) (fun fs hr => retI X0 hx Bd.returns (hb hby d12_11) hr) (by rw [e0]; exact ⟨(by rw [f_rmSG, if_neg hc1, if_pos hc2]), N0, rfl⟩) (by decide : 0 ≤ _) (by decide : 0 ≤ _)
    · refine own_thr (a := s₁.setTop (mkF m 13 #[.val (.int p0)] [(.int 0)])) (fun t kt => ?_) ?_
      · refine XS.ifYes X0.here hx rfl (pc0 := 7) (pc' := 12) rfl (hb hby d12_7) rfl ((if0 _ _).trans (flt hc2).2.2.2) (by decide) (by decide) ?_
        refine XS.iconst X0.here hx rfl (hb hby d12_12) ?_
        exact kt
      exact own_end X0 hlk (v := some (.int 0)) (fun h => by rw [Bd.returns] at h; cases h) (fun fs hr => retI X0 hx Bd.returns (hb hby d12_13) hr) (by rw [e0]; exact ⟨(by rw [f_rmSG, if_neg hc1, if_neg hc2]), N0, rfl⟩) (by decide : 0 ≤ _) (by decide : 0 ≤ _)
theorem d10_0 : decode method_11_code 0 = .ok (.iload_n 0, 1) := by decide +kernel
theorem d10_1 : decode method_11_code 1 = .ok (.iload_n 1, 1) := by decide +kernel
theorem d10_2 : decode method_11_code 2 = .ok (.iload_n 2, 1) := by decide +kernel
theorem pd__28ICC_29I : parseMethodDescriptor "(ICC)I" = some ⟨[.int, .char, .char], some .int⟩ := by decide +kernel
theorem d10_3 : decode method_11_code 3 = .ok (.invokestatic 54, 3) := by decide +kernel
theorem d10_6 : decode method_11_code 6 = .ok (.istore 6, 2) := by decide +kernel
theorem d10_8 : decode method_11_code 8 = .ok (.iload_n 3, 1) := by decide +kernel
theorem d10_9 : decode method_11_code 9 = .ok (.iload 4, 2) := by decide +kernel
theorem d10_11 : decode method_11_code 11 = .ok (.iload 5, 2) := by decide +kernel
theorem d10_13 : decode method_11_code 13 = .ok (.invokestatic 54, 3) := by decide +kernel
theorem d10_16 : decode method_11_code 16 = .ok (.istore 7, 2) := by decide +kernel
theorem d10_18 : decode method_11_code 18 = .ok (.iload 6, 2) := by decide +kernel
theorem d10_20 : decode method_11_code 20 = .ok (.ifCond .le 72, 3) := by decide +kernel
theorem d10_23 : decode method_11_code 23 = .ok (.iload 7, 2) := by decide +kernel
theorem d10_25 : decode method_11_code 25 = .ok (.ifCond .le 67, 3) := by decide +kernel
theorem d10_28 : decode method_11_code 28 = .ok (.iload_n 0, 1) := by decide +kernel
theorem d10_29 : decode method_11_code 29 = .ok (.iload_n 1, 1) := by decide +kernel
theorem d10_30 : decode method_11_code 30 = .ok (.iload_n 2, 1) := by decide +kernel
theorem d10_31 : decode method_11_code 31 = .ok (.invokestatic 58, 3) := by decide +kernel
theorem d10_34 : decode method_11_code 34 = .ok (.istore 8, 2) := by decide +kernel
theorem d10_36 : decode method_11_code 36 = .ok (.iload_n 3, 1) := by decide +kernel
theorem d10_37 : decode method_11_code 37 = .ok (.iload 4, 2) := by decide +kernel
theorem d10_39 : decode method_11_code 39 = .ok (.iload 5, 2) := by decide +kernel
theorem d10_41 : decode method_11_code 41 = .ok (.invokestatic 58, 3) := by decide +kernel
theorem d10_44 : decode method_11_code 44 = .ok (.istore 9, 2) := by decide +kernel
theorem d10_46 : decode method_11_code 46 = .ok (.iload 8, 2) := by decide +kernel
theorem d10_48 : decode method_11_code 48 = .ok (.iload 9, 2) := by decide +kernel
theorem d10_50 : decode method_11_code 50 = .ok (.if_icmp .eq 12, 3) := by decide +kernel
theorem d10_62 : decode method_11_code 62 = .ok (.iload 6, 2) := by decide +kernel
theorem d10_64 : decode method_11_code 64 = .ok (.iconst 1, 1) := by decide +kernel
theorem d10_65 : decode method_11_code 65 = .ok (.if_icmp .le 27, 3) := by decide +kernel
theorem d10_68 : decode method_11_code 68 = .ok (.iload 7, 2) := by decide +kernel
theorem d10_70 : decode method_11_code 70 = .ok (.iconst 1, 1) := by decide +kernel
theorem d10_71 : decode method_11_code 71 = .ok (.if_icmp .le 21, 3) := by decide +kernel
theorem d10_74 : decode method_11_code 74 = .ok (.iload_n 2, 1) := by decide +kernel
theorem d10_75 : decode method_11_code 75 = .ok (.iload 5, 2) := by decide +kernel
theorem d10_77 : decode method_11_code 77 = .ok (.if_icmp .eq 15, 3) := by decide +kernel
theorem d10_92 : decode method_11_code 92 = .ok (.iload 6, 2) := by decide +kernel
theorem d10_94 : decode method_11_code 94 = .ok (.iload 7, 2) := by decide +kernel
theorem d10_96 : decode method_11_code 96 = .ok (.isub, 1) := by decide +kernel
theorem d10_97 : decode method_11_code 97 = .ok (.invokestatic 27, 3) := by decide +kernel
theorem d10_100 : decode method_11_code 100 = .ok (.ireturn, 1) := by decide +kernel
theorem d10_80 : decode method_11_code 80 = .ok (.iload_n 2, 1) := by decide +kernel
theorem d10_81 : decode method_11_code 81 = .ok (.iload 5, 2) := by decide +kernel
theorem d10_83 : decode method_11_code 83 = .ok (.if_icmp .ge 7, 3) := by decide +kernel
theorem d10_86 : decode method_11_code 86 = .ok (.iconst (-1), 1) := by decide +kernel
theorem d10_87 : decode method_11_code 87 = .ok (.goto 4, 3) := by decide +kernel
theorem d10_91 : decode method_11_code 91 = .ok (.ireturn, 1) := by decide +kernel
theorem d10_90 : decode method_11_code 90 = .ok (.iconst 1, 1) := by decide +kernel
theorem d10_53 : decode method_11_code 53 = .ok (.iload 8, 2) := by decide +kernel
theorem d10_55 : decode method_11_code 55 = .ok (.iload 9, 2) := by decide +kernel
theorem d10_57 : decode method_11_code 57 = .ok (.isub, 1) := by decide +kernel
theorem d10_58 : decode method_11_code 58 = .ok (.invokestatic 27, 3) := by decide +kernel
theorem d10_61 : decode method_11_code 61 = .ok (.ireturn, 1) := by decide +kernel
theorem ef_rmRF (m : MethodId) (p0 : Int32) (p1 : Int32) (p2 : Int32) (p3 : Int32) (p4 : Int32) (p5 : Int32)  : entryFrame m #[(.int p0), (.int p1), (.int p2), (.int p3), (.int p4), (.int p5)] 10 = mkF m 0 #[.val (.int p0), .val (.int p1), .val (.int p2), .val (.int p3), .val (.int p4), .val (.int p5), .unset, .unset, .unset, .unset] [] := by first |  (simp [entryFrame, mkF, argsToLocals, Value.category]; done) | rfl
def f_rmRF (p0 : Int32) (p1 : Int32) (p2 : Int32) (p3 : Int32) (p4 : Int32) (p5 : Int32) : Int32 := if (0 : Int32) < (f_rmCN p0 p1 p2) then (if (0 : Int32) < (f_rmCN p3 p4 p5) then (if (f_rmFP p0 p1 p2) = (f_rmFP p3 p4 p5) then (if (1 : Int32) < (f_rmCN p0 p1 p2) then (if (1 : Int32) < (f_rmCN p3 p4 p5) then (if p2 = p5 then (f_rmSG ((f_rmCN p0 p1 p2) - (f_rmCN p3 p4 p5))) else if p2 < p5 then (-1 : Int32) else (1 : Int32)) else (f_rmSG ((f_rmCN p0 p1 p2) - (f_rmCN p3 p4 p5)))) else (f_rmSG ((f_rmCN p0 p1 p2) - (f_rmCN p3 p4 p5)))) else (f_rmSG ((f_rmFP p0 p1 p2) - (f_rmFP p3 p4 p5)))) else (f_rmSG ((f_rmCN p0 p1 p2) - (f_rmCN p3 p4 p5)))) else (f_rmSG ((f_rmCN p0 p1 p2) - (f_rmCN p3 p4 p5)))
def Q_rmRF (Z : State) (p0 : Int32) (p1 : Int32) (p2 : Int32) (p3 : Int32) (p4 : Int32) (p5 : Int32) (h0 : Heap) (n0 : Nat) (v : Option Value) (h : Heap) (L : List Loc) : Prop := v = some (.int (f_rmRF p0 p1 p2 p3 p4 p5)) ∧ Fr n0 L ∧ h = h0
theorem rmRF (l : Launch) (Z : State) (a0 : Array Value) (hw : ∀ d ∈ tables_1, d.before a0 Z = true) (ws : List Jvm.Cond) (p0 : Int32) (p1 : Int32) (p2 : Int32) (p3 : Int32) (p4 : Int32) (p5 : Int32) (h0 : Heap) (n0 : Nat) (Z0 : n0 ≤ h0.size) :
    MetFree l own_m32 (head1 (Jvm.Cond.code own_m32 method_11_code 10 (some .int) :: ws) ({ frames := 3, cells := 0, slots := 0, locals := 40 } : Room)) (fun a U => a = #[(.int p0), (.int p1), (.int p2), (.int p3), (.int p4), (.int p5)] ∧ Z.Warmed39 U.vm ∧ U.heap = h0) (fun _ _ _ _ _ => True) (fun _ U o U' => ∃ v L, o = .returned v ∧ Q_rmRF Z p0 p1 p2 p3 p4 p5 h0 n0 v U'.heap L ∧ FrameEnd U o U' L ({ frames := 3, cells := 0, slots := 0, locals := 40 } : Room).cells ({ frames := 3, cells := 0, slots := 0, locals := 40 } : Room).slots) := by
  refine MetFree.of_bodySF (plainFor_of_name pn_com_example_tiphys_tiphys_CodePointOrderComparePinLaw) hisR ?_
  intro p e s m args below meth c s₁ Bd hml0 hP hK
  obtain ⟨rfl, hZ, hh⟩ := hP
  have hx := Bd.exec
  have hby := Bd.bytes
  have hml : c.maxLocals = 10 := hml0
  have hown : s.vm.findClass "com/example/tiphys/tiphys/CodePointOrderComparePinLaw" = some m.cls := findClass_of_methodNamed Bd.named
  have hnm := (name_of_methodNamed Bd.named Bd.method).1
  have hlk := Bd.notSynchronized
  have X0 : Stand p l e ({ frames := 3, cells := 0, slots := 0, locals := 40 } : Room) s m #[(.int p0), (.int p1), (.int p2), (.int p3), (.int p4), (.int p5)] below meth c s₁ [] 0 0 := Stand.of_body Bd
  have e0 : s₁.heap = h0 := by rw [← hh, Bd.state]; rfl
  have N0 := Fr.nil n0
  show own_G p.tables e below s (Q_rmRF Z p0 p1 p2 p3 p4 p5 h0 n0) ({ frames := 3, cells := 0, slots := 0, locals := 40 } : Room).cells ({ frames := 3, cells := 0, slots := 0, locals := 40 } : Room).slots _
  refine own_thr (a := s₁.setTop (mkF m 0 #[.val (.int p0), .val (.int p1), .val (.int p2), .val (.int p3), .val (.int p4), .val (.int p5), .unset, .unset, .unset, .unset] [])) (fun t kt => castTop (ef_rmRF m p0 p1 p2 p3 p4 p5) kt) ?_
  refine own_thr (a := s₁.setTop (mkF m 3 #[.val (.int p0), .val (.int p1), .val (.int p2), .val (.int p3), .val (.int p4), .val (.int p5), .unset, .unset, .unset, .unset] [(.int p2), (.int p1), (.int p0)])) (fun t kt => ?_) ?_
  · refine XS.iloadN X0.here hx rfl (hb hby d10_0) rfl ?_
    refine XS.iloadN X0.here hx rfl (hb hby d10_1) rfl ?_
    refine XS.iloadN X0.here hx rfl (hb hby d10_2) rfl ?_
    exact kt
  obtain ⟨_, _, ⟨T1, L1, k1, n1⟩, -, X1, ⟨Lc1, hQ1, l1, y1, z1⟩, st1⟩ := Jvm.LawKit.callS X0 hx (y := own_m29) hown (mvT hZ (hw _ (own_i 55 rfl))) (mvT hZ (hw _ (own_i 56 rfl))) (mvT hZ (hw _ (own_i 2 rfl))) (mvT hZ (hw _ (own_i 57 rfl))) (by decide) (backOf (W := 0) (rmCN l Z a0 hw [] p0 p1 p2 h0 n0 Z0) hZ (hw _ (own_i 57 rfl)) (hw _ (own_i 2 rfl)) (by decide) (by decide)) (g := (mkF m 3 #[.val (.int p0), .val (.int p1), .val (.int p2), .val (.int p3), .val (.int p4), .val (.int p5), .unset, .unset, .unset, .unset] [(.int p2), (.int p1), (.int p0)])) rfl (by rw [hml]; rfl) (argsL := [(.int p0), (.int p1), (.int p2)]) (rest := []) (lenOf pd__28ICC_29I rfl) rfl (own_q rfl) (hb hby d10_3) (fun _ _ => ⟨rfl, e0, (by decide : 0 + 0 ≤ _), (by decide : 0 + 0 ≤ _)⟩)
  dsimp only [Pt.U, Pt.locs, Pt.cells, Pt.slots] at X1 l1 y1 z1 st1 hQ1
  obtain ⟨rfl, N1q, e1⟩ := hQ1
  obtain ⟨lc1, X1, N1⟩ := own_pack X1 l1 y1 z1 N0 N1q (C := 0) (S' := 0) rfl rfl
  refine own_thr (a := T1.setTop (mkF m 6 #[.val (.int p0), .val (.int p1), .val (.int p2), .val (.int p3), .val (.int p4), .val (.int p5), .unset, .unset, .unset, .unset] [(.int (f_rmCN p0 p1 p2))])) (fun t kt => st1 t kt) ?_
  refine own_thr (a := T1.setTop (mkF m 13 #[.val (.int p0), .val (.int p1), .val (.int p2), .val (.int p3), .val (.int p4), .val (.int p5), .val (.int (f_rmCN p0 p1 p2)), .unset, .unset, .unset] [(.int p5), (.int p4), (.int p3)])) (fun t kt => ?_) ?_
  · refine XS.istore X1.here hx rfl (hb hby d10_6) rfl (l' := #[.val (.int p0), .val (.int p1), .val (.int p2), .val (.int p3), .val (.int p4), .val (.int p5), .val (.int (f_rmCN p0 p1 p2)), .unset, .unset, .unset]) rfl ?_
    refine XS.iloadN X1.here hx rfl (hb hby d10_8) rfl ?_
    refine XS.iload X1.here hx rfl (hb hby d10_9) rfl ?_
    refine XS.iload X1.here hx rfl (hb hby d10_11) rfl ?_
    exact kt
  obtain ⟨_, _, ⟨T2, L2, k2, n2⟩, -, X2, ⟨Lc2, hQ2, l2, y2, z2⟩, st2⟩ := Jvm.LawKit.callS X1 hx (y := own_m29) hown (mvT hZ (hw _ (own_i 55 rfl))) (mvT hZ (hw _ (own_i 56 rfl))) (mvT hZ (hw _ (own_i 2 rfl))) (mvT hZ (hw _ (own_i 57 rfl))) (by decide) (backOf (W := 0) (rmCN l Z a0 hw [] p3 p4 p5 h0 n0 Z0) hZ (hw _ (own_i 57 rfl)) (hw _ (own_i 2 rfl)) (by decide) (by decide)) (g := (mkF m 13 #[.val (.int p0), .val (.int p1), .val (.int p2), .val (.int p3), .val (.int p4), .val (.int p5), .val (.int (f_rmCN p0 p1 p2)), .unset, .unset, .unset] [(.int p5), (.int p4), (.int p3)])) rfl (by rw [hml]; rfl) (argsL := [(.int p3), (.int p4), (.int p5)]) (rest := []) (lenOf pd__28ICC_29I rfl) rfl (own_q rfl) (hb hby d10_13) (fun _ _ => ⟨rfl, e1, (by decide : 0 + 0 ≤ _), (by decide : 0 + 0 ≤ _)⟩)
  dsimp only [Pt.U, Pt.locs, Pt.cells, Pt.slots] at X2 l2 y2 z2 st2 hQ2
  obtain ⟨rfl, N2q, e2⟩ := hQ2
  obtain ⟨lc2, X2, N2⟩ := own_pack X2 l2 y2 z2 N1 N2q (C := 0) (S' := 0) rfl rfl
  refine own_thr (a := T2.setTop (mkF m 16 #[.val (.int p0), .val (.int p1), .val (.int p2), .val (.int p3), .val (.int p4), .val (.int p5), .val (.int (f_rmCN p0 p1 p2)), .unset, .unset, .unset] [(.int (f_rmCN p3 p4 p5))])) (fun t kt => st2 t kt) ?_
  refine own_thr (a := T2.setTop (mkF m 20 #[.val (.int p0), .val (.int p1), .val (.int p2), .val (.int p3), .val (.int p4), .val (.int p5), .val (.int (f_rmCN p0 p1 p2)), .val (.int (f_rmCN p3 p4 p5)), .unset, .unset] [(.int (f_rmCN p0 p1 p2))])) (fun t kt => ?_) ?_
  · refine XS.istore X2.here hx rfl (hb hby d10_16) rfl (l' := #[.val (.int p0), .val (.int p1), .val (.int p2), .val (.int p3), .val (.int p4), .val (.int p5), .val (.int (f_rmCN p0 p1 p2)), .val (.int (f_rmCN p3 p4 p5)), .unset, .unset]) rfl ?_
    refine XS.iload X2.here hx rfl (hb hby d10_18) rfl ?_
    exact kt
  by_cases hc3 : (0 : Int32) < (f_rmCN p0 p1 p2)
  · refine own_thr (a := T2.setTop (mkF m 25 #[.val (.int p0), .val (.int p1), .val (.int p2), .val (.int p3), .val (.int p4), .val (.int p5), .val (.int (f_rmCN p0 p1 p2)), .val (.int (f_rmCN p3 p4 p5)), .unset, .unset] [(.int (f_rmCN p3 p4 p5))])) (fun t kt => ?_) ?_
    · refine XS.ifNo X2.here hx rfl (hb hby d10_20) rfl ((if0 _ _).trans (tlt hc3).2.2.2) ?_
      refine XS.iload X2.here hx rfl (hb hby d10_23) rfl ?_
      exact kt
    by_cases hc4 : (0 : Int32) < (f_rmCN p3 p4 p5)
    · refine own_thr (a := T2.setTop (mkF m 31 #[.val (.int p0), .val (.int p1), .val (.int p2), .val (.int p3), .val (.int p4), .val (.int p5), .val (.int (f_rmCN p0 p1 p2)), .val (.int (f_rmCN p3 p4 p5)), .unset, .unset] [(.int p2), (.int p1), (.int p0)])) (fun t kt => ?_) ?_
      · refine XS.ifNo X2.here hx rfl (hb hby d10_25) rfl ((if0 _ _).trans (tlt hc4).2.2.2) ?_
        refine XS.iloadN X2.here hx rfl (hb hby d10_28) rfl ?_
        refine XS.iloadN X2.here hx rfl (hb hby d10_29) rfl ?_
        refine XS.iloadN X2.here hx rfl (hb hby d10_30) rfl ?_
        exact kt
      obtain ⟨_, _, ⟨T5, L5, k5, n5⟩, -, X5, ⟨Lc5, hQ5, l5, y5, z5⟩, st5⟩ := Jvm.LawKit.callS X2 hx (y := own_m30) hown (mvT hZ (hw _ (own_i 131 rfl))) (mvT hZ (hw _ (own_i 132 rfl))) (mvT hZ (hw _ (own_i 2 rfl))) (mvT hZ (hw _ (own_i 133 rfl))) (by decide) (backOf (W := 0) (rmFP l Z a0 hw [] p0 p1 p2 h0 n0 Z0) hZ (hw _ (own_i 133 rfl)) (hw _ (own_i 2 rfl)) (by decide) (by decide)) (g := (mkF m 31 #[.val (.int p0), .val (.int p1), .val (.int p2), .val (.int p3), .val (.int p4), .val (.int p5), .val (.int (f_rmCN p0 p1 p2)), .val (.int (f_rmCN p3 p4 p5)), .unset, .unset] [(.int p2), (.int p1), (.int p0)])) rfl (by rw [hml]; rfl) (argsL := [(.int p0), (.int p1), (.int p2)]) (rest := []) (lenOf pd__28ICC_29I rfl) rfl (own_q rfl) (hb hby d10_31) (fun _ _ => ⟨rfl, e2, (by decide : 0 + 0 ≤ _), (by decide : 0 + 0 ≤ _)⟩)
      dsimp only [Pt.U, Pt.locs, Pt.cells, Pt.slots] at X5 l5 y5 z5 st5 hQ5
      obtain ⟨rfl, N5q, e5⟩ := hQ5
      obtain ⟨lc5, X5, N5⟩ := own_pack X5 l5 y5 z5 N2 N5q (C := 0) (S' := 0) rfl rfl
      refine own_thr (a := T5.setTop (mkF m 34 #[.val (.int p0), .val (.int p1), .val (.int p2), .val (.int p3), .val (.int p4), .val (.int p5), .val (.int (f_rmCN p0 p1 p2)), .val (.int (f_rmCN p3 p4 p5)), .unset, .unset] [(.int (f_rmFP p0 p1 p2))])) (fun t kt => st5 t kt) ?_
      refine own_thr (a := T5.setTop (mkF m 41 #[.val (.int p0), .val (.int p1), .val (.int p2), .val (.int p3), .val (.int p4), .val (.int p5), .val (.int (f_rmCN p0 p1 p2)), .val (.int (f_rmCN p3 p4 p5)), .val (.int (f_rmFP p0 p1 p2)), .unset] [(.int p5), (.int p4), (.int p3)])) (fun t kt => ?_) ?_
      · refine XS.istore X5.here hx rfl (hb hby d10_34) rfl (l' := #[.val (.int p0), .val (.int p1), .val (.int p2), .val (.int p3), .val (.int p4), .val (.int p5), .val (.int (f_rmCN p0 p1 p2)), .val (.int (f_rmCN p3 p4 p5)), .val (.int (f_rmFP p0 p1 p2)), .unset]) rfl ?_
        refine XS.iloadN X5.here hx rfl (hb hby d10_36) rfl ?_
        refine XS.iload X5.here hx rfl (hb hby d10_37) rfl ?_
        refine XS.iload X5.here hx rfl (hb hby d10_39) rfl ?_
        exact kt
      obtain ⟨_, _, ⟨T6, L6, k6, n6⟩, -, X6, ⟨Lc6, hQ6, l6, y6, z6⟩, st6⟩ := Jvm.LawKit.callS X5 hx (y := own_m30) hown (mvT hZ (hw _ (own_i 131 rfl))) (mvT hZ (hw _ (own_i 132 rfl))) (mvT hZ (hw _ (own_i 2 rfl))) (mvT hZ (hw _ (own_i 133 rfl))) (by decide) (backOf (W := 0) (rmFP l Z a0 hw [] p3 p4 p5 h0 n0 Z0) hZ (hw _ (own_i 133 rfl)) (hw _ (own_i 2 rfl)) (by decide) (by decide)) (g := (mkF m 41 #[.val (.int p0), .val (.int p1), .val (.int p2), .val (.int p3), .val (.int p4), .val (.int p5), .val (.int (f_rmCN p0 p1 p2)), .val (.int (f_rmCN p3 p4 p5)), .val (.int (f_rmFP p0 p1 p2)), .unset] [(.int p5), (.int p4), (.int p3)])) rfl (by rw [hml]; rfl) (argsL := [(.int p3), (.int p4), (.int p5)]) (rest := []) (lenOf pd__28ICC_29I rfl) rfl (own_q rfl) (hb hby d10_41) (fun _ _ => ⟨rfl, e5, (by decide : 0 + 0 ≤ _), (by decide : 0 + 0 ≤ _)⟩)
      dsimp only [Pt.U, Pt.locs, Pt.cells, Pt.slots] at X6 l6 y6 z6 st6 hQ6
      obtain ⟨rfl, N6q, e6⟩ := hQ6
      obtain ⟨lc6, X6, N6⟩ := own_pack X6 l6 y6 z6 N5 N6q (C := 0) (S' := 0) rfl rfl
      refine own_thr (a := T6.setTop (mkF m 44 #[.val (.int p0), .val (.int p1), .val (.int p2), .val (.int p3), .val (.int p4), .val (.int p5), .val (.int (f_rmCN p0 p1 p2)), .val (.int (f_rmCN p3 p4 p5)), .val (.int (f_rmFP p0 p1 p2)), .unset] [(.int (f_rmFP p3 p4 p5))])) (fun t kt => st6 t kt) ?_
      refine own_thr (a := T6.setTop (mkF m 50 #[.val (.int p0), .val (.int p1), .val (.int p2), .val (.int p3), .val (.int p4), .val (.int p5), .val (.int (f_rmCN p0 p1 p2)), .val (.int (f_rmCN p3 p4 p5)), .val (.int (f_rmFP p0 p1 p2)), .val (.int (f_rmFP p3 p4 p5))] [(.int (f_rmFP p3 p4 p5)), (.int (f_rmFP p0 p1 p2))])) (fun t kt => ?_) ?_
      · refine XS.istore X6.here hx rfl (hb hby d10_44) rfl (l' := #[.val (.int p0), .val (.int p1), .val (.int p2), .val (.int p3), .val (.int p4), .val (.int p5), .val (.int (f_rmCN p0 p1 p2)), .val (.int (f_rmCN p3 p4 p5)), .val (.int (f_rmFP p0 p1 p2)), .val (.int (f_rmFP p3 p4 p5))]) rfl ?_
        refine XS.iload X6.here hx rfl (hb hby d10_46) rfl ?_
        refine XS.iload X6.here hx rfl (hb hby d10_48) rfl ?_
        exact kt
      by_cases hc7 : (f_rmFP p0 p1 p2) = (f_rmFP p3 p4 p5)
      · refine own_thr (a := T6.setTop (mkF m 65 #[.val (.int p0), .val (.int p1), .val (.int p2), .val (.int p3), .val (.int p4), .val (.int p5), .val (.int (f_rmCN p0 p1 p2)), .val (.int (f_rmCN p3 p4 p5)), .val (.int (f_rmFP p0 p1 p2)), .val (.int (f_rmFP p3 p4 p5))] [(.int 1), (.int (f_rmCN p0 p1 p2))])) (fun t kt => ?_) ?_
        · refine XS.icmpYes X6.here hx rfl (pc0 := 50) (pc' := 62) rfl (hb hby d10_50) rfl (teq hc7).1 (by decide) (by decide) ?_
          refine XS.iload X6.here hx rfl (hb hby d10_62) rfl ?_
          refine XS.iconst X6.here hx rfl (hb hby d10_64) ?_
          exact kt
        by_cases hc8 : (1 : Int32) < (f_rmCN p0 p1 p2)
        · refine own_thr (a := T6.setTop (mkF m 71 #[.val (.int p0), .val (.int p1), .val (.int p2), .val (.int p3), .val (.int p4), .val (.int p5), .val (.int (f_rmCN p0 p1 p2)), .val (.int (f_rmCN p3 p4 p5)), .val (.int (f_rmFP p0 p1 p2)), .val (.int (f_rmFP p3 p4 p5))] [(.int 1), (.int (f_rmCN p3 p4 p5))])) (fun t kt => ?_) ?_
          · refine XS.icmpNo X6.here hx rfl (hb hby d10_65) rfl (tlt hc8).2.2.2 ?_
            refine XS.iload X6.here hx rfl (hb hby d10_68) rfl ?_
            refine XS.iconst X6.here hx rfl (hb hby d10_70) ?_
            exact kt
          by_cases hc9 : (1 : Int32) < (f_rmCN p3 p4 p5)
          · refine own_thr (a := T6.setTop (mkF m 77 #[.val (.int p0), .val (.int p1), .val (.int p2), .val (.int p3), .val (.int p4), .val (.int p5), .val (.int (f_rmCN p0 p1 p2)), .val (.int (f_rmCN p3 p4 p5)), .val (.int (f_rmFP p0 p1 p2)), .val (.int (f_rmFP p3 p4 p5))] [(.int p5), (.int p2)])) (fun t kt => ?_) ?_
            · refine XS.icmpNo X6.here hx rfl (hb hby d10_71) rfl (tlt hc9).2.2.2 ?_
              refine XS.iloadN X6.here hx rfl (hb hby d10_74) rfl ?_
              refine XS.iload X6.here hx rfl (hb hby d10_75) rfl ?_
              exact kt
            by_cases hc10 : p2 = p5
            · refine own_thr (a := T6.setTop (mkF m 97 #[.val (.int p0), .val (.int p1), .val (.int p2), .val (.int p3), .val (.int p4), .val (.int p5), .val (.int (f_rmCN p0 p1 p2)), .val (.int (f_rmCN p3 p4 p5)), .val (.int (f_rmFP p0 p1 p2)), .val (.int (f_rmFP p3 p4 p5))] [(.int ((f_rmCN p0 p1 p2) - (f_rmCN p3 p4 p5)))])) (fun t kt => ?_) ?_
              · refine XS.icmpYes X6.here hx rfl (pc0 := 77) (pc' := 92) rfl (hb hby d10_77) rfl (teq hc10).1 (by decide) (by decide) ?_
                refine XS.iload X6.here hx rfl (hb hby d10_92) rfl ?_
                refine XS.iload X6.here hx rfl (hb hby d10_94) rfl ?_
                refine XS.isub X6.here hx rfl (hb hby d10_96) rfl ?_
                exact kt
              obtain ⟨_, _, ⟨T11, L11, k11, n11⟩, -, X11, ⟨Lc11, hQ11, l11, y11, z11⟩, st11⟩ := Jvm.LawKit.callS X6 hx (y := own_m31) hown (mvT hZ (hw _ (own_i 58 rfl))) (mvT hZ (hw _ (own_i 59 rfl))) (mvT hZ (hw _ (own_i 2 rfl))) (mvT hZ (hw _ (own_i 60 rfl))) (by decide) (backOf (W := 0) (rmSG l Z a0 hw [] ((f_rmCN p0 p1 p2) - (f_rmCN p3 p4 p5)) h0 n0 Z0) hZ (hw _ (own_i 60 rfl)) (hw _ (own_i 2 rfl)) (by decide) (by decide)) (g := (mkF m 97 #[.val (.int p0), .val (.int p1), .val (.int p2), .val (.int p3), .val (.int p4), .val (.int p5), .val (.int (f_rmCN p0 p1 p2)), .val (.int (f_rmCN p3 p4 p5)), .val (.int (f_rmFP p0 p1 p2)), .val (.int (f_rmFP p3 p4 p5))] [(.int ((f_rmCN p0 p1 p2) - (f_rmCN p3 p4 p5)))])) rfl (by rw [hml]; rfl) (argsL := [(.int ((f_rmCN p0 p1 p2) - (f_rmCN p3 p4 p5)))]) (rest := []) (lenOf pd__28I_29I rfl) rfl (own_q rfl) (hb hby d10_97) (fun _ _ => ⟨rfl, e6, (by decide : 0 + 0 ≤ _), (by decide : 0 + 0 ≤ _)⟩)
              dsimp only [Pt.U, Pt.locs, Pt.cells, Pt.slots] at X11 l11 y11 z11 st11 hQ11
              obtain ⟨rfl, N11q, e11⟩ := hQ11
              obtain ⟨lc11, X11, N11⟩ := own_pack X11 l11 y11 z11 N6 N11q (C := 0) (S' := 0) rfl rfl
              refine own_thr (a := T11.setTop (mkF m 100 #[.val (.int p0), .val (.int p1), .val (.int p2), .val (.int p3), .val (.int p4), .val (.int p5), .val (.int (f_rmCN p0 p1 p2)), .val (.int (f_rmCN p3 p4 p5)), .val (.int (f_rmFP p0 p1 p2)), .val (.int (f_rmFP p3 p4 p5))] [(.int (f_rmSG ((f_rmCN p0 p1 p2) - (f_rmCN p3 p4 p5))))])) (fun t kt => st11 t kt) ?_
              exact own_end X11 hlk (v := some (.int (f_rmSG ((f_rmCN p0 p1 p2) - (f_rmCN p3 p4 p5))))) (fun h => by rw [Bd.returns] at h; cases h) (fun fs hr => retI X11 hx Bd.returns (hb hby d10_100) hr) (by rw [e11]; exact ⟨(by rw [f_rmRF, if_pos hc3, if_pos hc4, if_pos hc7, if_pos hc8, if_pos hc9, if_pos hc10]), N11, rfl⟩) (by decide : 0 ≤ _) (by decide : 0 ≤ _)
            · refine own_thr (a := T6.setTop (mkF m 83 #[.val (.int p0), .val (.int p1), .val (.int p2), .val (.int p3), .val (.int p4), .val (.int p5), .val (.int (f_rmCN p0 p1 p2)), .val (.int (f_rmCN p3 p4 p5)), .val (.int (f_rmFP p0 p1 p2)), .val (.int (f_rmFP p3 p4 p5))] [(.int p5), (.int p2)])) (fun t kt => ?_) ?_
              · refine XS.icmpNo X6.here hx rfl (hb hby d10_77) rfl (feq hc10).1 ?_
                refine XS.iloadN X6.here hx rfl (hb hby d10_80) rfl ?_
                refine XS.iload X6.here hx rfl (hb hby d10_81) rfl ?_
                exact kt
              by_cases hc12 : p2 < p5
              · refine own_thr (a := T6.setTop (mkF m 91 #[.val (.int p0), .val (.int p1), .val (.int p2), .val (.int p3), .val (.int p4), .val (.int p5), .val (.int (f_rmCN p0 p1 p2)), .val (.int (f_rmCN p3 p4 p5)), .val (.int (f_rmFP p0 p1 p2)), .val (.int (f_rmFP p3 p4 p5))] [(.int (-1 : Int32))])) (fun t kt => ?_) ?_
                · refine XS.icmpNo X6.here hx rfl (hb hby d10_83) rfl (tlt hc12).2.1 ?_
                  refine XS.iconst X6.here hx rfl (hb hby d10_86) ?_
                  refine XS.goto X6.here hx rfl (pc0 := 87) (pc' := 91) rfl (hb hby d10_87) (by decide) (by decide) ?_
                  exact kt
                exact own_end X6 hlk (v := some (.int (-1 : Int32))) (fun h => by rw [Bd.returns] at h; cases h) (fun fs hr => retI X6 hx Bd.returns (hb hby d10_91) hr) (by rw [e6]; exact ⟨(by rw [f_rmRF, if_pos hc3, if_pos hc4, if_pos hc7, if_pos hc8, if_pos hc9, if_neg hc10, if_pos hc12]), N6, rfl⟩) (by decide : 0 ≤ _) (by decide : 0 ≤ _)
              · refine own_thr (a := T6.setTop (mkF m 91 #[.val (.int p0), .val (.int p1), .val (.int p2), .val (.int p3), .val (.int p4), .val (.int p5), .val (.int (f_rmCN p0 p1 p2)), .val (.int (f_rmCN p3 p4 p5)), .val (.int (f_rmFP p0 p1 p2)), .val (.int (f_rmFP p3 p4 p5))] [(.int 1)])) (fun t kt => ?_) ?_
                · refine XS.icmpYes X6.here hx rfl (pc0 := 83) (pc' := 90) rfl (hb hby d10_83) rfl (flt hc12).2.1 (by decide) (by decide) ?_
                  refine XS.iconst X6.here hx rfl (hb hby d10_90) ?_
                  exact kt
                exact own_end X6 hlk (v := some (.int 1)) (fun h => by rw [Bd.returns] at h; cases h) (fun fs hr => retI X6 hx Bd.returns (hb hby d10_91) hr) (by rw [e6]; exact ⟨(by rw [f_rmRF, if_pos hc3, if_pos hc4, if_pos hc7, if_pos hc8, if_pos hc9, if_neg hc10, if_neg hc12]), N6, rfl⟩) (by decide : 0 ≤ _) (by decide : 0 ≤ _)
          · refine own_thr (a := T6.setTop (mkF m 97 #[.val (.int p0), .val (.int p1), .val (.int p2), .val (.int p3), .val (.int p4), .val (.int p5), .val (.int (f_rmCN p0 p1 p2)), .val (.int (f_rmCN p3 p4 p5)), .val (.int (f_rmFP p0 p1 p2)), .val (.int (f_rmFP p3 p4 p5))] [(.int ((f_rmCN p0 p1 p2) - (f_rmCN p3 p4 p5)))])) (fun t kt => ?_) ?_
            · refine XS.icmpYes X6.here hx rfl (pc0 := 71) (pc' := 92) rfl (hb hby d10_71) rfl (flt hc9).2.2.2 (by decide) (by decide) ?_
              refine XS.iload X6.here hx rfl (hb hby d10_92) rfl ?_
              refine XS.iload X6.here hx rfl (hb hby d10_94) rfl ?_
              refine XS.isub X6.here hx rfl (hb hby d10_96) rfl ?_
              exact kt
            obtain ⟨_, _, ⟨T13, L13, k13, n13⟩, -, X13, ⟨Lc13, hQ13, l13, y13, z13⟩, st13⟩ := Jvm.LawKit.callS X6 hx (y := own_m31) hown (mvT hZ (hw _ (own_i 58 rfl))) (mvT hZ (hw _ (own_i 59 rfl))) (mvT hZ (hw _ (own_i 2 rfl))) (mvT hZ (hw _ (own_i 60 rfl))) (by decide) (backOf (W := 0) (rmSG l Z a0 hw [] ((f_rmCN p0 p1 p2) - (f_rmCN p3 p4 p5)) h0 n0 Z0) hZ (hw _ (own_i 60 rfl)) (hw _ (own_i 2 rfl)) (by decide) (by decide)) (g := (mkF m 97 #[.val (.int p0), .val (.int p1), .val (.int p2), .val (.int p3), .val (.int p4), .val (.int p5), .val (.int (f_rmCN p0 p1 p2)), .val (.int (f_rmCN p3 p4 p5)), .val (.int (f_rmFP p0 p1 p2)), .val (.int (f_rmFP p3 p4 p5))] [(.int ((f_rmCN p0 p1 p2) - (f_rmCN p3 p4 p5)))])) rfl (by rw [hml]; rfl) (argsL := [(.int ((f_rmCN p0 p1 p2) - (f_rmCN p3 p4 p5)))]) (rest := []) (lenOf pd__28I_29I rfl) rfl (own_q rfl) (hb hby d10_97) (fun _ _ => ⟨rfl, e6, (by decide : 0 + 0 ≤ _), (by decide : 0 + 0 ≤ _)⟩)
            dsimp only [Pt.U, Pt.locs, Pt.cells, Pt.slots] at X13 l13 y13 z13 st13 hQ13
            obtain ⟨rfl, N13q, e13⟩ := hQ13
            obtain ⟨lc13, X13, N13⟩ := own_pack X13 l13 y13 z13 N6 N13q (C := 0) (S' := 0) rfl rfl
            refine own_thr (a := T13.setTop (mkF m 100 #[.val (.int p0), .val (.int p1), .val (.int p2), .val (.int p3), .val (.int p4), .val (.int p5), .val (.int (f_rmCN p0 p1 p2)), .val (.int (f_rmCN p3 p4 p5)), .val (.int (f_rmFP p0 p1 p2)), .val (.int (f_rmFP p3 p4 p5))] [(.int (f_rmSG ((f_rmCN p0 p1 p2) - (f_rmCN p3 p4 p5))))])) (fun t kt => st13 t kt) ?_
            exact own_end X13 hlk (v := some (.int (f_rmSG ((f_rmCN p0 p1 p2) - (f_rmCN p3 p4 p5))))) (fun h => by rw [Bd.returns] at h; cases h) (fun fs hr => retI X13 hx Bd.returns (hb hby d10_100) hr) (by rw [e13]; exact ⟨(by rw [f_rmRF, if_pos hc3, if_pos hc4, if_pos hc7, if_pos hc8, if_neg hc9]), N13, rfl⟩) (by decide : 0 ≤ _) (by decide : 0 ≤ _)
        · refine own_thr (a := T6.setTop (mkF m 97 #[.val (.int p0), .val (.int p1), .val (.int p2), .val (.int p3), .val (.int p4), .val (.int p5), .val (.int (f_rmCN p0 p1 p2)), .val (.int (f_rmCN p3 p4 p5)), .val (.int (f_rmFP p0 p1 p2)), .val (.int (f_rmFP p3 p4 p5))] [(.int ((f_rmCN p0 p1 p2) - (f_rmCN p3 p4 p5)))])) (fun t kt => ?_) ?_
          · refine XS.icmpYes X6.here hx rfl (pc0 := 65) (pc' := 92) rfl (hb hby d10_65) rfl (flt hc8).2.2.2 (by decide) (by decide) ?_
            refine XS.iload X6.here hx rfl (hb hby d10_92) rfl ?_
            refine XS.iload X6.here hx rfl (hb hby d10_94) rfl ?_
            refine XS.isub X6.here hx rfl (hb hby d10_96) rfl ?_
            exact kt
          obtain ⟨_, _, ⟨T14, L14, k14, n14⟩, -, X14, ⟨Lc14, hQ14, l14, y14, z14⟩, st14⟩ := Jvm.LawKit.callS X6 hx (y := own_m31) hown (mvT hZ (hw _ (own_i 58 rfl))) (mvT hZ (hw _ (own_i 59 rfl))) (mvT hZ (hw _ (own_i 2 rfl))) (mvT hZ (hw _ (own_i 60 rfl))) (by decide) (backOf (W := 0) (rmSG l Z a0 hw [] ((f_rmCN p0 p1 p2) - (f_rmCN p3 p4 p5)) h0 n0 Z0) hZ (hw _ (own_i 60 rfl)) (hw _ (own_i 2 rfl)) (by decide) (by decide)) (g := (mkF m 97 #[.val (.int p0), .val (.int p1), .val (.int p2), .val (.int p3), .val (.int p4), .val (.int p5), .val (.int (f_rmCN p0 p1 p2)), .val (.int (f_rmCN p3 p4 p5)), .val (.int (f_rmFP p0 p1 p2)), .val (.int (f_rmFP p3 p4 p5))] [(.int ((f_rmCN p0 p1 p2) - (f_rmCN p3 p4 p5)))])) rfl (by rw [hml]; rfl) (argsL := [(.int ((f_rmCN p0 p1 p2) - (f_rmCN p3 p4 p5)))]) (rest := []) (lenOf pd__28I_29I rfl) rfl (own_q rfl) (hb hby d10_97) (fun _ _ => ⟨rfl, e6, (by decide : 0 + 0 ≤ _), (by decide : 0 + 0 ≤ _)⟩)
          dsimp only [Pt.U, Pt.locs, Pt.cells, Pt.slots] at X14 l14 y14 z14 st14 hQ14
          obtain ⟨rfl, N14q, e14⟩ := hQ14
          obtain ⟨lc14, X14, N14⟩ := own_pack X14 l14 y14 z14 N6 N14q (C := 0) (S' := 0) rfl rfl
          refine own_thr (a := T14.setTop (mkF m 100 #[.val (.int p0), .val (.int p1), .val (.int p2), .val (.int p3), .val (.int p4), .val (.int p5), .val (.int (f_rmCN p0 p1 p2)), .val (.int (f_rmCN p3 p4 p5)), .val (.int (f_rmFP p0 p1 p2)), .val (.int (f_rmFP p3 p4 p5))] [(.int (f_rmSG ((f_rmCN p0 p1 p2) - (f_rmCN p3 p4 p5))))])) (fun t kt => st14 t kt) ?_
          exact own_end X14 hlk (v := some (.int (f_rmSG ((f_rmCN p0 p1 p2) - (f_rmCN p3 p4 p5))))) (fun h => by rw [Bd.returns] at h; cases h) (fun fs hr => retI X14 hx Bd.returns (hb hby d10_100) hr) (by rw [e14]; exact ⟨(by rw [f_rmRF, if_pos hc3, if_pos hc4, if_pos hc7, if_neg hc8]), N14, rfl⟩) (by decide : 0 ≤ _) (by decide : 0 ≤ _)
      · refine own_thr (a := T6.setTop (mkF m 58 #[.val (.int p0), .val (.int p1), .val (.int p2), .val (.int p3), .val (.int p4), .val (.int p5), .val (.int (f_rmCN p0 p1 p2)), .val (.int (f_rmCN p3 p4 p5)), .val (.int (f_rmFP p0 p1 p2)), .val (.int (f_rmFP p3 p4 p5))] [(.int ((f_rmFP p0 p1 p2) - (f_rmFP p3 p4 p5)))])) (fun t kt => ?_) ?_
        · refine XS.icmpNo X6.here hx rfl (hb hby d10_50) rfl (feq hc7).1 ?_
          refine XS.iload X6.here hx rfl (hb hby d10_53) rfl ?_
          refine XS.iload X6.here hx rfl (hb hby d10_55) rfl ?_
          refine XS.isub X6.here hx rfl (hb hby d10_57) rfl ?_
          exact kt
        obtain ⟨_, _, ⟨T15, L15, k15, n15⟩, -, X15, ⟨Lc15, hQ15, l15, y15, z15⟩, st15⟩ := Jvm.LawKit.callS X6 hx (y := own_m31) hown (mvT hZ (hw _ (own_i 58 rfl))) (mvT hZ (hw _ (own_i 59 rfl))) (mvT hZ (hw _ (own_i 2 rfl))) (mvT hZ (hw _ (own_i 60 rfl))) (by decide) (backOf (W := 0) (rmSG l Z a0 hw [] ((f_rmFP p0 p1 p2) - (f_rmFP p3 p4 p5)) h0 n0 Z0) hZ (hw _ (own_i 60 rfl)) (hw _ (own_i 2 rfl)) (by decide) (by decide)) (g := (mkF m 58 #[.val (.int p0), .val (.int p1), .val (.int p2), .val (.int p3), .val (.int p4), .val (.int p5), .val (.int (f_rmCN p0 p1 p2)), .val (.int (f_rmCN p3 p4 p5)), .val (.int (f_rmFP p0 p1 p2)), .val (.int (f_rmFP p3 p4 p5))] [(.int ((f_rmFP p0 p1 p2) - (f_rmFP p3 p4 p5)))])) rfl (by rw [hml]; rfl) (argsL := [(.int ((f_rmFP p0 p1 p2) - (f_rmFP p3 p4 p5)))]) (rest := []) (lenOf pd__28I_29I rfl) rfl (own_q rfl) (hb hby d10_58) (fun _ _ => ⟨rfl, e6, (by decide : 0 + 0 ≤ _), (by decide : 0 + 0 ≤ _)⟩)
        dsimp only [Pt.U, Pt.locs, Pt.cells, Pt.slots] at X15 l15 y15 z15 st15 hQ15
        obtain ⟨rfl, N15q, e15⟩ := hQ15
        obtain ⟨lc15, X15, N15⟩ := own_pack X15 l15 y15 z15 N6 N15q (C := 0) (S' := 0) rfl rfl
        refine own_thr (a := T15.setTop (mkF m 61 #[.val (.int p0), .val (.int p1), .val (.int p2), .val (.int p3), .val (.int p4), .val (.int p5), .val (.int (f_rmCN p0 p1 p2)), .val (.int (f_rmCN p3 p4 p5)), .val (.int (f_rmFP p0 p1 p2)), .val (.int (f_rmFP p3 p4 p5))] [(.int (f_rmSG ((f_rmFP p0 p1 p2) - (f_rmFP p3 p4 p5))))])) (fun t kt => st15 t kt) ?_
        exact own_end X15 hlk (v := some (.int (f_rmSG ((f_rmFP p0 p1 p2) - (f_rmFP p3 p4 p5))))) (fun h => by rw [Bd.returns] at h; cases h) (fun fs hr => retI X15 hx Bd.returns (hb hby d10_61) hr) (by rw [e15]; exact ⟨(by rw [f_rmRF, if_pos hc3, if_pos hc4, if_neg hc7]), N15, rfl⟩) (by decide : 0 ≤ _) (by decide : 0 ≤ _)
    · refine own_thr (a := T2.setTop (mkF m 97 #[.val (.int p0), .val (.int p1), .val (.int p2), .val (.int p3), .val (.int p4), .val (.int p5), .val (.int (f_rmCN p0 p1 p2)), .val (.int (f_rmCN p3 p4 p5)), .unset, .unset] [(.int ((f_rmCN p0 p1 p2) - (f_rmCN p3 p4 p5)))])) (fun t kt => ?_) ?_
      · refine XS.ifYes X2.here hx rfl (pc0 := 25) (pc' := 92) rfl (hb hby d10_25) rfl ((if0 _ _).trans (flt hc4).2.2.2) (by decide) (by decide) ?_
        refine XS.iload X2.here hx rfl (hb hby d10_92) rfl ?_
        refine XS.iload X2.here hx rfl (hb hby d10_94) rfl ?_
        refine XS.isub X2.here hx rfl (hb hby d10_96) rfl ?_
        exact kt
      obtain ⟨_, _, ⟨T16, L16, k16, n16⟩, -, X16, ⟨Lc16, hQ16, l16, y16, z16⟩, st16⟩ := Jvm.LawKit.callS X2 hx (y := own_m31) hown (mvT hZ (hw _ (own_i 58 rfl))) (mvT hZ (hw _ (own_i 59 rfl))) (mvT hZ (hw _ (own_i 2 rfl))) (mvT hZ (hw _ (own_i 60 rfl))) (by decide) (backOf (W := 0) (rmSG l Z a0 hw [] ((f_rmCN p0 p1 p2) - (f_rmCN p3 p4 p5)) h0 n0 Z0) hZ (hw _ (own_i 60 rfl)) (hw _ (own_i 2 rfl)) (by decide) (by decide)) (g := (mkF m 97 #[.val (.int p0), .val (.int p1), .val (.int p2), .val (.int p3), .val (.int p4), .val (.int p5), .val (.int (f_rmCN p0 p1 p2)), .val (.int (f_rmCN p3 p4 p5)), .unset, .unset] [(.int ((f_rmCN p0 p1 p2) - (f_rmCN p3 p4 p5)))])) rfl (by rw [hml]; rfl) (argsL := [(.int ((f_rmCN p0 p1 p2) - (f_rmCN p3 p4 p5)))]) (rest := []) (lenOf pd__28I_29I rfl) rfl (own_q rfl) (hb hby d10_97) (fun _ _ => ⟨rfl, e2, (by decide : 0 + 0 ≤ _), (by decide : 0 + 0 ≤ _)⟩)
      dsimp only [Pt.U, Pt.locs, Pt.cells, Pt.slots] at X16 l16 y16 z16 st16 hQ16
      obtain ⟨rfl, N16q, e16⟩ := hQ16
      obtain ⟨lc16, X16, N16⟩ := own_pack X16 l16 y16 z16 N2 N16q (C := 0) (S' := 0) rfl rfl
      refine own_thr (a := T16.setTop (mkF m 100 #[.val (.int p0), .val (.int p1), .val (.int p2), .val (.int p3), .val (.int p4), .val (.int p5), .val (.int (f_rmCN p0 p1 p2)), .val (.int (f_rmCN p3 p4 p5)), .unset, .unset] [(.int (f_rmSG ((f_rmCN p0 p1 p2) - (f_rmCN p3 p4 p5))))])) (fun t kt => st16 t kt) ?_
      exact own_end X16 hlk (v := some (.int (f_rmSG ((f_rmCN p0 p1 p2) - (f_rmCN p3 p4 p5))))) (fun h => by rw [Bd.returns] at h; cases h) (fun fs hr => retI X16 hx Bd.returns (hb hby d10_100) hr) (by rw [e16]; exact ⟨(by rw [f_rmRF, if_pos hc3, if_neg hc4]), N16, rfl⟩) (by decide : 0 ≤ _) (by decide : 0 ≤ _)
  · refine own_thr (a := T2.setTop (mkF m 97 #[.val (.int p0), .val (.int p1), .val (.int p2), .val (.int p3), .val (.int p4), .val (.int p5), .val (.int (f_rmCN p0 p1 p2)), .val (.int (f_rmCN p3 p4 p5)), .unset, .unset] [(.int ((f_rmCN p0 p1 p2) - (f_rmCN p3 p4 p5)))])) (fun t kt => ?_) ?_
    · refine XS.ifYes X2.here hx rfl (pc0 := 20) (pc' := 92) rfl (hb hby d10_20) rfl ((if0 _ _).trans (flt hc3).2.2.2) (by decide) (by decide) ?_
      refine XS.iload X2.here hx rfl (hb hby d10_92) rfl ?_
      refine XS.iload X2.here hx rfl (hb hby d10_94) rfl ?_
      refine XS.isub X2.here hx rfl (hb hby d10_96) rfl ?_
      exact kt
    obtain ⟨_, _, ⟨T17, L17, k17, n17⟩, -, X17, ⟨Lc17, hQ17, l17, y17, z17⟩, st17⟩ := Jvm.LawKit.callS X2 hx (y := own_m31) hown (mvT hZ (hw _ (own_i 58 rfl))) (mvT hZ (hw _ (own_i 59 rfl))) (mvT hZ (hw _ (own_i 2 rfl))) (mvT hZ (hw _ (own_i 60 rfl))) (by decide) (backOf (W := 0) (rmSG l Z a0 hw [] ((f_rmCN p0 p1 p2) - (f_rmCN p3 p4 p5)) h0 n0 Z0) hZ (hw _ (own_i 60 rfl)) (hw _ (own_i 2 rfl)) (by decide) (by decide)) (g := (mkF m 97 #[.val (.int p0), .val (.int p1), .val (.int p2), .val (.int p3), .val (.int p4), .val (.int p5), .val (.int (f_rmCN p0 p1 p2)), .val (.int (f_rmCN p3 p4 p5)), .unset, .unset] [(.int ((f_rmCN p0 p1 p2) - (f_rmCN p3 p4 p5)))])) rfl (by rw [hml]; rfl) (argsL := [(.int ((f_rmCN p0 p1 p2) - (f_rmCN p3 p4 p5)))]) (rest := []) (lenOf pd__28I_29I rfl) rfl (own_q rfl) (hb hby d10_97) (fun _ _ => ⟨rfl, e2, (by decide : 0 + 0 ≤ _), (by decide : 0 + 0 ≤ _)⟩)
    dsimp only [Pt.U, Pt.locs, Pt.cells, Pt.slots] at X17 l17 y17 z17 st17 hQ17
    obtain ⟨rfl, N17q, e17⟩ := hQ17
    obtain ⟨lc17, X17, N17⟩ := own_pack X17 l17 y17 z17 N2 N17q (C := 0) (S' := 0) rfl rfl
    refine own_thr (a := T17.setTop (mkF m 100 #[.val (.int p0), .val (.int p1), .val (.int p2), .val (.int p3), .val (.int p4), .val (.int p5), .val (.int (f_rmCN p0 p1 p2)), .val (.int (f_rmCN p3 p4 p5)), .unset, .unset] [(.int (f_rmSG ((f_rmCN p0 p1 p2) - (f_rmCN p3 p4 p5))))])) (fun t kt => st17 t kt) ?_
    exact own_end X17 hlk (v := some (.int (f_rmSG ((f_rmCN p0 p1 p2) - (f_rmCN p3 p4 p5))))) (fun h => by rw [Bd.returns] at h; cases h) (fun fs hr => retI X17 hx Bd.returns (hb hby d10_100) hr) (by rw [e17]; exact ⟨(by rw [f_rmRF, if_neg hc3]), N17, rfl⟩) (by decide : 0 ≤ _) (by decide : 0 ≤ _)
theorem own_lt' {a b : Int32} : a < b ↔ a.toInt < b.toInt := Int32.lt_iff_toInt_lt
theorem own_hs (c : Int32) : f_rmHS c = f_rmIH c := by
  unfold f_rmHS f_rmIH
  have e1 : (56320 : Int32).toInt = 56320 := rfl
  have e2 : (56319 : Int32).toInt = 56319 := rfl
  by_cases h : c < (55296 : Int32)
  · rw [if_pos h, if_pos h]
  · rw [if_neg h, if_neg h]
    by_cases h2 : c < (56320 : Int32)
    · rw [if_pos h2, if_neg (by rw [own_lt'] at *; omega)]
    · rw [if_neg h2, if_pos (by rw [own_lt'] at *; omega)]
theorem own_ls (c : Int32) : f_rmLS c = f_rmIW c := by
  unfold f_rmLS f_rmIW
  have e1 : (57344 : Int32).toInt = 57344 := rfl
  have e2 : (57343 : Int32).toInt = 57343 := rfl
  by_cases h : c < (56320 : Int32)
  · rw [if_pos h, if_pos h]
  · rw [if_neg h, if_neg h]
    by_cases h2 : c < (57344 : Int32)
    · rw [if_pos h2, if_neg (by rw [own_lt'] at *; omega)]
    · rw [if_neg h2, if_pos (by rw [own_lt'] at *; omega)]
theorem own_sh (x : Int32) : (x - (55296 : Int32)) <<< ((10 : Int32) &&& 31) = (x <<< ((10 : Int32) &&& 31)) - (56623104 : Int32) := by
  rw [← Int32.toInt_inj]
  have e1 : (55296 : Int32).toInt = 55296 := rfl
  have e2 : (56623104 : Int32).toInt = 56623104 := rfl
  have a1 := c_ishl x 10 10 (by decide)
  have a2 := c_isub (x <<< ((10 : Int32) &&& 31)) (56623104 : Int32)
  have a3 := rng32 ((x <<< ((10 : Int32) &&& 31)) - (56623104 : Int32))
  have b0 := c_isub x (55296 : Int32)
  have b1 := c_ishl (x - (55296 : Int32)) 10 10 (by decide)
  have b2 := rng32 ((x - (55296 : Int32)) <<< ((10 : Int32) &&& 31))
  have k : ((2 ^ 10 : Nat) : Int) = 1024 := rfl
  rw [k] at a1 b1
  generalize ((x - (55296 : Int32)) <<< ((10 : Int32) &&& 31)).toInt = P at *
  generalize ((x <<< ((10 : Int32) &&& 31)) - (56623104 : Int32)).toInt = Q' at *
  generalize (x <<< ((10 : Int32) &&& 31)).toInt = R' at *
  generalize (x - (55296 : Int32)).toInt = S' at *
  omega
theorem own_tc (x y : Int32) : f_rmTC x y = (((x - (55296 : Int32)) <<< ((10 : Int32) &&& 31)) + (y - (56320 : Int32))) + (65536 : Int32) := by
  unfold f_rmTC
  rw [own_sh, ← Int32.toInt_inj]
  generalize x <<< ((10 : Int32) &&& 31) = z
  have e2 : (56320 : Int32).toInt = 56320 := rfl
  have e3 : (65536 : Int32).toInt = 65536 := rfl
  have e4 : (-56613888 : Int32).toInt = -56613888 := rfl
  have e5 : (56623104 : Int32).toInt = 56623104 := rfl
  have a2 := c_iadd z y
  have a3 := c_iadd (z + y) (-56613888 : Int32)
  have a4 := rng32 ((z + y) + (-56613888 : Int32))
  have b1 := c_isub z (56623104 : Int32)
  have b2 := c_isub y (56320 : Int32)
  have b3 := c_iadd (z - (56623104 : Int32)) (y - (56320 : Int32))
  have b4 := c_iadd ((z - (56623104 : Int32)) + (y - (56320 : Int32))) (65536 : Int32)
  have b5 := rng32 (((z - (56623104 : Int32)) + (y - (56320 : Int32))) + (65536 : Int32))
  omega
theorem own_prz (x y : Int32) : f_rmPR (2 : Int32) x y = if f_rmIH x = 0 then 0 else if f_rmIW y = 0 then 0 else 1 := by
  unfold f_rmPR
  rw [if_pos rfl]
theorem own_cpfp (x y : Int32) : own_cp x y = f_rmFP (2 : Int32) x y := by
  unfold own_cp f_rmFP
  rw [own_prz, own_hs, own_ls, own_tc]
  by_cases h1 : f_rmIH x = 0
  · rw [if_pos h1, if_pos h1, if_pos rfl]
  · rw [if_neg h1, if_neg h1]
    by_cases h2 : f_rmIW y = 0
    · rw [if_pos h2, if_pos h2, if_pos rfl]
    · rw [if_neg h2, if_neg h2, if_neg (by decide)]
theorem own_ihr {x : Int32} (h : ¬ f_rmIH x = 0) : 55296 ≤ x.toInt ∧ x.toInt ≤ 56319 := by
  unfold f_rmIH at h
  have e1 : (55296 : Int32).toInt = 55296 := rfl
  have e2 : (56319 : Int32).toInt = 56319 := rfl
  by_cases h1 : x < (55296 : Int32)
  · rw [if_pos h1] at h; exact absurd rfl h
  · rw [if_neg h1] at h
    by_cases h2 : (56319 : Int32) < x
    · rw [if_pos h2] at h; exact absurd rfl h
    · rw [own_lt'] at h1 h2; omega
theorem own_iwr {x : Int32} (h : ¬ f_rmIW x = 0) : 56320 ≤ x.toInt ∧ x.toInt ≤ 57343 := by
  unfold f_rmIW at h
  have e1 : (56320 : Int32).toInt = 56320 := rfl
  have e2 : (57343 : Int32).toInt = 57343 := rfl
  by_cases h1 : x < (56320 : Int32)
  · rw [if_pos h1] at h; exact absurd rfl h
  · rw [if_neg h1] at h
    by_cases h2 : (57343 : Int32) < x
    · rw [if_pos h2] at h; exact absurd rfl h
    · rw [own_lt'] at h1 h2; omega
/-- a first point and the count beside it -/
theorem own_cpc {x y : Int32} (hx : own_R x) : (own_cp x y = x ∧ 0 ≤ (own_cp x y).toInt ∧ (own_cp x y).toInt < 65536 ∧ f_rmCN (2 : Int32) x y = 2) ∨ (65536 ≤ (own_cp x y).toInt ∧ (own_cp x y).toInt ≤ 1114111 ∧ f_rmCN (2 : Int32) x y = 1) := by
  have hcn : f_rmCN (2 : Int32) x y = if f_rmPR (2 : Int32) x y = 0 then 2 else 1 := by
    unfold f_rmCN
    rw [if_neg (by decide), if_neg (by decide)]
  rw [hcn, own_prz]
  unfold own_cp
  rw [own_hs, own_ls, own_tc]
  by_cases h1 : f_rmIH x = 0
  · rw [if_pos h1, if_pos h1]
    exact Or.inl ⟨rfl, hx.1, by have := hx.2; omega, if_pos rfl⟩
  · rw [if_neg h1, if_neg h1]
    by_cases h2 : f_rmIW y = 0
    · rw [if_pos h2, if_pos h2]
      exact Or.inl ⟨rfl, hx.1, by have := hx.2; omega, if_pos rfl⟩
    · rw [if_neg h2, if_neg h2]
      refine Or.inr ?_
      have r1 := own_ihr h1
      have r2 := own_iwr h2
      have e1 : (55296 : Int32).toInt = 55296 := rfl
      have e2 : (56320 : Int32).toInt = 56320 := rfl
      have e3 : (65536 : Int32).toInt = 65536 := rfl
      have b0 := c_isub x (55296 : Int32)
      have c0 := rng32 (x - (55296 : Int32))
      have b1 := c_ishl (x - (55296 : Int32)) 10 10 (by decide)
      have c1 := rng32 ((x - (55296 : Int32)) <<< ((10 : Int32) &&& 31))
      have b2 := c_isub y (56320 : Int32)
      have c2 := rng32 (y - (56320 : Int32))
      have b3 := c_iadd ((x - (55296 : Int32)) <<< ((10 : Int32) &&& 31)) (y - (56320 : Int32))
      have c3 := rng32 (((x - (55296 : Int32)) <<< ((10 : Int32) &&& 31)) + (y - (56320 : Int32)))
      have b4 := c_iadd (((x - (55296 : Int32)) <<< ((10 : Int32) &&& 31)) + (y - (56320 : Int32))) (65536 : Int32)
      have b5 := rng32 ((((x - (55296 : Int32)) <<< ((10 : Int32) &&& 31)) + (y - (56320 : Int32))) + (65536 : Int32))
      exact ⟨by omega, by omega, by decide⟩
theorem own_sic {a b : Int32} : f_rmSG (f_rmIC a b) = if a < b then -1 else if a = b then 0 else 1 := by
  unfold f_rmIC
  by_cases h : a < b
  · simp only [if_pos h]; decide
  · simp only [if_neg h]
    by_cases h2 : a = b
    · simp only [if_pos h2]; decide
    · simp only [if_neg h2]; decide
theorem own_ssb {a b : Int32} (ha : 0 ≤ a.toInt ∧ a.toInt ≤ 1114111) (hb : 0 ≤ b.toInt ∧ b.toInt ≤ 1114111) (hn : ¬ a = b) : f_rmSG (a - b) = if a < b then -1 else 1 := by
  have s1 := c_isub a b
  have s2 := rng32 (a - b)
  have e0 : (0 : Int32).toInt = 0 := rfl
  rw [← Int32.toInt_inj] at hn
  unfold f_rmSG
  by_cases h : a < b
  · rw [if_pos (by rw [own_lt'] at *; omega), if_pos h]
  · rw [if_neg (by rw [own_lt'] at *; omega), if_pos (by rw [own_lt'] at *; omega), if_neg h]
theorem own_fp1 (x y : Int32) : f_rmFP (1 : Int32) x y = x := by
  have h : f_rmPR (1 : Int32) x y = 0 := by unfold f_rmPR; rw [if_neg (by decide)]
  unfold f_rmFP; rw [if_pos h]
theorem own_cn1 (x y : Int32) : f_rmCN (1 : Int32) x y = 1 := by unfold f_rmCN; rw [if_neg (by decide), if_pos rfl]
theorem own_cn0 (x y : Int32) : f_rmCN (0 : Int32) x y = 0 := by unfold f_rmCN; rw [if_pos rfl]
theorem own_fin00 (a b : Addr) (x0 x1 y0 y1 cs : Int32) (fm : Value) : f_rmSG (f_rmCM00 a b cs fm) = f_rmRF (0 : Int32) x0 x1 (0 : Int32) y0 y1 := by
  unfold f_rmCM00 f_rmRF; rw [own_cn0, own_cn0, own_sic]; simp only [if_neg (show ¬ (0 : Int32) < 0 by decide)]; decide
theorem own_fin01 (a b : Addr) (x0 x1 y0 y1 cs : Int32) (fm : Value) : f_rmSG (f_rmCM01 a b y0 cs fm) = f_rmRF (0 : Int32) x0 x1 (1 : Int32) y0 y1 := by
  unfold f_rmCM01 f_rmRF; rw [own_cn0, own_cn1, own_sic, if_neg (by decide : ¬ (0 : Int32) < 0)]; decide
theorem own_fin02 (a b : Addr) (x0 x1 y0 y1 cs : Int32) (fm : Value) (hy0 : own_R y0) : f_rmSG (f_rmCM02 a b y0 y1 cs fm) = f_rmRF (0 : Int32) x0 x1 (2 : Int32) y0 y1 := by
  unfold f_rmCM02 f_rmRF
  rcases own_cpc (y := y1) hy0 with ⟨-, -, -, h⟩ | ⟨-, -, h⟩ <;> rw [own_cn0, h, own_sic, if_neg (by decide : ¬ (0 : Int32) < 0)] <;> decide
theorem own_fin10 (a b : Addr) (x0 x1 y0 y1 cs : Int32) (fm : Value) : f_rmSG (f_rmCM10 a b x0 cs fm) = f_rmRF (1 : Int32) x0 x1 (0 : Int32) y0 y1 := by
  unfold f_rmCM10 f_rmRF; rw [own_cn1, own_cn0, own_sic, if_pos (by decide : (0 : Int32) < 1), if_neg (by decide : ¬ (0 : Int32) < 0)]; decide
theorem own_fin20 (a b : Addr) (x0 x1 y0 y1 cs : Int32) (fm : Value) (hx0 : own_R x0) : f_rmSG (f_rmCM20 a b x0 x1 cs fm) = f_rmRF (2 : Int32) x0 x1 (0 : Int32) y0 y1 := by
  unfold f_rmCM20 f_rmRF
  rcases own_cpc (y := x1) hx0 with ⟨-, -, -, h⟩ | ⟨-, -, h⟩
  · rw [own_cn0, h, own_sic, if_pos (by decide : (0 : Int32) < 2), if_neg (by decide : ¬ (0 : Int32) < 0)]; decide
  · rw [own_cn0, h, own_sic, if_pos (by decide : (0 : Int32) < 1), if_neg (by decide : ¬ (0 : Int32) < 0)]; decide
theorem own_rw {p : Int32} (h : own_R p) : 0 ≤ p.toInt ∧ p.toInt ≤ 1114111 := ⟨h.1, by have := h.2; omega⟩
theorem own_sic3 {a b : Int32} (h : ¬ a = b) : f_rmSG (f_rmIC a b) = if a < b then -1 else 1 := by rw [own_sic]; split <;> rfl
theorem own_cpr {x y : Int32} (hx : own_R x) : 0 ≤ (own_cp x y).toInt ∧ (own_cp x y).toInt ≤ 1114111 := by
  rcases own_cpc (y := y) hx with ⟨-, h1, h2, -⟩ | ⟨h1, h2, -⟩ <;> omega
theorem own_fin11 (a b : Addr) (x0 x1 y0 y1 cs : Int32) (fm : Value) (hx0 : own_R x0) (hy0 : own_R y0) : f_rmSG (f_rmCM11 a b x0 y0 cs fm) = f_rmRF (1 : Int32) x0 x1 (1 : Int32) y0 y1 := by
  unfold f_rmCM11 f_rmRF
  rw [own_cn1, own_cn1, own_fp1, own_fp1, if_pos (by decide : (0 : Int32) < 1), if_pos (by decide : (0 : Int32) < 1)]
  by_cases h : x0 = y0
  · rw [if_pos h, if_pos h, if_neg (by decide : ¬ (1 : Int32) < 1)]; decide
  · rw [if_neg h, if_neg h, own_sic3 h, own_ssb (own_rw hx0) (own_rw hy0) h]
theorem own_fin12 (a b : Addr) (x0 x1 y0 y1 cs : Int32) (fm : Value) (hx0 : own_R x0) (hy0 : own_R y0) : f_rmSG (f_rmCM12 a b x0 y0 y1 cs fm) = f_rmRF (1 : Int32) x0 x1 (2 : Int32) y0 y1 := by
  unfold f_rmCM12 f_rmRF
  rw [own_cn1, own_fp1, ← own_cpfp, if_pos (by decide : (0 : Int32) < 1)]
  by_cases h : x0 = own_cp y0 y1
  · rcases own_cpc (y := y1) hy0 with ⟨-, -, -, hc⟩ | ⟨h1, -, hc⟩
    · rw [hc, if_pos (by decide : (0 : Int32) < 2), if_pos h, if_pos h, if_neg (by decide : ¬ (1 : Int32) < 1)]; decide
    · have := hx0.2; rw [← h] at h1; omega
  · have e : (if (0 : Int32) < f_rmCN 2 y0 y1 then (1 : Int32) else 0) = 1 := by
      rcases own_cpc (y := y1) hy0 with ⟨-, -, -, hc⟩ | ⟨-, -, hc⟩ <;> rw [hc] <;> decide
    have hp : (0 : Int32) < f_rmCN 2 y0 y1 := by
      rcases own_cpc (y := y1) hy0 with ⟨-, -, -, hc⟩ | ⟨-, -, hc⟩ <;> rw [hc] <;> decide
    rw [if_pos hp, if_neg h, if_neg h, own_sic3 h, own_ssb (own_rw hx0) (own_cpr hy0) h]
theorem own_fin21 (a b : Addr) (x0 x1 y0 y1 cs : Int32) (fm : Value) (hx0 : own_R x0) (hy0 : own_R y0) : f_rmSG (f_rmCM21 a b x0 x1 y0 cs fm) = f_rmRF (2 : Int32) x0 x1 (1 : Int32) y0 y1 := by
  unfold f_rmCM21 f_rmRF
  rw [own_cn1, own_fp1, ← own_cpfp]
  have hp : (0 : Int32) < f_rmCN 2 x0 x1 := by
    rcases own_cpc (y := x1) hx0 with ⟨-, -, -, hc⟩ | ⟨-, -, hc⟩ <;> rw [hc] <;> decide
  rw [if_pos hp, if_pos (by decide : (0 : Int32) < 1)]
  by_cases h : own_cp x0 x1 = y0
  · rcases own_cpc (y := x1) hx0 with ⟨-, -, -, hc⟩ | ⟨h1, -, hc⟩
    · rw [hc, if_pos h, if_pos h, if_pos (by decide : (1 : Int32) < 2), if_neg (by decide : ¬ (1 : Int32) < 1)]; decide
    · have := hy0.2; rw [h] at h1; omega
  · rw [if_neg h, if_neg h, own_sic3 h, own_ssb (own_cpr hx0) (own_rw hy0) h]
theorem own_fin22 (a b : Addr) (x0 x1 y0 y1 cs : Int32) (fm : Value) (hx0 : own_R x0) (hx1 : own_R x1) (hy0 : own_R y0) (hy1 : own_R y1) : f_rmSG (f_rmCM22 a b x0 x1 y0 y1 cs fm) = f_rmRF (2 : Int32) x0 x1 (2 : Int32) y0 y1 := by
  unfold f_rmCM22 f_rmRF
  rw [← own_cpfp, ← own_cpfp]
  have e : (65536 : Int32).toInt = 65536 := rfl
  have hp : (0 : Int32) < f_rmCN 2 x0 x1 := by
    rcases own_cpc (y := x1) hx0 with ⟨-, -, -, hc⟩ | ⟨-, -, hc⟩ <;> rw [hc] <;> decide
  have hq : (0 : Int32) < f_rmCN 2 y0 y1 := by
    rcases own_cpc (y := y1) hy0 with ⟨-, -, -, hc⟩ | ⟨-, -, hc⟩ <;> rw [hc] <;> decide
  rw [if_pos hp, if_pos hq]
  by_cases h : own_cp x0 x1 = own_cp y0 y1
  · rw [if_pos h, if_pos h]
    rcases own_cpc (y := x1) hx0 with ⟨-, -, h2, hc⟩ | ⟨h1, -, hc⟩
    · rcases own_cpc (y := y1) hy0 with ⟨-, -, -, hd⟩ | ⟨k1, -, hd⟩
      · rw [hc, hd, if_pos (by rw [own_lt']; omega : own_cp x0 x1 < (65536 : Int32)), if_pos (by decide : (1 : Int32) < 2), if_pos (by decide : (1 : Int32) < 2)]
        by_cases g : x1 = y1
        · rw [if_pos g, if_pos g]; decide
        · rw [if_neg g, if_neg g, own_sic3 g]
      · rw [h] at h2; omega
    · rcases own_cpc (y := y1) hy0 with ⟨-, -, k2, hd⟩ | ⟨-, -, hd⟩
      · rw [← h] at k2; omega
      · rw [hc, hd, if_neg (by rw [own_lt']; omega : ¬ own_cp x0 x1 < (65536 : Int32)), if_neg (by decide : ¬ (1 : Int32) < 1)]; decide
  · rw [if_neg h, if_neg h, own_sic3 h, own_ssb (own_cpr hx0) (own_cpr hy0) h]
theorem own_l3 (x : Int32) : (x &&& (15 : Int32)) % (3 : Int32) = 0 ∨ (x &&& (15 : Int32)) % (3 : Int32) = 1 ∨ (x &&& (15 : Int32)) % (3 : Int32) = 2 := by
  have h := (c_and x 15 (by decide)).1
  obtain ⟨h1, h2, -⟩ := (c_iremV (x &&& (15 : Int32)) (3 : Int32)).1 h (by decide)
  have e0 : (0 : Int32).toInt = 0 := rfl
  have e1 : (1 : Int32).toInt = 1 := rfl
  have e2 : (2 : Int32).toInt = 2 := rfl
  have e3 : (3 : Int32).toInt = 3 := rfl
  simp only [← Int32.toInt_inj]; omega

theorem own_eqI {args : Array Value} {s : State} {idx : List Nat} {a b : Term} {k : Int32} (h : (Jvm.Cond.eq a b).value args s none s idx = some true) (hb : b.eval args s none idx s = some (.int k)) : a.eval args s none idx s = some (.int k) := by
  obtain ⟨x, y, h1, h2, k1, k2⟩ := cmp_v (Or.inl h)
  cases hb.symm.trans h2
  obtain ⟨z, rfl⟩ := k2
  simp [Cond.value, h1, h2] at h
  subst h; exact h1
theorem own_eqJ {args : Array Value} {s : State} {idx : List Nat} {a b : Term} {k : Int64} (h : (Jvm.Cond.eq a b).value args s none s idx = some true) (hb : b.eval args s none idx s = some (.long k)) : a.eval args s none idx s = some (.long k) := by
  obtain ⟨x, y, h1, h2, k1, k2⟩ := cmp_v (Or.inl h)
  cases hb.symm.trans h2
  obtain ⟨z, rfl⟩ := k2
  simp [Cond.value, h1, h2] at h
  subst h; exact h1
theorem own_eqR {args : Array Value} {s : State} {idx : List Nat} {a b : Term} {k : Addr} (h : (Jvm.Cond.eq a b).value args s none s idx = some true) (hb : b.eval args s none idx s = some (.ref k)) : a.eval args s none idx s = some (.ref k) := by
  obtain ⟨x, y, h1, h2, k1, k2⟩ := cmp_v (Or.inl h)
  cases hb.symm.trans h2
  have hx : x.isRef = true := k2.2
  have q := gotT (eq_R h1 h2 hx rfl) h
  subst q; exact h1
theorem own_elR {args : Array Value} {s : State} {t u : Term} {a r : Addr} {cl : Cell} {ty : FieldType} {j : Int32} (h : (Jvm.Cond.eq (.elem t (.int j)) u).value args s none s [] = some true) (ht : t.eval args s none [] s = some (.ref a)) (A : Arr s s.heap a cl ty) (hu : u.eval args s none [] s = some (.ref r)) : cl.slots[j.toNatClampNeg]? = some (.ref r) :=
  (elem_in (own_eqR h hu) ht rfl A.1).2
theorem own_elJ {args : Array Value} {s : State} {t : Term} {a : Addr} {cl : Cell} {ty : FieldType} {j : Int32} {k : Int64} (h : (Jvm.Cond.eq (.elem t (.int j)) (.long k)).value args s none s [] = some true) (ht : t.eval args s none [] s = some (.ref a)) (A : Arr s s.heap a cl ty) : cl.slots[j.toNatClampNeg]? = some (.long k) :=
  (elem_in (own_eqJ h rfl) ht rfl A.1).2
theorem own_fldI {args : Array Value} {s : State} {t : Term} {C n d : String} {x : Addr} {k : Int32} (h : (Jvm.Cond.eq (.field t C n d) (.int k)).value args s none s [] = some true) (ht : t.eval args s none [] s = some (.ref x)) : Fld s s.heap x C n d (.int k) :=
  Fld.start ((fld_at ht).symm.trans (own_eqI h rfl))
theorem own_not0 {s : State} {args : Array Value} {C n d : String} {cs : Int32} (ev : (Term.static C n d).eval args s none [] s = some (.int cs)) (h : (Jvm.Cond.not (.eq (.static C n d) (.int 0))).value args s none s [] = some true) : ¬ cs = (0 : Int32) := by
  have h1 := not_v h
  intro e
  have h2 : (Jvm.Cond.eq (.static C n d) (.int 0)).value args s none s [] = some true := eq_i ev (Term.int_eval 0) (by rw [e])
  rw [h2] at h1
  cases h1
theorem own_held {tb : Tables} {e : Env} {args : Array Value} {s : State} (h : Calls_1 tb e args s) : ∀ p ∈ own_EL, Jvm.Lit.constHeld s p.1 p.2 := by
  intro p hp
  exact h.1 p (by revert p; decide)
theorem pd__28I_29C : parseMethodDescriptor "(I)C" = some ⟨[.int], some .char⟩ := by decide +kernel
theorem pd__28ICC_29Ljava_2flang_2fString_3b : parseMethodDescriptor "(ICC)Ljava/lang/String;" = some ⟨[.int, .char, .char], some (.object "java/lang/String")⟩ := by decide +kernel
theorem pd__28Ljava_2flang_2fString_3bLjava_2flang_2fString_3b_29I : parseMethodDescriptor "(Ljava/lang/String;Ljava/lang/String;)I" = some ⟨[(.object "java/lang/String"), (.object "java/lang/String")], some .int⟩ := by decide +kernel
theorem pd__28ICCICC_29I : parseMethodDescriptor "(ICCICC)I" = some ⟨[.int, .char, .char, .int, .char, .char], some .int⟩ := by decide +kernel
theorem ef_rm0 (m : MethodId) (va : Int32) (vb : Int32) (vc : Int32) (vd : Int32) (sh : Int32)  : entryFrame m #[(.int va), (.int vb), (.int vc), (.int vd), (.int sh)] maxLocals = mkF m 0 #[.val (.int va), .val (.int vb), .val (.int vc), .val (.int vd), .val (.int sh), .unset, .unset, .unset, .unset, .unset, .unset, .unset, .unset, .unset, .unset] [] := by first |  (simp [entryFrame, mkF, argsToLocals, Value.category, maxLocals]; done) | rfl
def Q0 (Z : State) (va : Int32) (vb : Int32) (vc : Int32) (vd : Int32) (sh : Int32) (cs : Int32) (fm : Value) (h0 : Heap) (n0 : Nat) (v : Option Value) (h : Heap) (L : List Loc) : Prop := v = some (.int 1) ∧ Fr n0 L
theorem rm0 (l : Launch) (Z : State) (a0 : Array Value) (hw : ∀ d ∈ tables_1, d.before a0 Z = true) (ws : List Jvm.Cond) (va : Int32) (vb : Int32) (vc : Int32) (vd : Int32) (sh : Int32) (cs : Int32) (fm : Value) (h0 : Heap) (n0 : Nat) (Z0 : n0 ≤ h0.size) (hKs : own_K Z cs fm) (hO : Old Z n0 h0) :
    MetFree l x (head1 (Jvm.Cond.code x code maxLocals ret :: ws) room_1) (fun a U => a = #[(.int va), (.int vb), (.int vc), (.int vd), (.int sh)] ∧ Z.Warmed39 U.vm ∧ U.heap = h0 ∧ CHv Z own_EL U.vm h0) (fun _ _ _ _ _ => True) (fun _ U o U' => ∃ v L, o = .returned v ∧ Q0 Z va vb vc vd sh cs fm h0 n0 v U'.heap L ∧ CHr Z own_EL U.vm U.heap U'.vm U'.heap ∧ ReturnedEndW U o U' L room_1.cells room_1.slots) := by
  refine MetFree.of_bodySF (plainFor_of_name pn_com_example_tiphys_tiphys_CodePointOrderComparePinLaw) hisR ?_
  intro p e s m args below meth c s₁ Bd hml0 hP hK
  obtain ⟨rfl, hZ, hh, hCH0⟩ := hP
  have hx := Bd.exec
  have hby := Bd.bytes
  have hml : c.maxLocals = 15 := hml0
  have hown : s.vm.findClass "com/example/tiphys/tiphys/CodePointOrderComparePinLaw" = some m.cls := findClass_of_methodNamed Bd.named
  have hnm := (name_of_methodNamed Bd.named Bd.method).1
  have hlk := Bd.notSynchronized
  have X0 : Stand p l e room_1 (s.setVm s.vm) m #[(.int va), (.int vb), (.int vc), (.int vd), (.int sh)] below meth c s₁ [] 0 0 := Stand.of_body Bd
  have e0 : s₁.heap = h0 := by rw [← hh, Bd.state]; rfl
  have N0 := Fr.nil n0
  show own_GH p.tables e below s Z own_EL (Q0 Z va vb vc vd sh cs fm h0 n0) room_1.cells room_1.slots _
  have hS0 : s.Since s.vm 0 := (State.WarmedH.refl s).since 0
  have hEL := own_EW hw
  have CH0 : CHr Z own_EL s.vm h0 s.vm h0 := CHr.refl hCH0
  refine own_thrH (a := s₁.setTop (mkF m 0 #[.val (.int va), .val (.int vb), .val (.int vc), .val (.int vd), .val (.int sh), .unset, .unset, .unset, .unset, .unset, .unset, .unset, .unset, .unset, .unset] [])) (fun t kt => castTop (ef_rm0 m va vb vc vd sh) kt) ?_
  refine own_thrH (a := s₁.setTop (mkF m 1 #[.val (.int va), .val (.int vb), .val (.int vc), .val (.int vd), .val (.int sh), .unset, .unset, .unset, .unset, .unset, .unset, .unset, .unset, .unset, .unset] [(.int va)])) (fun t kt => ?_) ?_
  · refine XS.iloadN X0.here hx rfl (hb hby at_0) rfl ?_
    exact kt
  obtain ⟨_, _, ⟨T1, L1, k1, n1⟩, -, X1, ⟨Lc1, hQ1, l1, y1, z1⟩, st1⟩ := Jvm.LawKit.callS X0 hx (y := own_m0) hown (mvT hZ (hw _ (own_i 0 rfl))) (mvT hZ (hw _ (own_i 1 rfl))) (mvT hZ (hw _ (own_i 2 rfl))) (mvT hZ (hw _ (own_i 3 rfl))) (by decide) (backOf (W := 0) (rmD l Z a0 hw [] va h0 n0 Z0) hZ (hw _ (own_i 3 rfl)) (hw _ (own_i 2 rfl)) (by decide) (by decide)) (g := (mkF m 1 #[.val (.int va), .val (.int vb), .val (.int vc), .val (.int vd), .val (.int sh), .unset, .unset, .unset, .unset, .unset, .unset, .unset, .unset, .unset, .unset] [(.int va)])) rfl (by rw [hml]; rfl) (argsL := [(.int va)]) (rest := []) (lenOf pd__28I_29C rfl) rfl (own_q rfl) (hb hby at_1) (fun _ _ => ⟨rfl, e0, (by decide : 0 + 0 ≤ _), (by decide : 0 + 0 ≤ _)⟩)
  dsimp only [Pt.U, Pt.locs, Pt.cells, Pt.slots] at X1 l1 y1 z1 st1 hQ1
  obtain ⟨rfl, N1q, e1⟩ := hQ1
  obtain ⟨lc1, X1, N1⟩ := own_pack X1 l1 y1 z1 N0 N1q (C := 0) (S' := 0) rfl rfl
  refine own_thrH (a := T1.setTop (mkF m 4 #[.val (.int va), .val (.int vb), .val (.int vc), .val (.int vd), .val (.int sh), .unset, .unset, .unset, .unset, .unset, .unset, .unset, .unset, .unset, .unset] [(.int (f_rmD va))])) (fun t kt => st1 t kt) ?_
  refine own_thrH (a := T1.setTop (mkF m 6 #[.val (.int va), .val (.int vb), .val (.int vc), .val (.int vd), .val (.int sh), .val (.int (f_rmD va)), .unset, .unset, .unset, .unset, .unset, .unset, .unset, .unset, .unset] [])) (fun t kt => ?_) ?_
  · refine XS.istore X1.here hx rfl (hb hby at_4) rfl (l' := #[.val (.int va), .val (.int vb), .val (.int vc), .val (.int vd), .val (.int sh), .val (.int (f_rmD va)), .unset, .unset, .unset, .unset, .unset, .unset, .unset, .unset, .unset]) rfl ?_
    exact kt
  obtain ⟨x0, e_x0⟩ : ∃ z, z = (f_rmD va) := ⟨_, rfl⟩
  rw [← e_x0]
  have hx0 : own_R x0 := by rw [e_x0]; exact own_d _
  refine own_thrH (a := T1.setTop (mkF m 7 #[.val (.int va), .val (.int vb), .val (.int vc), .val (.int vd), .val (.int sh), .val (.int x0), .unset, .unset, .unset, .unset, .unset, .unset, .unset, .unset, .unset] [(.int vb)])) (fun t kt => ?_) ?_
  · refine XS.iloadN X1.here hx rfl (hb hby at_6) rfl ?_
    exact kt
  obtain ⟨_, _, ⟨T2, L2, k2, n2⟩, -, X2, ⟨Lc2, hQ2, l2, y2, z2⟩, st2⟩ := Jvm.LawKit.callS X1 hx (y := own_m0) hown (mvT hZ (hw _ (own_i 0 rfl))) (mvT hZ (hw _ (own_i 1 rfl))) (mvT hZ (hw _ (own_i 2 rfl))) (mvT hZ (hw _ (own_i 3 rfl))) (by decide) (backOf (W := 0) (rmD l Z a0 hw [] vb h0 n0 Z0) hZ (hw _ (own_i 3 rfl)) (hw _ (own_i 2 rfl)) (by decide) (by decide)) (g := (mkF m 7 #[.val (.int va), .val (.int vb), .val (.int vc), .val (.int vd), .val (.int sh), .val (.int x0), .unset, .unset, .unset, .unset, .unset, .unset, .unset, .unset, .unset] [(.int vb)])) rfl (by rw [hml]; rfl) (argsL := [(.int vb)]) (rest := []) (lenOf pd__28I_29C rfl) rfl (own_q rfl) (hb hby at_7) (fun _ _ => ⟨rfl, e1, (by decide : 0 + 0 ≤ _), (by decide : 0 + 0 ≤ _)⟩)
  dsimp only [Pt.U, Pt.locs, Pt.cells, Pt.slots] at X2 l2 y2 z2 st2 hQ2
  obtain ⟨rfl, N2q, e2⟩ := hQ2
  obtain ⟨lc2, X2, N2⟩ := own_pack X2 l2 y2 z2 N1 N2q (C := 0) (S' := 0) rfl rfl
  refine own_thrH (a := T2.setTop (mkF m 10 #[.val (.int va), .val (.int vb), .val (.int vc), .val (.int vd), .val (.int sh), .val (.int x0), .unset, .unset, .unset, .unset, .unset, .unset, .unset, .unset, .unset] [(.int (f_rmD vb))])) (fun t kt => st2 t kt) ?_
  refine own_thrH (a := T2.setTop (mkF m 12 #[.val (.int va), .val (.int vb), .val (.int vc), .val (.int vd), .val (.int sh), .val (.int x0), .val (.int (f_rmD vb)), .unset, .unset, .unset, .unset, .unset, .unset, .unset, .unset] [])) (fun t kt => ?_) ?_
  · refine XS.istore X2.here hx rfl (hb hby at_10) rfl (l' := #[.val (.int va), .val (.int vb), .val (.int vc), .val (.int vd), .val (.int sh), .val (.int x0), .val (.int (f_rmD vb)), .unset, .unset, .unset, .unset, .unset, .unset, .unset, .unset]) rfl ?_
    exact kt
  obtain ⟨x1, e_x1⟩ : ∃ z, z = (f_rmD vb) := ⟨_, rfl⟩
  rw [← e_x1]
  have hx1 : own_R x1 := by rw [e_x1]; exact own_d _
  have jn : ∀ (Tj3 : State) (lcj3 : List Loc) (Xj3 : Stand p l e room_1 (s.setVm s.vm) m #[(.int va), (.int vb), (.int vc), (.int vd), (.int sh)] below meth c Tj3 lcj3 0 0) (Nj3 : Fr n0 lcj3) (ej3 : Tj3.heap = h0) (w0 w1 : Int32), (own_R w0) → (own_R w1) → own_GH p.tables e below s Z own_EL (Q0 Z va vb vc vd sh cs fm h0 n0) room_1.cells room_1.slots (Tj3.setTop (mkF m 52 #[.val (.int va), .val (.int vb), .val (.int vc), .val (.int vd), .val (.int sh), .val (.int x0), .val (.int x1), .val (.int w0), .val (.int w1), .unset, .unset, .unset, .unset, .unset, .unset] [])) := by
    intro Tj3 lcj3 Xj3 Nj3 ej3 w0 w1 hw0 hw1
    refine own_thrH (a := Tj3.setTop (mkF m 61 #[.val (.int va), .val (.int vb), .val (.int vc), .val (.int vd), .val (.int sh), .val (.int x0), .val (.int x1), .val (.int w0), .val (.int w1), .val (.int ((sh &&& (15 : Int32)) % (3 : Int32))), .unset, .unset, .unset, .unset, .unset] [])) (fun t kt => ?_) ?_
    · refine XS.iload Xj3.here hx rfl (hb hby at_52) rfl ?_
      refine XS.bipush Xj3.here hx rfl (hb hby at_54) ?_
      refine XS.iand Xj3.here hx rfl (hb hby at_56) rfl ?_
      refine XS.iconst Xj3.here hx rfl (hb hby at_57) ?_
      refine iremM Xj3 hx rfl (hb hby at_58) rfl (by decide) ?_
      refine XS.istore Xj3.here hx rfl (hb hby at_59) rfl (l' := #[.val (.int va), .val (.int vb), .val (.int vc), .val (.int vd), .val (.int sh), .val (.int x0), .val (.int x1), .val (.int w0), .val (.int w1), .val (.int ((sh &&& (15 : Int32)) % (3 : Int32))), .unset, .unset, .unset, .unset, .unset]) rfl ?_
      exact kt
    obtain ⟨la, e_la⟩ : ∃ z, z = ((sh &&& (15 : Int32)) % (3 : Int32)) := ⟨_, rfl⟩
    rw [← e_la]
    have Ha : la = 0 ∨ la = 1 ∨ la = 2 := by rw [e_la]; exact own_l3 _
    refine own_thrH (a := Tj3.setTop (mkF m 73 #[.val (.int va), .val (.int vb), .val (.int vc), .val (.int vd), .val (.int sh), .val (.int x0), .val (.int x1), .val (.int w0), .val (.int w1), .val (.int la), .val (.int ((((sh.toUInt32 >>> ((6 : Int32) &&& 31).toUInt32).toInt32) &&& (15 : Int32)) % (3 : Int32))), .unset, .unset, .unset, .unset] [])) (fun t kt => ?_) ?_
    · refine XS.iload Xj3.here hx rfl (hb hby at_61) rfl ?_
      refine XS.bipush Xj3.here hx rfl (hb hby at_63) ?_
      refine XS.iushr Xj3.here hx rfl (hb hby at_65) rfl ?_
      refine XS.bipush Xj3.here hx rfl (hb hby at_66) ?_
      refine XS.iand Xj3.here hx rfl (hb hby at_68) rfl ?_
      refine XS.iconst Xj3.here hx rfl (hb hby at_69) ?_
      refine iremM Xj3 hx rfl (hb hby at_70) rfl (by decide) ?_
      refine XS.istore Xj3.here hx rfl (hb hby at_71) rfl (l' := #[.val (.int va), .val (.int vb), .val (.int vc), .val (.int vd), .val (.int sh), .val (.int x0), .val (.int x1), .val (.int w0), .val (.int w1), .val (.int la), .val (.int ((((sh.toUInt32 >>> ((6 : Int32) &&& 31).toUInt32).toInt32) &&& (15 : Int32)) % (3 : Int32))), .unset, .unset, .unset, .unset]) rfl ?_
      exact kt
    obtain ⟨lb, e_lb⟩ : ∃ z, z = ((((sh.toUInt32 >>> ((6 : Int32) &&& 31).toUInt32).toInt32) &&& (15 : Int32)) % (3 : Int32)) := ⟨_, rfl⟩
    rw [← e_lb]
    have Hb : lb = 0 ∨ lb = 1 ∨ lb = 2 := by rw [e_lb]; exact own_l3 _
    rcases Ha with ha | ha | ha <;> rcases Hb with hb' | hb' | hb'
    · subst ha hb'
      refine own_thrH (a := Tj3.setTop (mkF m 79 #[.val (.int va), .val (.int vb), .val (.int vc), .val (.int vd), .val (.int sh), .val (.int x0), .val (.int x1), .val (.int w0), .val (.int w1), .val (.int 0), .val (.int 0), .unset, .unset, .unset, .unset] [(.int x1), (.int x0), (.int 0)])) (fun t kt => ?_) ?_
      · refine XS.iload Xj3.here hx rfl (hb hby at_73) rfl ?_
        refine XS.iload Xj3.here hx rfl (hb hby at_75) rfl ?_
        refine XS.iload Xj3.here hx rfl (hb hby at_77) rfl ?_
        exact kt
      obtain ⟨_, _, ⟨T4, L4, k4, n4⟩, -, X4, hSq4, hgr4, ⟨Lc4, hQ4, l4, y4, z4, ch4⟩, st4⟩ := callSS Xj3 hx (y := own_m11) hown (mvT hZ (hw _ (own_i 8 rfl))) (mvT hZ (hw _ (own_i 9 rfl))) (mvT hZ (hw _ (own_i 2 rfl))) (mvT hZ (hw _ (own_i 10 rfl))) (by decide) (backOfSH (W := 0) (rmM0 l Z a0 hw [] x0 x1 h0 n0 Z0) hZ (hw _ (own_i 10 rfl)) (hw _ (own_i 2 rfl)) (by decide) (by decide) hEL CH0.1) (g := (mkF m 79 #[.val (.int va), .val (.int vb), .val (.int vc), .val (.int vd), .val (.int sh), .val (.int x0), .val (.int x1), .val (.int w0), .val (.int w1), .val (.int 0), .val (.int 0), .unset, .unset, .unset, .unset] [(.int x1), (.int x0), (.int 0)])) rfl (by rw [hml]; rfl) (argsL := [(.int 0), (.int x0), (.int x1)]) (rest := []) (lenOf pd__28ICC_29Ljava_2flang_2fString_3b rfl) rfl (own_q rfl) (hb hby at_79) (fun _ _ => ⟨rfl, ej3, (by decide : 0 + 6 ≤ _), (by decide : 0 + 12 ≤ _)⟩)
      dsimp only [Pt.U, Pt.locs, Pt.cells, Pt.slots] at X4 l4 y4 z4 st4 hQ4 hSq4 hgr4 ch4
      have hS4 := hS0.trans hSq4 (Nat.le_trans (by rw [ej3]; exact (Nat.zero_le _)) hgr4)
      have hZ4 : Z.Warmed39 (s.setVm T4.vm).vm := State.Warmed39.trans (t := s.setVm s.vm) hZ hSq4.1
      have hown4 : (s.setVm T4.vm).vm.findClass "com/example/tiphys/tiphys/CodePointOrderComparePinLaw" = some m.cls := by rw [show (s.setVm T4.vm).vm = T4.vm from rfl, hSq4.1.alike.findClass]; exact hown
      have X4 : Stand p l e _ (s.setVm T4.vm) m _ below meth c T4 _ _ _ := X4
      obtain ⟨r4, rfl, N4q, K4, u4⟩ := hQ4
      have Z5 : n0 ≤ T4.heap.size := Nat.le_trans Z0 K4.1
      have Z5h : h0.size ≤ T4.heap.size := Nat.le_trans (Nat.le_refl h0.size) K4.1
      have CHc4 := CH0.trans ch4
      obtain ⟨lc4, X4, N4⟩ := own_pack X4 l4 y4 z4 Nj3 N4q (C := 6) (S' := 12) rfl rfl
      refine own_thrH (a := T4.setTop (mkF m 82 #[.val (.int va), .val (.int vb), .val (.int vc), .val (.int vd), .val (.int sh), .val (.int x0), .val (.int x1), .val (.int w0), .val (.int w1), .val (.int 0), .val (.int 0), .unset, .unset, .unset, .unset] [(.ref r4)])) (fun t kt => st4.trans kt) ?_
      refine own_thrH (a := T4.setTop (mkF m 90 #[.val (.int va), .val (.int vb), .val (.int vc), .val (.int vd), .val (.int sh), .val (.int x0), .val (.int x1), .val (.int w0), .val (.int w1), .val (.int 0), .val (.int 0), .val (.ref r4), .unset, .unset, .unset] [(.int w1), (.int w0), (.int 0)])) (fun t kt => ?_) ?_
      · refine XS.astore X4.here hx rfl (hb hby at_82) rfl rfl (l' := #[.val (.int va), .val (.int vb), .val (.int vc), .val (.int vd), .val (.int sh), .val (.int x0), .val (.int x1), .val (.int w0), .val (.int w1), .val (.int 0), .val (.int 0), .val (.ref r4), .unset, .unset, .unset]) rfl ?_
        refine XS.iload X4.here hx rfl (hb hby at_84) rfl ?_
        refine XS.iload X4.here hx rfl (hb hby at_86) rfl ?_
        refine XS.iload X4.here hx rfl (hb hby at_88) rfl ?_
        exact kt
      obtain ⟨_, _, ⟨T6, L6, k6, n6⟩, -, X6, hSq6, hgr6, ⟨Lc6, hQ6, l6, y6, z6, ch6⟩, st6⟩ := callSS X4 hx (y := own_m11) hown4 (mvT hZ4 (hw _ (own_i 8 rfl))) (mvT hZ4 (hw _ (own_i 9 rfl))) (mvT hZ4 (hw _ (own_i 2 rfl))) (mvT hZ4 (hw _ (own_i 10 rfl))) (by decide) (backOfSH (W := 0) (rmM0 l Z a0 hw [] w0 w1 T4.heap n0 Z5) hZ4 (hw _ (own_i 10 rfl)) (hw _ (own_i 2 rfl)) (by decide) (by decide) hEL CHc4.1) (g := (mkF m 90 #[.val (.int va), .val (.int vb), .val (.int vc), .val (.int vd), .val (.int sh), .val (.int x0), .val (.int x1), .val (.int w0), .val (.int w1), .val (.int 0), .val (.int 0), .val (.ref r4), .unset, .unset, .unset] [(.int w1), (.int w0), (.int 0)])) rfl (by rw [hml]; rfl) (argsL := [(.int 0), (.int w0), (.int w1)]) (rest := []) (lenOf pd__28ICC_29Ljava_2flang_2fString_3b rfl) rfl (own_q rfl) (hb hby at_90) (fun _ _ => ⟨rfl, rfl, (by decide : 6 + 6 ≤ _), (by decide : 12 + 12 ≤ _)⟩)
      dsimp only [Pt.U, Pt.locs, Pt.cells, Pt.slots] at X6 l6 y6 z6 st6 hQ6 hSq6 hgr6 ch6
      have hS6 := hS4.trans hSq6 (Nat.le_trans (Nat.le_refl _) hgr6)
      have hZ6 : Z.Warmed39 (s.setVm T6.vm).vm := State.Warmed39.trans (t := s.setVm T4.vm) hZ4 hSq6.1
      have hown6 : (s.setVm T6.vm).vm.findClass "com/example/tiphys/tiphys/CodePointOrderComparePinLaw" = some m.cls := by rw [show (s.setVm T6.vm).vm = T6.vm from rfl, hSq6.1.alike.findClass]; exact hown4
      have X6 : Stand p l e _ (s.setVm T6.vm) m _ below meth c T6 _ _ _ := X6
      obtain ⟨r6, rfl, N6q, K6, u6⟩ := hQ6
      have Z7 : n0 ≤ T6.heap.size := Nat.le_trans Z5 K6.1
      have Z7h : h0.size ≤ T6.heap.size := Nat.le_trans Z5h K6.1
      have CHc6 := CHc4.trans ch6
      obtain ⟨lc6, X6, N6⟩ := own_pack X6 l6 y6 z6 N4 N6q (C := 12) (S' := 24) rfl rfl
      refine own_thrH (a := T6.setTop (mkF m 93 #[.val (.int va), .val (.int vb), .val (.int vc), .val (.int vd), .val (.int sh), .val (.int x0), .val (.int x1), .val (.int w0), .val (.int w1), .val (.int 0), .val (.int 0), .val (.ref r4), .unset, .unset, .unset] [(.ref r6)])) (fun t kt => st6.trans kt) ?_
      refine own_thrH (a := T6.setTop (mkF m 99 #[.val (.int va), .val (.int vb), .val (.int vc), .val (.int vd), .val (.int sh), .val (.int x0), .val (.int x1), .val (.int w0), .val (.int w1), .val (.int 0), .val (.int 0), .val (.ref r4), .val (.ref r6), .unset, .unset] [(.ref r6), (.ref r4)])) (fun t kt => ?_) ?_
      · refine XS.astore X6.here hx rfl (hb hby at_93) rfl rfl (l' := #[.val (.int va), .val (.int vb), .val (.int vc), .val (.int vd), .val (.int sh), .val (.int x0), .val (.int x1), .val (.int w0), .val (.int w1), .val (.int 0), .val (.int 0), .val (.ref r4), .val (.ref r6), .unset, .unset]) rfl ?_
        refine XS.aload X6.here hx rfl (hb hby at_95) rfl rfl ?_
        refine XS.aload X6.here hx rfl (hb hby at_97) rfl rfl ?_
        exact kt
      obtain ⟨_, _, ⟨T8, L8, k8, n8⟩, -, X8, ⟨Lc8, hQ8, l8, y8, z8⟩, st8⟩ := Jvm.LawKit.callS X6 hx (y := own_m25) hown6 (mvT hZ6 (hw _ (own_i 33 rfl))) (mvT hZ6 (hw _ (own_i 34 rfl))) (mvT hZ6 (hw _ (own_i 35 rfl))) (mvT hZ6 (hw _ (own_i 36 rfl))) (by decide) (backOf (W := 0) (rmCM00 l Z a0 hw [] r4 r6 cs fm T6.heap n0 Z7 hKs ((hO.keep K4 all0).keep K6 all0) (u4.keep0 K6) u6) hZ6 (hw _ (own_i 36 rfl)) (hw _ (own_i 35 rfl)) (by decide) (by decide)) (g := (mkF m 99 #[.val (.int va), .val (.int vb), .val (.int vc), .val (.int vd), .val (.int sh), .val (.int x0), .val (.int x1), .val (.int w0), .val (.int w1), .val (.int 0), .val (.int 0), .val (.ref r4), .val (.ref r6), .unset, .unset] [(.ref r6), (.ref r4)])) rfl (by rw [hml]; rfl) (argsL := [(.ref r4), (.ref r6)]) (rest := []) (lenOf pd__28Ljava_2flang_2fString_3bLjava_2flang_2fString_3b_29I rfl) rfl (own_q rfl) (hb hby at_99) (fun _ _ => ⟨rfl, rfl, (by decide : 12 + 0 ≤ _), (by decide : 24 + 0 ≤ _)⟩)
      dsimp only [Pt.U, Pt.locs, Pt.cells, Pt.slots] at X8 l8 y8 z8 st8 hQ8
      obtain ⟨rfl, N8q, e8⟩ := hQ8
      obtain ⟨lc8, X8, N8⟩ := own_pack X8 l8 y8 z8 N6 N8q (C := 12) (S' := 24) rfl rfl
      refine own_thrH (a := T8.setTop (mkF m 102 #[.val (.int va), .val (.int vb), .val (.int vc), .val (.int vd), .val (.int sh), .val (.int x0), .val (.int x1), .val (.int w0), .val (.int w1), .val (.int 0), .val (.int 0), .val (.ref r4), .val (.ref r6), .unset, .unset] [(.int (f_rmCM00 r4 r6 cs fm))])) (fun t kt => st8 t kt) ?_
      refine own_thrH (a := T8.setTop (mkF m 116 #[.val (.int va), .val (.int vb), .val (.int vc), .val (.int vd), .val (.int sh), .val (.int x0), .val (.int x1), .val (.int w0), .val (.int w1), .val (.int 0), .val (.int 0), .val (.ref r4), .val (.ref r6), .val (.int (f_rmCM00 r4 r6 cs fm)), .unset] [(.int w1), (.int w0), (.int 0), (.int x1), (.int x0), (.int 0)])) (fun t kt => ?_) ?_
      · refine XS.istore X8.here hx rfl (hb hby at_102) rfl (l' := #[.val (.int va), .val (.int vb), .val (.int vc), .val (.int vd), .val (.int sh), .val (.int x0), .val (.int x1), .val (.int w0), .val (.int w1), .val (.int 0), .val (.int 0), .val (.ref r4), .val (.ref r6), .val (.int (f_rmCM00 r4 r6 cs fm)), .unset]) rfl ?_
        refine XS.iload X8.here hx rfl (hb hby at_104) rfl ?_
        refine XS.iload X8.here hx rfl (hb hby at_106) rfl ?_
        refine XS.iload X8.here hx rfl (hb hby at_108) rfl ?_
        refine XS.iload X8.here hx rfl (hb hby at_110) rfl ?_
        refine XS.iload X8.here hx rfl (hb hby at_112) rfl ?_
        refine XS.iload X8.here hx rfl (hb hby at_114) rfl ?_
        exact kt
      obtain ⟨_, _, ⟨T9, L9, k9, n9⟩, -, X9, ⟨Lc9, hQ9, l9, y9, z9⟩, st9⟩ := Jvm.LawKit.callS X8 hx (y := own_m32) hown6 (mvT hZ6 (hw _ (own_i 52 rfl))) (mvT hZ6 (hw _ (own_i 53 rfl))) (mvT hZ6 (hw _ (own_i 2 rfl))) (mvT hZ6 (hw _ (own_i 54 rfl))) (by decide) (backOf (W := 0) (rmRF l Z a0 hw [] (0 : Int32) x0 x1 (0 : Int32) w0 w1 T6.heap n0 Z7) hZ6 (hw _ (own_i 54 rfl)) (hw _ (own_i 2 rfl)) (by decide) (by decide)) (g := (mkF m 116 #[.val (.int va), .val (.int vb), .val (.int vc), .val (.int vd), .val (.int sh), .val (.int x0), .val (.int x1), .val (.int w0), .val (.int w1), .val (.int 0), .val (.int 0), .val (.ref r4), .val (.ref r6), .val (.int (f_rmCM00 r4 r6 cs fm)), .unset] [(.int w1), (.int w0), (.int 0), (.int x1), (.int x0), (.int 0)])) rfl (by rw [hml]; rfl) (argsL := [(.int 0), (.int x0), (.int x1), (.int 0), (.int w0), (.int w1)]) (rest := []) (lenOf pd__28ICCICC_29I rfl) rfl (own_q rfl) (hb hby at_116) (fun _ _ => ⟨rfl, e8, (by decide : 12 + 0 ≤ _), (by decide : 24 + 0 ≤ _)⟩)
      dsimp only [Pt.U, Pt.locs, Pt.cells, Pt.slots] at X9 l9 y9 z9 st9 hQ9
      obtain ⟨rfl, N9q, e9⟩ := hQ9
      obtain ⟨lc9, X9, N9⟩ := own_pack X9 l9 y9 z9 N8 N9q (C := 12) (S' := 24) rfl rfl
      refine own_thrH (a := T9.setTop (mkF m 119 #[.val (.int va), .val (.int vb), .val (.int vc), .val (.int vd), .val (.int sh), .val (.int x0), .val (.int x1), .val (.int w0), .val (.int w1), .val (.int 0), .val (.int 0), .val (.ref r4), .val (.ref r6), .val (.int (f_rmCM00 r4 r6 cs fm)), .unset] [(.int (f_rmRF (0 : Int32) x0 x1 (0 : Int32) w0 w1))])) (fun t kt => st9 t kt) ?_
      refine own_thrH (a := T9.setTop (mkF m 123 #[.val (.int va), .val (.int vb), .val (.int vc), .val (.int vd), .val (.int sh), .val (.int x0), .val (.int x1), .val (.int w0), .val (.int w1), .val (.int 0), .val (.int 0), .val (.ref r4), .val (.ref r6), .val (.int (f_rmCM00 r4 r6 cs fm)), .val (.int (f_rmRF (0 : Int32) x0 x1 (0 : Int32) w0 w1))] [(.int (f_rmCM00 r4 r6 cs fm))])) (fun t kt => ?_) ?_
      · refine XS.istore X9.here hx rfl (hb hby at_119) rfl (l' := #[.val (.int va), .val (.int vb), .val (.int vc), .val (.int vd), .val (.int sh), .val (.int x0), .val (.int x1), .val (.int w0), .val (.int w1), .val (.int 0), .val (.int 0), .val (.ref r4), .val (.ref r6), .val (.int (f_rmCM00 r4 r6 cs fm)), .val (.int (f_rmRF (0 : Int32) x0 x1 (0 : Int32) w0 w1))]) rfl ?_
        refine XS.iload X9.here hx rfl (hb hby at_121) rfl ?_
        exact kt
      obtain ⟨_, _, ⟨T10, L10, k10, n10⟩, -, X10, ⟨Lc10, hQ10, l10, y10, z10⟩, st10⟩ := Jvm.LawKit.callS X9 hx (y := own_m31) hown6 (mvT hZ6 (hw _ (own_i 58 rfl))) (mvT hZ6 (hw _ (own_i 59 rfl))) (mvT hZ6 (hw _ (own_i 2 rfl))) (mvT hZ6 (hw _ (own_i 60 rfl))) (by decide) (backOf (W := 0) (rmSG l Z a0 hw [] (f_rmCM00 r4 r6 cs fm) T6.heap n0 Z7) hZ6 (hw _ (own_i 60 rfl)) (hw _ (own_i 2 rfl)) (by decide) (by decide)) (g := (mkF m 123 #[.val (.int va), .val (.int vb), .val (.int vc), .val (.int vd), .val (.int sh), .val (.int x0), .val (.int x1), .val (.int w0), .val (.int w1), .val (.int 0), .val (.int 0), .val (.ref r4), .val (.ref r6), .val (.int (f_rmCM00 r4 r6 cs fm)), .val (.int (f_rmRF (0 : Int32) x0 x1 (0 : Int32) w0 w1))] [(.int (f_rmCM00 r4 r6 cs fm))])) rfl (by rw [hml]; rfl) (argsL := [(.int (f_rmCM00 r4 r6 cs fm))]) (rest := []) (lenOf pd__28I_29I rfl) rfl (own_q rfl) (hb hby at_123) (fun _ _ => ⟨rfl, e9, (by decide : 12 + 0 ≤ _), (by decide : 24 + 0 ≤ _)⟩)
      dsimp only [Pt.U, Pt.locs, Pt.cells, Pt.slots] at X10 l10 y10 z10 st10 hQ10
      obtain ⟨rfl, N10q, e10⟩ := hQ10
      obtain ⟨lc10, X10, N10⟩ := own_pack X10 l10 y10 z10 N9 N10q (C := 12) (S' := 24) rfl rfl
      refine own_thrH (a := T10.setTop (mkF m 126 #[.val (.int va), .val (.int vb), .val (.int vc), .val (.int vd), .val (.int sh), .val (.int x0), .val (.int x1), .val (.int w0), .val (.int w1), .val (.int 0), .val (.int 0), .val (.ref r4), .val (.ref r6), .val (.int (f_rmCM00 r4 r6 cs fm)), .val (.int (f_rmRF (0 : Int32) x0 x1 (0 : Int32) w0 w1))] [(.int (f_rmSG (f_rmCM00 r4 r6 cs fm)))])) (fun t kt => st10 t kt) ?_
      refine own_thrH (a := T10.setTop (mkF m 136 #[.val (.int va), .val (.int vb), .val (.int vc), .val (.int vd), .val (.int sh), .val (.int x0), .val (.int x1), .val (.int w0), .val (.int w1), .val (.int 0), .val (.int 0), .val (.ref r4), .val (.ref r6), .val (.int (f_rmCM00 r4 r6 cs fm)), .val (.int (f_rmRF (0 : Int32) x0 x1 (0 : Int32) w0 w1))] [(.int 1)])) (fun t kt => ?_) ?_
      · refine XS.iload X10.here hx rfl (hb hby at_126) rfl ?_
        refine XS.icmpNo X10.here hx rfl (hb hby at_128) rfl (teq (own_fin00 _ _ _ _ _ _ _ _)).2 ?_
        refine XS.iconst X10.here hx rfl (hb hby at_131) ?_
        refine XS.goto X10.here hx rfl (pc0 := 132) (pc' := 136) rfl (hb hby at_132) (by decide) (by decide) ?_
        exact kt
      exact own_endH X10 hS6 (by rw [e10]; exact (Nat.le_refl _)) hZ6 hEL CHc6 hh e10 hlk (v := some (.int 1)) (fun h => by rw [Bd.returns] at h; cases h) (fun fs hr => retN X10 hx (t := .boolean) Bd.returns (by simp) (hb hby at_136) hr) ⟨rfl, N10⟩ (by decide : 12 ≤ _) (by decide : 24 ≤ _)
    · subst ha hb'
      refine own_thrH (a := Tj3.setTop (mkF m 79 #[.val (.int va), .val (.int vb), .val (.int vc), .val (.int vd), .val (.int sh), .val (.int x0), .val (.int x1), .val (.int w0), .val (.int w1), .val (.int 0), .val (.int 1), .unset, .unset, .unset, .unset] [(.int x1), (.int x0), (.int 0)])) (fun t kt => ?_) ?_
      · refine XS.iload Xj3.here hx rfl (hb hby at_73) rfl ?_
        refine XS.iload Xj3.here hx rfl (hb hby at_75) rfl ?_
        refine XS.iload Xj3.here hx rfl (hb hby at_77) rfl ?_
        exact kt
      obtain ⟨_, _, ⟨T11, L11, k11, n11⟩, -, X11, hSq11, hgr11, ⟨Lc11, hQ11, l11, y11, z11, ch11⟩, st11⟩ := callSS Xj3 hx (y := own_m11) hown (mvT hZ (hw _ (own_i 8 rfl))) (mvT hZ (hw _ (own_i 9 rfl))) (mvT hZ (hw _ (own_i 2 rfl))) (mvT hZ (hw _ (own_i 10 rfl))) (by decide) (backOfSH (W := 0) (rmM0 l Z a0 hw [] x0 x1 h0 n0 Z0) hZ (hw _ (own_i 10 rfl)) (hw _ (own_i 2 rfl)) (by decide) (by decide) hEL CH0.1) (g := (mkF m 79 #[.val (.int va), .val (.int vb), .val (.int vc), .val (.int vd), .val (.int sh), .val (.int x0), .val (.int x1), .val (.int w0), .val (.int w1), .val (.int 0), .val (.int 1), .unset, .unset, .unset, .unset] [(.int x1), (.int x0), (.int 0)])) rfl (by rw [hml]; rfl) (argsL := [(.int 0), (.int x0), (.int x1)]) (rest := []) (lenOf pd__28ICC_29Ljava_2flang_2fString_3b rfl) rfl (own_q rfl) (hb hby at_79) (fun _ _ => ⟨rfl, ej3, (by decide : 0 + 6 ≤ _), (by decide : 0 + 12 ≤ _)⟩)
      dsimp only [Pt.U, Pt.locs, Pt.cells, Pt.slots] at X11 l11 y11 z11 st11 hQ11 hSq11 hgr11 ch11
      have hS11 := hS0.trans hSq11 (Nat.le_trans (by rw [ej3]; exact (Nat.zero_le _)) hgr11)
      have hZ11 : Z.Warmed39 (s.setVm T11.vm).vm := State.Warmed39.trans (t := s.setVm s.vm) hZ hSq11.1
      have hown11 : (s.setVm T11.vm).vm.findClass "com/example/tiphys/tiphys/CodePointOrderComparePinLaw" = some m.cls := by rw [show (s.setVm T11.vm).vm = T11.vm from rfl, hSq11.1.alike.findClass]; exact hown
      have X11 : Stand p l e _ (s.setVm T11.vm) m _ below meth c T11 _ _ _ := X11
      obtain ⟨r11, rfl, N11q, K11, u11⟩ := hQ11
      have Z12 : n0 ≤ T11.heap.size := Nat.le_trans Z0 K11.1
      have Z12h : h0.size ≤ T11.heap.size := Nat.le_trans (Nat.le_refl h0.size) K11.1
      have CHc11 := CH0.trans ch11
      obtain ⟨lc11, X11, N11⟩ := own_pack X11 l11 y11 z11 Nj3 N11q (C := 6) (S' := 12) rfl rfl
      refine own_thrH (a := T11.setTop (mkF m 82 #[.val (.int va), .val (.int vb), .val (.int vc), .val (.int vd), .val (.int sh), .val (.int x0), .val (.int x1), .val (.int w0), .val (.int w1), .val (.int 0), .val (.int 1), .unset, .unset, .unset, .unset] [(.ref r11)])) (fun t kt => st11.trans kt) ?_
      refine own_thrH (a := T11.setTop (mkF m 90 #[.val (.int va), .val (.int vb), .val (.int vc), .val (.int vd), .val (.int sh), .val (.int x0), .val (.int x1), .val (.int w0), .val (.int w1), .val (.int 0), .val (.int 1), .val (.ref r11), .unset, .unset, .unset] [(.int w1), (.int w0), (.int 1)])) (fun t kt => ?_) ?_
      · refine XS.astore X11.here hx rfl (hb hby at_82) rfl rfl (l' := #[.val (.int va), .val (.int vb), .val (.int vc), .val (.int vd), .val (.int sh), .val (.int x0), .val (.int x1), .val (.int w0), .val (.int w1), .val (.int 0), .val (.int 1), .val (.ref r11), .unset, .unset, .unset]) rfl ?_
        refine XS.iload X11.here hx rfl (hb hby at_84) rfl ?_
        refine XS.iload X11.here hx rfl (hb hby at_86) rfl ?_
        refine XS.iload X11.here hx rfl (hb hby at_88) rfl ?_
        exact kt
      obtain ⟨_, _, ⟨T13, L13, k13, n13⟩, -, X13, ⟨Lc13, hQ13, l13, y13, z13⟩, st13⟩ := Jvm.LawKit.callS X11 hx (y := own_m11) hown11 (mvT hZ11 (hw _ (own_i 8 rfl))) (mvT hZ11 (hw _ (own_i 9 rfl))) (mvT hZ11 (hw _ (own_i 2 rfl))) (mvT hZ11 (hw _ (own_i 10 rfl))) (by decide) (backOf (W := 0) (rmM1 l Z a0 hw [] w0 w1 cs fm T11.heap n0 Z12 hw0 hw1 hKs (hO.keep K11 all0)) hZ11 (hw _ (own_i 10 rfl)) (hw _ (own_i 2 rfl)) (by decide) (by decide)) (g := (mkF m 90 #[.val (.int va), .val (.int vb), .val (.int vc), .val (.int vd), .val (.int sh), .val (.int x0), .val (.int x1), .val (.int w0), .val (.int w1), .val (.int 0), .val (.int 1), .val (.ref r11), .unset, .unset, .unset] [(.int w1), (.int w0), (.int 1)])) rfl (by rw [hml]; rfl) (argsL := [(.int 1), (.int w0), (.int w1)]) (rest := []) (lenOf pd__28ICC_29Ljava_2flang_2fString_3b rfl) rfl (own_q rfl) (hb hby at_90) (fun _ _ => ⟨rfl, rfl, (by decide : 6 + 8 ≤ _), (by decide : 12 + 64 ≤ _)⟩)
      dsimp only [Pt.U, Pt.locs, Pt.cells, Pt.slots] at X13 l13 y13 z13 st13 hQ13
      obtain ⟨r13, rfl, N13q, K13, u13⟩ := hQ13
      have CH14 := CHc11.trans (CHr.keep K13 all0 CHc11.1)
      have Z15 : n0 ≤ T13.heap.size := Nat.le_trans Z12 K13.1
      have Z15h : h0.size ≤ T13.heap.size := Nat.le_trans Z12h K13.1
      have Z15k := Nat.le_trans (Nat.le_refl _) K13.1
      obtain ⟨lc13, X13, N13⟩ := own_pack X13 l13 y13 z13 N11 N13q (C := 14) (S' := 76) rfl rfl
      refine own_thrH (a := T13.setTop (mkF m 93 #[.val (.int va), .val (.int vb), .val (.int vc), .val (.int vd), .val (.int sh), .val (.int x0), .val (.int x1), .val (.int w0), .val (.int w1), .val (.int 0), .val (.int 1), .val (.ref r11), .unset, .unset, .unset] [(.ref r13)])) (fun t kt => st13 t kt) ?_
      refine own_thrH (a := T13.setTop (mkF m 99 #[.val (.int va), .val (.int vb), .val (.int vc), .val (.int vd), .val (.int sh), .val (.int x0), .val (.int x1), .val (.int w0), .val (.int w1), .val (.int 0), .val (.int 1), .val (.ref r11), .val (.ref r13), .unset, .unset] [(.ref r13), (.ref r11)])) (fun t kt => ?_) ?_
      · refine XS.astore X13.here hx rfl (hb hby at_93) rfl rfl (l' := #[.val (.int va), .val (.int vb), .val (.int vc), .val (.int vd), .val (.int sh), .val (.int x0), .val (.int x1), .val (.int w0), .val (.int w1), .val (.int 0), .val (.int 1), .val (.ref r11), .val (.ref r13), .unset, .unset]) rfl ?_
        refine XS.aload X13.here hx rfl (hb hby at_95) rfl rfl ?_
        refine XS.aload X13.here hx rfl (hb hby at_97) rfl rfl ?_
        exact kt
      obtain ⟨_, _, ⟨T16, L16, k16, n16⟩, -, X16, ⟨Lc16, hQ16, l16, y16, z16⟩, st16⟩ := Jvm.LawKit.callS X13 hx (y := own_m25) hown11 (mvT hZ11 (hw _ (own_i 33 rfl))) (mvT hZ11 (hw _ (own_i 34 rfl))) (mvT hZ11 (hw _ (own_i 35 rfl))) (mvT hZ11 (hw _ (own_i 36 rfl))) (by decide) (backOf (W := 0) (rmCM01 l Z a0 hw [] r11 r13 w0 cs fm T13.heap n0 Z15 hKs ((hO.keep K11 all0).keep K13 all0) (u11.keep0 K13) u13 hw0) hZ11 (hw _ (own_i 36 rfl)) (hw _ (own_i 35 rfl)) (by decide) (by decide)) (g := (mkF m 99 #[.val (.int va), .val (.int vb), .val (.int vc), .val (.int vd), .val (.int sh), .val (.int x0), .val (.int x1), .val (.int w0), .val (.int w1), .val (.int 0), .val (.int 1), .val (.ref r11), .val (.ref r13), .unset, .unset] [(.ref r13), (.ref r11)])) rfl (by rw [hml]; rfl) (argsL := [(.ref r11), (.ref r13)]) (rest := []) (lenOf pd__28Ljava_2flang_2fString_3bLjava_2flang_2fString_3b_29I rfl) rfl (own_q rfl) (hb hby at_99) (fun _ _ => ⟨rfl, rfl, (by decide : 14 + 0 ≤ _), (by decide : 76 + 0 ≤ _)⟩)
      dsimp only [Pt.U, Pt.locs, Pt.cells, Pt.slots] at X16 l16 y16 z16 st16 hQ16
      obtain ⟨rfl, N16q, e16⟩ := hQ16
      obtain ⟨lc16, X16, N16⟩ := own_pack X16 l16 y16 z16 N13 N16q (C := 14) (S' := 76) rfl rfl
      refine own_thrH (a := T16.setTop (mkF m 102 #[.val (.int va), .val (.int vb), .val (.int vc), .val (.int vd), .val (.int sh), .val (.int x0), .val (.int x1), .val (.int w0), .val (.int w1), .val (.int 0), .val (.int 1), .val (.ref r11), .val (.ref r13), .unset, .unset] [(.int (f_rmCM01 r11 r13 w0 cs fm))])) (fun t kt => st16 t kt) ?_
      refine own_thrH (a := T16.setTop (mkF m 116 #[.val (.int va), .val (.int vb), .val (.int vc), .val (.int vd), .val (.int sh), .val (.int x0), .val (.int x1), .val (.int w0), .val (.int w1), .val (.int 0), .val (.int 1), .val (.ref r11), .val (.ref r13), .val (.int (f_rmCM01 r11 r13 w0 cs fm)), .unset] [(.int w1), (.int w0), (.int 1), (.int x1), (.int x0), (.int 0)])) (fun t kt => ?_) ?_
      · refine XS.istore X16.here hx rfl (hb hby at_102) rfl (l' := #[.val (.int va), .val (.int vb), .val (.int vc), .val (.int vd), .val (.int sh), .val (.int x0), .val (.int x1), .val (.int w0), .val (.int w1), .val (.int 0), .val (.int 1), .val (.ref r11), .val (.ref r13), .val (.int (f_rmCM01 r11 r13 w0 cs fm)), .unset]) rfl ?_
        refine XS.iload X16.here hx rfl (hb hby at_104) rfl ?_
        refine XS.iload X16.here hx rfl (hb hby at_106) rfl ?_
        refine XS.iload X16.here hx rfl (hb hby at_108) rfl ?_
        refine XS.iload X16.here hx rfl (hb hby at_110) rfl ?_
        refine XS.iload X16.here hx rfl (hb hby at_112) rfl ?_
        refine XS.iload X16.here hx rfl (hb hby at_114) rfl ?_
        exact kt
      obtain ⟨_, _, ⟨T17, L17, k17, n17⟩, -, X17, ⟨Lc17, hQ17, l17, y17, z17⟩, st17⟩ := Jvm.LawKit.callS X16 hx (y := own_m32) hown11 (mvT hZ11 (hw _ (own_i 52 rfl))) (mvT hZ11 (hw _ (own_i 53 rfl))) (mvT hZ11 (hw _ (own_i 2 rfl))) (mvT hZ11 (hw _ (own_i 54 rfl))) (by decide) (backOf (W := 0) (rmRF l Z a0 hw [] (0 : Int32) x0 x1 (1 : Int32) w0 w1 T13.heap n0 Z15) hZ11 (hw _ (own_i 54 rfl)) (hw _ (own_i 2 rfl)) (by decide) (by decide)) (g := (mkF m 116 #[.val (.int va), .val (.int vb), .val (.int vc), .val (.int vd), .val (.int sh), .val (.int x0), .val (.int x1), .val (.int w0), .val (.int w1), .val (.int 0), .val (.int 1), .val (.ref r11), .val (.ref r13), .val (.int (f_rmCM01 r11 r13 w0 cs fm)), .unset] [(.int w1), (.int w0), (.int 1), (.int x1), (.int x0), (.int 0)])) rfl (by rw [hml]; rfl) (argsL := [(.int 0), (.int x0), (.int x1), (.int 1), (.int w0), (.int w1)]) (rest := []) (lenOf pd__28ICCICC_29I rfl) rfl (own_q rfl) (hb hby at_116) (fun _ _ => ⟨rfl, e16, (by decide : 14 + 0 ≤ _), (by decide : 76 + 0 ≤ _)⟩)
      dsimp only [Pt.U, Pt.locs, Pt.cells, Pt.slots] at X17 l17 y17 z17 st17 hQ17
      obtain ⟨rfl, N17q, e17⟩ := hQ17
      obtain ⟨lc17, X17, N17⟩ := own_pack X17 l17 y17 z17 N16 N17q (C := 14) (S' := 76) rfl rfl
      refine own_thrH (a := T17.setTop (mkF m 119 #[.val (.int va), .val (.int vb), .val (.int vc), .val (.int vd), .val (.int sh), .val (.int x0), .val (.int x1), .val (.int w0), .val (.int w1), .val (.int 0), .val (.int 1), .val (.ref r11), .val (.ref r13), .val (.int (f_rmCM01 r11 r13 w0 cs fm)), .unset] [(.int (f_rmRF (0 : Int32) x0 x1 (1 : Int32) w0 w1))])) (fun t kt => st17 t kt) ?_
      refine own_thrH (a := T17.setTop (mkF m 123 #[.val (.int va), .val (.int vb), .val (.int vc), .val (.int vd), .val (.int sh), .val (.int x0), .val (.int x1), .val (.int w0), .val (.int w1), .val (.int 0), .val (.int 1), .val (.ref r11), .val (.ref r13), .val (.int (f_rmCM01 r11 r13 w0 cs fm)), .val (.int (f_rmRF (0 : Int32) x0 x1 (1 : Int32) w0 w1))] [(.int (f_rmCM01 r11 r13 w0 cs fm))])) (fun t kt => ?_) ?_
      · refine XS.istore X17.here hx rfl (hb hby at_119) rfl (l' := #[.val (.int va), .val (.int vb), .val (.int vc), .val (.int vd), .val (.int sh), .val (.int x0), .val (.int x1), .val (.int w0), .val (.int w1), .val (.int 0), .val (.int 1), .val (.ref r11), .val (.ref r13), .val (.int (f_rmCM01 r11 r13 w0 cs fm)), .val (.int (f_rmRF (0 : Int32) x0 x1 (1 : Int32) w0 w1))]) rfl ?_
        refine XS.iload X17.here hx rfl (hb hby at_121) rfl ?_
        exact kt
      obtain ⟨_, _, ⟨T18, L18, k18, n18⟩, -, X18, ⟨Lc18, hQ18, l18, y18, z18⟩, st18⟩ := Jvm.LawKit.callS X17 hx (y := own_m31) hown11 (mvT hZ11 (hw _ (own_i 58 rfl))) (mvT hZ11 (hw _ (own_i 59 rfl))) (mvT hZ11 (hw _ (own_i 2 rfl))) (mvT hZ11 (hw _ (own_i 60 rfl))) (by decide) (backOf (W := 0) (rmSG l Z a0 hw [] (f_rmCM01 r11 r13 w0 cs fm) T13.heap n0 Z15) hZ11 (hw _ (own_i 60 rfl)) (hw _ (own_i 2 rfl)) (by decide) (by decide)) (g := (mkF m 123 #[.val (.int va), .val (.int vb), .val (.int vc), .val (.int vd), .val (.int sh), .val (.int x0), .val (.int x1), .val (.int w0), .val (.int w1), .val (.int 0), .val (.int 1), .val (.ref r11), .val (.ref r13), .val (.int (f_rmCM01 r11 r13 w0 cs fm)), .val (.int (f_rmRF (0 : Int32) x0 x1 (1 : Int32) w0 w1))] [(.int (f_rmCM01 r11 r13 w0 cs fm))])) rfl (by rw [hml]; rfl) (argsL := [(.int (f_rmCM01 r11 r13 w0 cs fm))]) (rest := []) (lenOf pd__28I_29I rfl) rfl (own_q rfl) (hb hby at_123) (fun _ _ => ⟨rfl, e17, (by decide : 14 + 0 ≤ _), (by decide : 76 + 0 ≤ _)⟩)
      dsimp only [Pt.U, Pt.locs, Pt.cells, Pt.slots] at X18 l18 y18 z18 st18 hQ18
      obtain ⟨rfl, N18q, e18⟩ := hQ18
      obtain ⟨lc18, X18, N18⟩ := own_pack X18 l18 y18 z18 N17 N18q (C := 14) (S' := 76) rfl rfl
      refine own_thrH (a := T18.setTop (mkF m 126 #[.val (.int va), .val (.int vb), .val (.int vc), .val (.int vd), .val (.int sh), .val (.int x0), .val (.int x1), .val (.int w0), .val (.int w1), .val (.int 0), .val (.int 1), .val (.ref r11), .val (.ref r13), .val (.int (f_rmCM01 r11 r13 w0 cs fm)), .val (.int (f_rmRF (0 : Int32) x0 x1 (1 : Int32) w0 w1))] [(.int (f_rmSG (f_rmCM01 r11 r13 w0 cs fm)))])) (fun t kt => st18 t kt) ?_
      refine own_thrH (a := T18.setTop (mkF m 136 #[.val (.int va), .val (.int vb), .val (.int vc), .val (.int vd), .val (.int sh), .val (.int x0), .val (.int x1), .val (.int w0), .val (.int w1), .val (.int 0), .val (.int 1), .val (.ref r11), .val (.ref r13), .val (.int (f_rmCM01 r11 r13 w0 cs fm)), .val (.int (f_rmRF (0 : Int32) x0 x1 (1 : Int32) w0 w1))] [(.int 1)])) (fun t kt => ?_) ?_
      · refine XS.iload X18.here hx rfl (hb hby at_126) rfl ?_
        refine XS.icmpNo X18.here hx rfl (hb hby at_128) rfl (teq (own_fin01 _ _ _ _ _ _ _ _)).2 ?_
        refine XS.iconst X18.here hx rfl (hb hby at_131) ?_
        refine XS.goto X18.here hx rfl (pc0 := 132) (pc' := 136) rfl (hb hby at_132) (by decide) (by decide) ?_
        exact kt
      exact own_endH X18 hS11 (by rw [e18]; exact Z15k) hZ11 hEL CH14 hh e18 hlk (v := some (.int 1)) (fun h => by rw [Bd.returns] at h; cases h) (fun fs hr => retN X18 hx (t := .boolean) Bd.returns (by simp) (hb hby at_136) hr) ⟨rfl, N18⟩ (by decide : 14 ≤ _) (by decide : 76 ≤ _)
    · subst ha hb'
      refine own_thrH (a := Tj3.setTop (mkF m 79 #[.val (.int va), .val (.int vb), .val (.int vc), .val (.int vd), .val (.int sh), .val (.int x0), .val (.int x1), .val (.int w0), .val (.int w1), .val (.int 0), .val (.int 2), .unset, .unset, .unset, .unset] [(.int x1), (.int x0), (.int 0)])) (fun t kt => ?_) ?_
      · refine XS.iload Xj3.here hx rfl (hb hby at_73) rfl ?_
        refine XS.iload Xj3.here hx rfl (hb hby at_75) rfl ?_
        refine XS.iload Xj3.here hx rfl (hb hby at_77) rfl ?_
        exact kt
      obtain ⟨_, _, ⟨T19, L19, k19, n19⟩, -, X19, hSq19, hgr19, ⟨Lc19, hQ19, l19, y19, z19, ch19⟩, st19⟩ := callSS Xj3 hx (y := own_m11) hown (mvT hZ (hw _ (own_i 8 rfl))) (mvT hZ (hw _ (own_i 9 rfl))) (mvT hZ (hw _ (own_i 2 rfl))) (mvT hZ (hw _ (own_i 10 rfl))) (by decide) (backOfSH (W := 0) (rmM0 l Z a0 hw [] x0 x1 h0 n0 Z0) hZ (hw _ (own_i 10 rfl)) (hw _ (own_i 2 rfl)) (by decide) (by decide) hEL CH0.1) (g := (mkF m 79 #[.val (.int va), .val (.int vb), .val (.int vc), .val (.int vd), .val (.int sh), .val (.int x0), .val (.int x1), .val (.int w0), .val (.int w1), .val (.int 0), .val (.int 2), .unset, .unset, .unset, .unset] [(.int x1), (.int x0), (.int 0)])) rfl (by rw [hml]; rfl) (argsL := [(.int 0), (.int x0), (.int x1)]) (rest := []) (lenOf pd__28ICC_29Ljava_2flang_2fString_3b rfl) rfl (own_q rfl) (hb hby at_79) (fun _ _ => ⟨rfl, ej3, (by decide : 0 + 6 ≤ _), (by decide : 0 + 12 ≤ _)⟩)
      dsimp only [Pt.U, Pt.locs, Pt.cells, Pt.slots] at X19 l19 y19 z19 st19 hQ19 hSq19 hgr19 ch19
      have hS19 := hS0.trans hSq19 (Nat.le_trans (by rw [ej3]; exact (Nat.zero_le _)) hgr19)
      have hZ19 : Z.Warmed39 (s.setVm T19.vm).vm := State.Warmed39.trans (t := s.setVm s.vm) hZ hSq19.1
      have hown19 : (s.setVm T19.vm).vm.findClass "com/example/tiphys/tiphys/CodePointOrderComparePinLaw" = some m.cls := by rw [show (s.setVm T19.vm).vm = T19.vm from rfl, hSq19.1.alike.findClass]; exact hown
      have X19 : Stand p l e _ (s.setVm T19.vm) m _ below meth c T19 _ _ _ := X19
      obtain ⟨r19, rfl, N19q, K19, u19⟩ := hQ19
      have Z20 : n0 ≤ T19.heap.size := Nat.le_trans Z0 K19.1
      have Z20h : h0.size ≤ T19.heap.size := Nat.le_trans (Nat.le_refl h0.size) K19.1
      have CHc19 := CH0.trans ch19
      obtain ⟨lc19, X19, N19⟩ := own_pack X19 l19 y19 z19 Nj3 N19q (C := 6) (S' := 12) rfl rfl
      refine own_thrH (a := T19.setTop (mkF m 82 #[.val (.int va), .val (.int vb), .val (.int vc), .val (.int vd), .val (.int sh), .val (.int x0), .val (.int x1), .val (.int w0), .val (.int w1), .val (.int 0), .val (.int 2), .unset, .unset, .unset, .unset] [(.ref r19)])) (fun t kt => st19.trans kt) ?_
      refine own_thrH (a := T19.setTop (mkF m 90 #[.val (.int va), .val (.int vb), .val (.int vc), .val (.int vd), .val (.int sh), .val (.int x0), .val (.int x1), .val (.int w0), .val (.int w1), .val (.int 0), .val (.int 2), .val (.ref r19), .unset, .unset, .unset] [(.int w1), (.int w0), (.int 2)])) (fun t kt => ?_) ?_
      · refine XS.astore X19.here hx rfl (hb hby at_82) rfl rfl (l' := #[.val (.int va), .val (.int vb), .val (.int vc), .val (.int vd), .val (.int sh), .val (.int x0), .val (.int x1), .val (.int w0), .val (.int w1), .val (.int 0), .val (.int 2), .val (.ref r19), .unset, .unset, .unset]) rfl ?_
        refine XS.iload X19.here hx rfl (hb hby at_84) rfl ?_
        refine XS.iload X19.here hx rfl (hb hby at_86) rfl ?_
        refine XS.iload X19.here hx rfl (hb hby at_88) rfl ?_
        exact kt
      obtain ⟨_, _, ⟨T21, L21, k21, n21⟩, -, X21, ⟨Lc21, hQ21, l21, y21, z21⟩, st21⟩ := Jvm.LawKit.callS X19 hx (y := own_m11) hown19 (mvT hZ19 (hw _ (own_i 8 rfl))) (mvT hZ19 (hw _ (own_i 9 rfl))) (mvT hZ19 (hw _ (own_i 2 rfl))) (mvT hZ19 (hw _ (own_i 10 rfl))) (by decide) (backOf (W := 0) (rmM2 l Z a0 hw [] w0 w1 cs fm T19.heap n0 Z20 hw0 hw1 hKs (hO.keep K19 all0)) hZ19 (hw _ (own_i 10 rfl)) (hw _ (own_i 2 rfl)) (by decide) (by decide)) (g := (mkF m 90 #[.val (.int va), .val (.int vb), .val (.int vc), .val (.int vd), .val (.int sh), .val (.int x0), .val (.int x1), .val (.int w0), .val (.int w1), .val (.int 0), .val (.int 2), .val (.ref r19), .unset, .unset, .unset] [(.int w1), (.int w0), (.int 2)])) rfl (by rw [hml]; rfl) (argsL := [(.int 2), (.int w0), (.int w1)]) (rest := []) (lenOf pd__28ICC_29Ljava_2flang_2fString_3b rfl) rfl (own_q rfl) (hb hby at_90) (fun _ _ => ⟨rfl, rfl, (by decide : 6 + 8 ≤ _), (by decide : 12 + 64 ≤ _)⟩)
      dsimp only [Pt.U, Pt.locs, Pt.cells, Pt.slots] at X21 l21 y21 z21 st21 hQ21
      obtain ⟨r21, rfl, N21q, K21, u21⟩ := hQ21
      have CH22 := CHc19.trans (CHr.keep K21 all0 CHc19.1)
      have Z23 : n0 ≤ T21.heap.size := Nat.le_trans Z20 K21.1
      have Z23h : h0.size ≤ T21.heap.size := Nat.le_trans Z20h K21.1
      have Z23k := Nat.le_trans (Nat.le_refl _) K21.1
      obtain ⟨lc21, X21, N21⟩ := own_pack X21 l21 y21 z21 N19 N21q (C := 14) (S' := 76) rfl rfl
      refine own_thrH (a := T21.setTop (mkF m 93 #[.val (.int va), .val (.int vb), .val (.int vc), .val (.int vd), .val (.int sh), .val (.int x0), .val (.int x1), .val (.int w0), .val (.int w1), .val (.int 0), .val (.int 2), .val (.ref r19), .unset, .unset, .unset] [(.ref r21)])) (fun t kt => st21 t kt) ?_
      refine own_thrH (a := T21.setTop (mkF m 99 #[.val (.int va), .val (.int vb), .val (.int vc), .val (.int vd), .val (.int sh), .val (.int x0), .val (.int x1), .val (.int w0), .val (.int w1), .val (.int 0), .val (.int 2), .val (.ref r19), .val (.ref r21), .unset, .unset] [(.ref r21), (.ref r19)])) (fun t kt => ?_) ?_
      · refine XS.astore X21.here hx rfl (hb hby at_93) rfl rfl (l' := #[.val (.int va), .val (.int vb), .val (.int vc), .val (.int vd), .val (.int sh), .val (.int x0), .val (.int x1), .val (.int w0), .val (.int w1), .val (.int 0), .val (.int 2), .val (.ref r19), .val (.ref r21), .unset, .unset]) rfl ?_
        refine XS.aload X21.here hx rfl (hb hby at_95) rfl rfl ?_
        refine XS.aload X21.here hx rfl (hb hby at_97) rfl rfl ?_
        exact kt
      obtain ⟨_, _, ⟨T24, L24, k24, n24⟩, -, X24, ⟨Lc24, hQ24, l24, y24, z24⟩, st24⟩ := Jvm.LawKit.callS X21 hx (y := own_m25) hown19 (mvT hZ19 (hw _ (own_i 33 rfl))) (mvT hZ19 (hw _ (own_i 34 rfl))) (mvT hZ19 (hw _ (own_i 35 rfl))) (mvT hZ19 (hw _ (own_i 36 rfl))) (by decide) (backOf (W := 0) (rmCM02 l Z a0 hw [] r19 r21 w0 w1 cs fm T21.heap n0 Z23 hKs ((hO.keep K19 all0).keep K21 all0) (u19.keep0 K21) u21 hw0 hw1) hZ19 (hw _ (own_i 36 rfl)) (hw _ (own_i 35 rfl)) (by decide) (by decide)) (g := (mkF m 99 #[.val (.int va), .val (.int vb), .val (.int vc), .val (.int vd), .val (.int sh), .val (.int x0), .val (.int x1), .val (.int w0), .val (.int w1), .val (.int 0), .val (.int 2), .val (.ref r19), .val (.ref r21), .unset, .unset] [(.ref r21), (.ref r19)])) rfl (by rw [hml]; rfl) (argsL := [(.ref r19), (.ref r21)]) (rest := []) (lenOf pd__28Ljava_2flang_2fString_3bLjava_2flang_2fString_3b_29I rfl) rfl (own_q rfl) (hb hby at_99) (fun _ _ => ⟨rfl, rfl, (by decide : 14 + 0 ≤ _), (by decide : 76 + 0 ≤ _)⟩)
      dsimp only [Pt.U, Pt.locs, Pt.cells, Pt.slots] at X24 l24 y24 z24 st24 hQ24
      obtain ⟨rfl, N24q, e24⟩ := hQ24
      obtain ⟨lc24, X24, N24⟩ := own_pack X24 l24 y24 z24 N21 N24q (C := 14) (S' := 76) rfl rfl
      refine own_thrH (a := T24.setTop (mkF m 102 #[.val (.int va), .val (.int vb), .val (.int vc), .val (.int vd), .val (.int sh), .val (.int x0), .val (.int x1), .val (.int w0), .val (.int w1), .val (.int 0), .val (.int 2), .val (.ref r19), .val (.ref r21), .unset, .unset] [(.int (f_rmCM02 r19 r21 w0 w1 cs fm))])) (fun t kt => st24 t kt) ?_
      refine own_thrH (a := T24.setTop (mkF m 116 #[.val (.int va), .val (.int vb), .val (.int vc), .val (.int vd), .val (.int sh), .val (.int x0), .val (.int x1), .val (.int w0), .val (.int w1), .val (.int 0), .val (.int 2), .val (.ref r19), .val (.ref r21), .val (.int (f_rmCM02 r19 r21 w0 w1 cs fm)), .unset] [(.int w1), (.int w0), (.int 2), (.int x1), (.int x0), (.int 0)])) (fun t kt => ?_) ?_
      · refine XS.istore X24.here hx rfl (hb hby at_102) rfl (l' := #[.val (.int va), .val (.int vb), .val (.int vc), .val (.int vd), .val (.int sh), .val (.int x0), .val (.int x1), .val (.int w0), .val (.int w1), .val (.int 0), .val (.int 2), .val (.ref r19), .val (.ref r21), .val (.int (f_rmCM02 r19 r21 w0 w1 cs fm)), .unset]) rfl ?_
        refine XS.iload X24.here hx rfl (hb hby at_104) rfl ?_
        refine XS.iload X24.here hx rfl (hb hby at_106) rfl ?_
        refine XS.iload X24.here hx rfl (hb hby at_108) rfl ?_
        refine XS.iload X24.here hx rfl (hb hby at_110) rfl ?_
        refine XS.iload X24.here hx rfl (hb hby at_112) rfl ?_
        refine XS.iload X24.here hx rfl (hb hby at_114) rfl ?_
        exact kt
      obtain ⟨_, _, ⟨T25, L25, k25, n25⟩, -, X25, ⟨Lc25, hQ25, l25, y25, z25⟩, st25⟩ := Jvm.LawKit.callS X24 hx (y := own_m32) hown19 (mvT hZ19 (hw _ (own_i 52 rfl))) (mvT hZ19 (hw _ (own_i 53 rfl))) (mvT hZ19 (hw _ (own_i 2 rfl))) (mvT hZ19 (hw _ (own_i 54 rfl))) (by decide) (backOf (W := 0) (rmRF l Z a0 hw [] (0 : Int32) x0 x1 (2 : Int32) w0 w1 T21.heap n0 Z23) hZ19 (hw _ (own_i 54 rfl)) (hw _ (own_i 2 rfl)) (by decide) (by decide)) (g := (mkF m 116 #[.val (.int va), .val (.int vb), .val (.int vc), .val (.int vd), .val (.int sh), .val (.int x0), .val (.int x1), .val (.int w0), .val (.int w1), .val (.int 0), .val (.int 2), .val (.ref r19), .val (.ref r21), .val (.int (f_rmCM02 r19 r21 w0 w1 cs fm)), .unset] [(.int w1), (.int w0), (.int 2), (.int x1), (.int x0), (.int 0)])) rfl (by rw [hml]; rfl) (argsL := [(.int 0), (.int x0), (.int x1), (.int 2), (.int w0), (.int w1)]) (rest := []) (lenOf pd__28ICCICC_29I rfl) rfl (own_q rfl) (hb hby at_116) (fun _ _ => ⟨rfl, e24, (by decide : 14 + 0 ≤ _), (by decide : 76 + 0 ≤ _)⟩)
      dsimp only [Pt.U, Pt.locs, Pt.cells, Pt.slots] at X25 l25 y25 z25 st25 hQ25
      obtain ⟨rfl, N25q, e25⟩ := hQ25
      obtain ⟨lc25, X25, N25⟩ := own_pack X25 l25 y25 z25 N24 N25q (C := 14) (S' := 76) rfl rfl
      refine own_thrH (a := T25.setTop (mkF m 119 #[.val (.int va), .val (.int vb), .val (.int vc), .val (.int vd), .val (.int sh), .val (.int x0), .val (.int x1), .val (.int w0), .val (.int w1), .val (.int 0), .val (.int 2), .val (.ref r19), .val (.ref r21), .val (.int (f_rmCM02 r19 r21 w0 w1 cs fm)), .unset] [(.int (f_rmRF (0 : Int32) x0 x1 (2 : Int32) w0 w1))])) (fun t kt => st25 t kt) ?_
      refine own_thrH (a := T25.setTop (mkF m 123 #[.val (.int va), .val (.int vb), .val (.int vc), .val (.int vd), .val (.int sh), .val (.int x0), .val (.int x1), .val (.int w0), .val (.int w1), .val (.int 0), .val (.int 2), .val (.ref r19), .val (.ref r21), .val (.int (f_rmCM02 r19 r21 w0 w1 cs fm)), .val (.int (f_rmRF (0 : Int32) x0 x1 (2 : Int32) w0 w1))] [(.int (f_rmCM02 r19 r21 w0 w1 cs fm))])) (fun t kt => ?_) ?_
      · refine XS.istore X25.here hx rfl (hb hby at_119) rfl (l' := #[.val (.int va), .val (.int vb), .val (.int vc), .val (.int vd), .val (.int sh), .val (.int x0), .val (.int x1), .val (.int w0), .val (.int w1), .val (.int 0), .val (.int 2), .val (.ref r19), .val (.ref r21), .val (.int (f_rmCM02 r19 r21 w0 w1 cs fm)), .val (.int (f_rmRF (0 : Int32) x0 x1 (2 : Int32) w0 w1))]) rfl ?_
        refine XS.iload X25.here hx rfl (hb hby at_121) rfl ?_
        exact kt
      obtain ⟨_, _, ⟨T26, L26, k26, n26⟩, -, X26, ⟨Lc26, hQ26, l26, y26, z26⟩, st26⟩ := Jvm.LawKit.callS X25 hx (y := own_m31) hown19 (mvT hZ19 (hw _ (own_i 58 rfl))) (mvT hZ19 (hw _ (own_i 59 rfl))) (mvT hZ19 (hw _ (own_i 2 rfl))) (mvT hZ19 (hw _ (own_i 60 rfl))) (by decide) (backOf (W := 0) (rmSG l Z a0 hw [] (f_rmCM02 r19 r21 w0 w1 cs fm) T21.heap n0 Z23) hZ19 (hw _ (own_i 60 rfl)) (hw _ (own_i 2 rfl)) (by decide) (by decide)) (g := (mkF m 123 #[.val (.int va), .val (.int vb), .val (.int vc), .val (.int vd), .val (.int sh), .val (.int x0), .val (.int x1), .val (.int w0), .val (.int w1), .val (.int 0), .val (.int 2), .val (.ref r19), .val (.ref r21), .val (.int (f_rmCM02 r19 r21 w0 w1 cs fm)), .val (.int (f_rmRF (0 : Int32) x0 x1 (2 : Int32) w0 w1))] [(.int (f_rmCM02 r19 r21 w0 w1 cs fm))])) rfl (by rw [hml]; rfl) (argsL := [(.int (f_rmCM02 r19 r21 w0 w1 cs fm))]) (rest := []) (lenOf pd__28I_29I rfl) rfl (own_q rfl) (hb hby at_123) (fun _ _ => ⟨rfl, e25, (by decide : 14 + 0 ≤ _), (by decide : 76 + 0 ≤ _)⟩)
      dsimp only [Pt.U, Pt.locs, Pt.cells, Pt.slots] at X26 l26 y26 z26 st26 hQ26
      obtain ⟨rfl, N26q, e26⟩ := hQ26
      obtain ⟨lc26, X26, N26⟩ := own_pack X26 l26 y26 z26 N25 N26q (C := 14) (S' := 76) rfl rfl
      refine own_thrH (a := T26.setTop (mkF m 126 #[.val (.int va), .val (.int vb), .val (.int vc), .val (.int vd), .val (.int sh), .val (.int x0), .val (.int x1), .val (.int w0), .val (.int w1), .val (.int 0), .val (.int 2), .val (.ref r19), .val (.ref r21), .val (.int (f_rmCM02 r19 r21 w0 w1 cs fm)), .val (.int (f_rmRF (0 : Int32) x0 x1 (2 : Int32) w0 w1))] [(.int (f_rmSG (f_rmCM02 r19 r21 w0 w1 cs fm)))])) (fun t kt => st26 t kt) ?_
      refine own_thrH (a := T26.setTop (mkF m 136 #[.val (.int va), .val (.int vb), .val (.int vc), .val (.int vd), .val (.int sh), .val (.int x0), .val (.int x1), .val (.int w0), .val (.int w1), .val (.int 0), .val (.int 2), .val (.ref r19), .val (.ref r21), .val (.int (f_rmCM02 r19 r21 w0 w1 cs fm)), .val (.int (f_rmRF (0 : Int32) x0 x1 (2 : Int32) w0 w1))] [(.int 1)])) (fun t kt => ?_) ?_
      · refine XS.iload X26.here hx rfl (hb hby at_126) rfl ?_
        refine XS.icmpNo X26.here hx rfl (hb hby at_128) rfl (teq (own_fin02 _ _ _ _ _ _ _ _ hw0)).2 ?_
        refine XS.iconst X26.here hx rfl (hb hby at_131) ?_
        refine XS.goto X26.here hx rfl (pc0 := 132) (pc' := 136) rfl (hb hby at_132) (by decide) (by decide) ?_
        exact kt
      exact own_endH X26 hS19 (by rw [e26]; exact Z23k) hZ19 hEL CH22 hh e26 hlk (v := some (.int 1)) (fun h => by rw [Bd.returns] at h; cases h) (fun fs hr => retN X26 hx (t := .boolean) Bd.returns (by simp) (hb hby at_136) hr) ⟨rfl, N26⟩ (by decide : 14 ≤ _) (by decide : 76 ≤ _)
    · subst ha hb'
      refine own_thrH (a := Tj3.setTop (mkF m 79 #[.val (.int va), .val (.int vb), .val (.int vc), .val (.int vd), .val (.int sh), .val (.int x0), .val (.int x1), .val (.int w0), .val (.int w1), .val (.int 1), .val (.int 0), .unset, .unset, .unset, .unset] [(.int x1), (.int x0), (.int 1)])) (fun t kt => ?_) ?_
      · refine XS.iload Xj3.here hx rfl (hb hby at_73) rfl ?_
        refine XS.iload Xj3.here hx rfl (hb hby at_75) rfl ?_
        refine XS.iload Xj3.here hx rfl (hb hby at_77) rfl ?_
        exact kt
      obtain ⟨_, _, ⟨T27, L27, k27, n27⟩, -, X27, ⟨Lc27, hQ27, l27, y27, z27⟩, st27⟩ := Jvm.LawKit.callS Xj3 hx (y := own_m11) hown (mvT hZ (hw _ (own_i 8 rfl))) (mvT hZ (hw _ (own_i 9 rfl))) (mvT hZ (hw _ (own_i 2 rfl))) (mvT hZ (hw _ (own_i 10 rfl))) (by decide) (backOf (W := 0) (rmM1 l Z a0 hw [] x0 x1 cs fm h0 n0 Z0 hx0 hx1 hKs hO) hZ (hw _ (own_i 10 rfl)) (hw _ (own_i 2 rfl)) (by decide) (by decide)) (g := (mkF m 79 #[.val (.int va), .val (.int vb), .val (.int vc), .val (.int vd), .val (.int sh), .val (.int x0), .val (.int x1), .val (.int w0), .val (.int w1), .val (.int 1), .val (.int 0), .unset, .unset, .unset, .unset] [(.int x1), (.int x0), (.int 1)])) rfl (by rw [hml]; rfl) (argsL := [(.int 1), (.int x0), (.int x1)]) (rest := []) (lenOf pd__28ICC_29Ljava_2flang_2fString_3b rfl) rfl (own_q rfl) (hb hby at_79) (fun _ _ => ⟨rfl, ej3, (by decide : 0 + 8 ≤ _), (by decide : 0 + 64 ≤ _)⟩)
      dsimp only [Pt.U, Pt.locs, Pt.cells, Pt.slots] at X27 l27 y27 z27 st27 hQ27
      obtain ⟨r27, rfl, N27q, K27, u27⟩ := hQ27
      have CH28 := CH0.trans (CHr.keep K27 all0 CH0.1)
      have Z29 : n0 ≤ T27.heap.size := Nat.le_trans Z0 K27.1
      have Z29h : h0.size ≤ T27.heap.size := Nat.le_trans (Nat.le_refl h0.size) K27.1
      obtain ⟨lc27, X27, N27⟩ := own_pack X27 l27 y27 z27 Nj3 N27q (C := 8) (S' := 64) rfl rfl
      refine own_thrH (a := T27.setTop (mkF m 82 #[.val (.int va), .val (.int vb), .val (.int vc), .val (.int vd), .val (.int sh), .val (.int x0), .val (.int x1), .val (.int w0), .val (.int w1), .val (.int 1), .val (.int 0), .unset, .unset, .unset, .unset] [(.ref r27)])) (fun t kt => st27 t kt) ?_
      refine own_thrH (a := T27.setTop (mkF m 90 #[.val (.int va), .val (.int vb), .val (.int vc), .val (.int vd), .val (.int sh), .val (.int x0), .val (.int x1), .val (.int w0), .val (.int w1), .val (.int 1), .val (.int 0), .val (.ref r27), .unset, .unset, .unset] [(.int w1), (.int w0), (.int 0)])) (fun t kt => ?_) ?_
      · refine XS.astore X27.here hx rfl (hb hby at_82) rfl rfl (l' := #[.val (.int va), .val (.int vb), .val (.int vc), .val (.int vd), .val (.int sh), .val (.int x0), .val (.int x1), .val (.int w0), .val (.int w1), .val (.int 1), .val (.int 0), .val (.ref r27), .unset, .unset, .unset]) rfl ?_
        refine XS.iload X27.here hx rfl (hb hby at_84) rfl ?_
        refine XS.iload X27.here hx rfl (hb hby at_86) rfl ?_
        refine XS.iload X27.here hx rfl (hb hby at_88) rfl ?_
        exact kt
      obtain ⟨_, _, ⟨T30, L30, k30, n30⟩, -, X30, hSq30, hgr30, ⟨Lc30, hQ30, l30, y30, z30, ch30⟩, st30⟩ := callSS X27 hx (y := own_m11) hown (mvT hZ (hw _ (own_i 8 rfl))) (mvT hZ (hw _ (own_i 9 rfl))) (mvT hZ (hw _ (own_i 2 rfl))) (mvT hZ (hw _ (own_i 10 rfl))) (by decide) (backOfSH (W := 0) (rmM0 l Z a0 hw [] w0 w1 T27.heap n0 Z29) hZ (hw _ (own_i 10 rfl)) (hw _ (own_i 2 rfl)) (by decide) (by decide) hEL CH28.1) (g := (mkF m 90 #[.val (.int va), .val (.int vb), .val (.int vc), .val (.int vd), .val (.int sh), .val (.int x0), .val (.int x1), .val (.int w0), .val (.int w1), .val (.int 1), .val (.int 0), .val (.ref r27), .unset, .unset, .unset] [(.int w1), (.int w0), (.int 0)])) rfl (by rw [hml]; rfl) (argsL := [(.int 0), (.int w0), (.int w1)]) (rest := []) (lenOf pd__28ICC_29Ljava_2flang_2fString_3b rfl) rfl (own_q rfl) (hb hby at_90) (fun _ _ => ⟨rfl, rfl, (by decide : 8 + 6 ≤ _), (by decide : 64 + 12 ≤ _)⟩)
      dsimp only [Pt.U, Pt.locs, Pt.cells, Pt.slots] at X30 l30 y30 z30 st30 hQ30 hSq30 hgr30 ch30
      have hS30 := hS0.trans hSq30 (Nat.le_trans (Nat.zero_le _) hgr30)
      have hZ30 : Z.Warmed39 (s.setVm T30.vm).vm := State.Warmed39.trans (t := s.setVm s.vm) hZ hSq30.1
      have hown30 : (s.setVm T30.vm).vm.findClass "com/example/tiphys/tiphys/CodePointOrderComparePinLaw" = some m.cls := by rw [show (s.setVm T30.vm).vm = T30.vm from rfl, hSq30.1.alike.findClass]; exact hown
      have X30 : Stand p l e _ (s.setVm T30.vm) m _ below meth c T30 _ _ _ := X30
      obtain ⟨r30, rfl, N30q, K30, u30⟩ := hQ30
      have Z31 : n0 ≤ T30.heap.size := Nat.le_trans Z29 K30.1
      have Z31h : h0.size ≤ T30.heap.size := Nat.le_trans Z29h K30.1
      have CHc30 := CH28.trans ch30
      obtain ⟨lc30, X30, N30⟩ := own_pack X30 l30 y30 z30 N27 N30q (C := 14) (S' := 76) rfl rfl
      refine own_thrH (a := T30.setTop (mkF m 93 #[.val (.int va), .val (.int vb), .val (.int vc), .val (.int vd), .val (.int sh), .val (.int x0), .val (.int x1), .val (.int w0), .val (.int w1), .val (.int 1), .val (.int 0), .val (.ref r27), .unset, .unset, .unset] [(.ref r30)])) (fun t kt => st30.trans kt) ?_
      refine own_thrH (a := T30.setTop (mkF m 99 #[.val (.int va), .val (.int vb), .val (.int vc), .val (.int vd), .val (.int sh), .val (.int x0), .val (.int x1), .val (.int w0), .val (.int w1), .val (.int 1), .val (.int 0), .val (.ref r27), .val (.ref r30), .unset, .unset] [(.ref r30), (.ref r27)])) (fun t kt => ?_) ?_
      · refine XS.astore X30.here hx rfl (hb hby at_93) rfl rfl (l' := #[.val (.int va), .val (.int vb), .val (.int vc), .val (.int vd), .val (.int sh), .val (.int x0), .val (.int x1), .val (.int w0), .val (.int w1), .val (.int 1), .val (.int 0), .val (.ref r27), .val (.ref r30), .unset, .unset]) rfl ?_
        refine XS.aload X30.here hx rfl (hb hby at_95) rfl rfl ?_
        refine XS.aload X30.here hx rfl (hb hby at_97) rfl rfl ?_
        exact kt
      obtain ⟨_, _, ⟨T32, L32, k32, n32⟩, -, X32, ⟨Lc32, hQ32, l32, y32, z32⟩, st32⟩ := Jvm.LawKit.callS X30 hx (y := own_m25) hown30 (mvT hZ30 (hw _ (own_i 33 rfl))) (mvT hZ30 (hw _ (own_i 34 rfl))) (mvT hZ30 (hw _ (own_i 35 rfl))) (mvT hZ30 (hw _ (own_i 36 rfl))) (by decide) (backOf (W := 0) (rmCM10 l Z a0 hw [] r27 r30 x0 cs fm T30.heap n0 Z31 hKs ((hO.keep K27 all0).keep K30 all0) (u27.keep0 K30) u30 hx0) hZ30 (hw _ (own_i 36 rfl)) (hw _ (own_i 35 rfl)) (by decide) (by decide)) (g := (mkF m 99 #[.val (.int va), .val (.int vb), .val (.int vc), .val (.int vd), .val (.int sh), .val (.int x0), .val (.int x1), .val (.int w0), .val (.int w1), .val (.int 1), .val (.int 0), .val (.ref r27), .val (.ref r30), .unset, .unset] [(.ref r30), (.ref r27)])) rfl (by rw [hml]; rfl) (argsL := [(.ref r27), (.ref r30)]) (rest := []) (lenOf pd__28Ljava_2flang_2fString_3bLjava_2flang_2fString_3b_29I rfl) rfl (own_q rfl) (hb hby at_99) (fun _ _ => ⟨rfl, rfl, (by decide : 14 + 0 ≤ _), (by decide : 76 + 0 ≤ _)⟩)
      dsimp only [Pt.U, Pt.locs, Pt.cells, Pt.slots] at X32 l32 y32 z32 st32 hQ32
      obtain ⟨rfl, N32q, e32⟩ := hQ32
      obtain ⟨lc32, X32, N32⟩ := own_pack X32 l32 y32 z32 N30 N32q (C := 14) (S' := 76) rfl rfl
      refine own_thrH (a := T32.setTop (mkF m 102 #[.val (.int va), .val (.int vb), .val (.int vc), .val (.int vd), .val (.int sh), .val (.int x0), .val (.int x1), .val (.int w0), .val (.int w1), .val (.int 1), .val (.int 0), .val (.ref r27), .val (.ref r30), .unset, .unset] [(.int (f_rmCM10 r27 r30 x0 cs fm))])) (fun t kt => st32 t kt) ?_
      refine own_thrH (a := T32.setTop (mkF m 116 #[.val (.int va), .val (.int vb), .val (.int vc), .val (.int vd), .val (.int sh), .val (.int x0), .val (.int x1), .val (.int w0), .val (.int w1), .val (.int 1), .val (.int 0), .val (.ref r27), .val (.ref r30), .val (.int (f_rmCM10 r27 r30 x0 cs fm)), .unset] [(.int w1), (.int w0), (.int 0), (.int x1), (.int x0), (.int 1)])) (fun t kt => ?_) ?_
      · refine XS.istore X32.here hx rfl (hb hby at_102) rfl (l' := #[.val (.int va), .val (.int vb), .val (.int vc), .val (.int vd), .val (.int sh), .val (.int x0), .val (.int x1), .val (.int w0), .val (.int w1), .val (.int 1), .val (.int 0), .val (.ref r27), .val (.ref r30), .val (.int (f_rmCM10 r27 r30 x0 cs fm)), .unset]) rfl ?_
        refine XS.iload X32.here hx rfl (hb hby at_104) rfl ?_
        refine XS.iload X32.here hx rfl (hb hby at_106) rfl ?_
        refine XS.iload X32.here hx rfl (hb hby at_108) rfl ?_
        refine XS.iload X32.here hx rfl (hb hby at_110) rfl ?_
        refine XS.iload X32.here hx rfl (hb hby at_112) rfl ?_
        refine XS.iload X32.here hx rfl (hb hby at_114) rfl ?_
        exact kt
      obtain ⟨_, _, ⟨T33, L33, k33, n33⟩, -, X33, ⟨Lc33, hQ33, l33, y33, z33⟩, st33⟩ := Jvm.LawKit.callS X32 hx (y := own_m32) hown30 (mvT hZ30 (hw _ (own_i 52 rfl))) (mvT hZ30 (hw _ (own_i 53 rfl))) (mvT hZ30 (hw _ (own_i 2 rfl))) (mvT hZ30 (hw _ (own_i 54 rfl))) (by decide) (backOf (W := 0) (rmRF l Z a0 hw [] (1 : Int32) x0 x1 (0 : Int32) w0 w1 T30.heap n0 Z31) hZ30 (hw _ (own_i 54 rfl)) (hw _ (own_i 2 rfl)) (by decide) (by decide)) (g := (mkF m 116 #[.val (.int va), .val (.int vb), .val (.int vc), .val (.int vd), .val (.int sh), .val (.int x0), .val (.int x1), .val (.int w0), .val (.int w1), .val (.int 1), .val (.int 0), .val (.ref r27), .val (.ref r30), .val (.int (f_rmCM10 r27 r30 x0 cs fm)), .unset] [(.int w1), (.int w0), (.int 0), (.int x1), (.int x0), (.int 1)])) rfl (by rw [hml]; rfl) (argsL := [(.int 1), (.int x0), (.int x1), (.int 0), (.int w0), (.int w1)]) (rest := []) (lenOf pd__28ICCICC_29I rfl) rfl (own_q rfl) (hb hby at_116) (fun _ _ => ⟨rfl, e32, (by decide : 14 + 0 ≤ _), (by decide : 76 + 0 ≤ _)⟩)
      dsimp only [Pt.U, Pt.locs, Pt.cells, Pt.slots] at X33 l33 y33 z33 st33 hQ33
      obtain ⟨rfl, N33q, e33⟩ := hQ33
      obtain ⟨lc33, X33, N33⟩ := own_pack X33 l33 y33 z33 N32 N33q (C := 14) (S' := 76) rfl rfl
      refine own_thrH (a := T33.setTop (mkF m 119 #[.val (.int va), .val (.int vb), .val (.int vc), .val (.int vd), .val (.int sh), .val (.int x0), .val (.int x1), .val (.int w0), .val (.int w1), .val (.int 1), .val (.int 0), .val (.ref r27), .val (.ref r30), .val (.int (f_rmCM10 r27 r30 x0 cs fm)), .unset] [(.int (f_rmRF (1 : Int32) x0 x1 (0 : Int32) w0 w1))])) (fun t kt => st33 t kt) ?_
      refine own_thrH (a := T33.setTop (mkF m 123 #[.val (.int va), .val (.int vb), .val (.int vc), .val (.int vd), .val (.int sh), .val (.int x0), .val (.int x1), .val (.int w0), .val (.int w1), .val (.int 1), .val (.int 0), .val (.ref r27), .val (.ref r30), .val (.int (f_rmCM10 r27 r30 x0 cs fm)), .val (.int (f_rmRF (1 : Int32) x0 x1 (0 : Int32) w0 w1))] [(.int (f_rmCM10 r27 r30 x0 cs fm))])) (fun t kt => ?_) ?_
      · refine XS.istore X33.here hx rfl (hb hby at_119) rfl (l' := #[.val (.int va), .val (.int vb), .val (.int vc), .val (.int vd), .val (.int sh), .val (.int x0), .val (.int x1), .val (.int w0), .val (.int w1), .val (.int 1), .val (.int 0), .val (.ref r27), .val (.ref r30), .val (.int (f_rmCM10 r27 r30 x0 cs fm)), .val (.int (f_rmRF (1 : Int32) x0 x1 (0 : Int32) w0 w1))]) rfl ?_
        refine XS.iload X33.here hx rfl (hb hby at_121) rfl ?_
        exact kt
      obtain ⟨_, _, ⟨T34, L34, k34, n34⟩, -, X34, ⟨Lc34, hQ34, l34, y34, z34⟩, st34⟩ := Jvm.LawKit.callS X33 hx (y := own_m31) hown30 (mvT hZ30 (hw _ (own_i 58 rfl))) (mvT hZ30 (hw _ (own_i 59 rfl))) (mvT hZ30 (hw _ (own_i 2 rfl))) (mvT hZ30 (hw _ (own_i 60 rfl))) (by decide) (backOf (W := 0) (rmSG l Z a0 hw [] (f_rmCM10 r27 r30 x0 cs fm) T30.heap n0 Z31) hZ30 (hw _ (own_i 60 rfl)) (hw _ (own_i 2 rfl)) (by decide) (by decide)) (g := (mkF m 123 #[.val (.int va), .val (.int vb), .val (.int vc), .val (.int vd), .val (.int sh), .val (.int x0), .val (.int x1), .val (.int w0), .val (.int w1), .val (.int 1), .val (.int 0), .val (.ref r27), .val (.ref r30), .val (.int (f_rmCM10 r27 r30 x0 cs fm)), .val (.int (f_rmRF (1 : Int32) x0 x1 (0 : Int32) w0 w1))] [(.int (f_rmCM10 r27 r30 x0 cs fm))])) rfl (by rw [hml]; rfl) (argsL := [(.int (f_rmCM10 r27 r30 x0 cs fm))]) (rest := []) (lenOf pd__28I_29I rfl) rfl (own_q rfl) (hb hby at_123) (fun _ _ => ⟨rfl, e33, (by decide : 14 + 0 ≤ _), (by decide : 76 + 0 ≤ _)⟩)
      dsimp only [Pt.U, Pt.locs, Pt.cells, Pt.slots] at X34 l34 y34 z34 st34 hQ34
      obtain ⟨rfl, N34q, e34⟩ := hQ34
      obtain ⟨lc34, X34, N34⟩ := own_pack X34 l34 y34 z34 N33 N34q (C := 14) (S' := 76) rfl rfl
      refine own_thrH (a := T34.setTop (mkF m 126 #[.val (.int va), .val (.int vb), .val (.int vc), .val (.int vd), .val (.int sh), .val (.int x0), .val (.int x1), .val (.int w0), .val (.int w1), .val (.int 1), .val (.int 0), .val (.ref r27), .val (.ref r30), .val (.int (f_rmCM10 r27 r30 x0 cs fm)), .val (.int (f_rmRF (1 : Int32) x0 x1 (0 : Int32) w0 w1))] [(.int (f_rmSG (f_rmCM10 r27 r30 x0 cs fm)))])) (fun t kt => st34 t kt) ?_
      refine own_thrH (a := T34.setTop (mkF m 136 #[.val (.int va), .val (.int vb), .val (.int vc), .val (.int vd), .val (.int sh), .val (.int x0), .val (.int x1), .val (.int w0), .val (.int w1), .val (.int 1), .val (.int 0), .val (.ref r27), .val (.ref r30), .val (.int (f_rmCM10 r27 r30 x0 cs fm)), .val (.int (f_rmRF (1 : Int32) x0 x1 (0 : Int32) w0 w1))] [(.int 1)])) (fun t kt => ?_) ?_
      · refine XS.iload X34.here hx rfl (hb hby at_126) rfl ?_
        refine XS.icmpNo X34.here hx rfl (hb hby at_128) rfl (teq (own_fin10 _ _ _ _ _ _ _ _)).2 ?_
        refine XS.iconst X34.here hx rfl (hb hby at_131) ?_
        refine XS.goto X34.here hx rfl (pc0 := 132) (pc' := 136) rfl (hb hby at_132) (by decide) (by decide) ?_
        exact kt
      exact own_endH X34 hS30 (by rw [e34]; exact (Nat.le_refl _)) hZ30 hEL CHc30 hh e34 hlk (v := some (.int 1)) (fun h => by rw [Bd.returns] at h; cases h) (fun fs hr => retN X34 hx (t := .boolean) Bd.returns (by simp) (hb hby at_136) hr) ⟨rfl, N34⟩ (by decide : 14 ≤ _) (by decide : 76 ≤ _)
    · subst ha hb'
      refine own_thrH (a := Tj3.setTop (mkF m 79 #[.val (.int va), .val (.int vb), .val (.int vc), .val (.int vd), .val (.int sh), .val (.int x0), .val (.int x1), .val (.int w0), .val (.int w1), .val (.int 1), .val (.int 1), .unset, .unset, .unset, .unset] [(.int x1), (.int x0), (.int 1)])) (fun t kt => ?_) ?_
      · refine XS.iload Xj3.here hx rfl (hb hby at_73) rfl ?_
        refine XS.iload Xj3.here hx rfl (hb hby at_75) rfl ?_
        refine XS.iload Xj3.here hx rfl (hb hby at_77) rfl ?_
        exact kt
      obtain ⟨_, _, ⟨T35, L35, k35, n35⟩, -, X35, ⟨Lc35, hQ35, l35, y35, z35⟩, st35⟩ := Jvm.LawKit.callS Xj3 hx (y := own_m11) hown (mvT hZ (hw _ (own_i 8 rfl))) (mvT hZ (hw _ (own_i 9 rfl))) (mvT hZ (hw _ (own_i 2 rfl))) (mvT hZ (hw _ (own_i 10 rfl))) (by decide) (backOf (W := 0) (rmM1 l Z a0 hw [] x0 x1 cs fm h0 n0 Z0 hx0 hx1 hKs hO) hZ (hw _ (own_i 10 rfl)) (hw _ (own_i 2 rfl)) (by decide) (by decide)) (g := (mkF m 79 #[.val (.int va), .val (.int vb), .val (.int vc), .val (.int vd), .val (.int sh), .val (.int x0), .val (.int x1), .val (.int w0), .val (.int w1), .val (.int 1), .val (.int 1), .unset, .unset, .unset, .unset] [(.int x1), (.int x0), (.int 1)])) rfl (by rw [hml]; rfl) (argsL := [(.int 1), (.int x0), (.int x1)]) (rest := []) (lenOf pd__28ICC_29Ljava_2flang_2fString_3b rfl) rfl (own_q rfl) (hb hby at_79) (fun _ _ => ⟨rfl, ej3, (by decide : 0 + 8 ≤ _), (by decide : 0 + 64 ≤ _)⟩)
      dsimp only [Pt.U, Pt.locs, Pt.cells, Pt.slots] at X35 l35 y35 z35 st35 hQ35
      obtain ⟨r35, rfl, N35q, K35, u35⟩ := hQ35
      have CH36 := CH0.trans (CHr.keep K35 all0 CH0.1)
      have Z37 : n0 ≤ T35.heap.size := Nat.le_trans Z0 K35.1
      have Z37h : h0.size ≤ T35.heap.size := Nat.le_trans (Nat.le_refl h0.size) K35.1
      obtain ⟨lc35, X35, N35⟩ := own_pack X35 l35 y35 z35 Nj3 N35q (C := 8) (S' := 64) rfl rfl
      refine own_thrH (a := T35.setTop (mkF m 82 #[.val (.int va), .val (.int vb), .val (.int vc), .val (.int vd), .val (.int sh), .val (.int x0), .val (.int x1), .val (.int w0), .val (.int w1), .val (.int 1), .val (.int 1), .unset, .unset, .unset, .unset] [(.ref r35)])) (fun t kt => st35 t kt) ?_
      refine own_thrH (a := T35.setTop (mkF m 90 #[.val (.int va), .val (.int vb), .val (.int vc), .val (.int vd), .val (.int sh), .val (.int x0), .val (.int x1), .val (.int w0), .val (.int w1), .val (.int 1), .val (.int 1), .val (.ref r35), .unset, .unset, .unset] [(.int w1), (.int w0), (.int 1)])) (fun t kt => ?_) ?_
      · refine XS.astore X35.here hx rfl (hb hby at_82) rfl rfl (l' := #[.val (.int va), .val (.int vb), .val (.int vc), .val (.int vd), .val (.int sh), .val (.int x0), .val (.int x1), .val (.int w0), .val (.int w1), .val (.int 1), .val (.int 1), .val (.ref r35), .unset, .unset, .unset]) rfl ?_
        refine XS.iload X35.here hx rfl (hb hby at_84) rfl ?_
        refine XS.iload X35.here hx rfl (hb hby at_86) rfl ?_
        refine XS.iload X35.here hx rfl (hb hby at_88) rfl ?_
        exact kt
      obtain ⟨_, _, ⟨T38, L38, k38, n38⟩, -, X38, ⟨Lc38, hQ38, l38, y38, z38⟩, st38⟩ := Jvm.LawKit.callS X35 hx (y := own_m11) hown (mvT hZ (hw _ (own_i 8 rfl))) (mvT hZ (hw _ (own_i 9 rfl))) (mvT hZ (hw _ (own_i 2 rfl))) (mvT hZ (hw _ (own_i 10 rfl))) (by decide) (backOf (W := 0) (rmM1 l Z a0 hw [] w0 w1 cs fm T35.heap n0 Z37 hw0 hw1 hKs (hO.keep K35 all0)) hZ (hw _ (own_i 10 rfl)) (hw _ (own_i 2 rfl)) (by decide) (by decide)) (g := (mkF m 90 #[.val (.int va), .val (.int vb), .val (.int vc), .val (.int vd), .val (.int sh), .val (.int x0), .val (.int x1), .val (.int w0), .val (.int w1), .val (.int 1), .val (.int 1), .val (.ref r35), .unset, .unset, .unset] [(.int w1), (.int w0), (.int 1)])) rfl (by rw [hml]; rfl) (argsL := [(.int 1), (.int w0), (.int w1)]) (rest := []) (lenOf pd__28ICC_29Ljava_2flang_2fString_3b rfl) rfl (own_q rfl) (hb hby at_90) (fun _ _ => ⟨rfl, rfl, (by decide : 8 + 8 ≤ _), (by decide : 64 + 64 ≤ _)⟩)
      dsimp only [Pt.U, Pt.locs, Pt.cells, Pt.slots] at X38 l38 y38 z38 st38 hQ38
      obtain ⟨r38, rfl, N38q, K38, u38⟩ := hQ38
      have CH39 := CH36.trans (CHr.keep K38 all0 CH36.1)
      have Z40 : n0 ≤ T38.heap.size := Nat.le_trans Z37 K38.1
      have Z40h : h0.size ≤ T38.heap.size := Nat.le_trans Z37h K38.1
      obtain ⟨lc38, X38, N38⟩ := own_pack X38 l38 y38 z38 N35 N38q (C := 16) (S' := 128) rfl rfl
      refine own_thrH (a := T38.setTop (mkF m 93 #[.val (.int va), .val (.int vb), .val (.int vc), .val (.int vd), .val (.int sh), .val (.int x0), .val (.int x1), .val (.int w0), .val (.int w1), .val (.int 1), .val (.int 1), .val (.ref r35), .unset, .unset, .unset] [(.ref r38)])) (fun t kt => st38 t kt) ?_
      refine own_thrH (a := T38.setTop (mkF m 99 #[.val (.int va), .val (.int vb), .val (.int vc), .val (.int vd), .val (.int sh), .val (.int x0), .val (.int x1), .val (.int w0), .val (.int w1), .val (.int 1), .val (.int 1), .val (.ref r35), .val (.ref r38), .unset, .unset] [(.ref r38), (.ref r35)])) (fun t kt => ?_) ?_
      · refine XS.astore X38.here hx rfl (hb hby at_93) rfl rfl (l' := #[.val (.int va), .val (.int vb), .val (.int vc), .val (.int vd), .val (.int sh), .val (.int x0), .val (.int x1), .val (.int w0), .val (.int w1), .val (.int 1), .val (.int 1), .val (.ref r35), .val (.ref r38), .unset, .unset]) rfl ?_
        refine XS.aload X38.here hx rfl (hb hby at_95) rfl rfl ?_
        refine XS.aload X38.here hx rfl (hb hby at_97) rfl rfl ?_
        exact kt
      obtain ⟨_, _, ⟨T41, L41, k41, n41⟩, -, X41, ⟨Lc41, hQ41, l41, y41, z41⟩, st41⟩ := Jvm.LawKit.callS X38 hx (y := own_m25) hown (mvT hZ (hw _ (own_i 33 rfl))) (mvT hZ (hw _ (own_i 34 rfl))) (mvT hZ (hw _ (own_i 35 rfl))) (mvT hZ (hw _ (own_i 36 rfl))) (by decide) (backOf (W := 0) (rmCM11 l Z a0 hw [] r35 r38 x0 w0 cs fm T38.heap n0 Z40 hKs ((hO.keep K35 all0).keep K38 all0) (u35.keep0 K38) u38 hx0 hw0) hZ (hw _ (own_i 36 rfl)) (hw _ (own_i 35 rfl)) (by decide) (by decide)) (g := (mkF m 99 #[.val (.int va), .val (.int vb), .val (.int vc), .val (.int vd), .val (.int sh), .val (.int x0), .val (.int x1), .val (.int w0), .val (.int w1), .val (.int 1), .val (.int 1), .val (.ref r35), .val (.ref r38), .unset, .unset] [(.ref r38), (.ref r35)])) rfl (by rw [hml]; rfl) (argsL := [(.ref r35), (.ref r38)]) (rest := []) (lenOf pd__28Ljava_2flang_2fString_3bLjava_2flang_2fString_3b_29I rfl) rfl (own_q rfl) (hb hby at_99) (fun _ _ => ⟨rfl, rfl, (by decide : 16 + 0 ≤ _), (by decide : 128 + 0 ≤ _)⟩)
      dsimp only [Pt.U, Pt.locs, Pt.cells, Pt.slots] at X41 l41 y41 z41 st41 hQ41
      obtain ⟨rfl, N41q, e41⟩ := hQ41
      obtain ⟨lc41, X41, N41⟩ := own_pack X41 l41 y41 z41 N38 N41q (C := 16) (S' := 128) rfl rfl
      refine own_thrH (a := T41.setTop (mkF m 102 #[.val (.int va), .val (.int vb), .val (.int vc), .val (.int vd), .val (.int sh), .val (.int x0), .val (.int x1), .val (.int w0), .val (.int w1), .val (.int 1), .val (.int 1), .val (.ref r35), .val (.ref r38), .unset, .unset] [(.int (f_rmCM11 r35 r38 x0 w0 cs fm))])) (fun t kt => st41 t kt) ?_
      refine own_thrH (a := T41.setTop (mkF m 116 #[.val (.int va), .val (.int vb), .val (.int vc), .val (.int vd), .val (.int sh), .val (.int x0), .val (.int x1), .val (.int w0), .val (.int w1), .val (.int 1), .val (.int 1), .val (.ref r35), .val (.ref r38), .val (.int (f_rmCM11 r35 r38 x0 w0 cs fm)), .unset] [(.int w1), (.int w0), (.int 1), (.int x1), (.int x0), (.int 1)])) (fun t kt => ?_) ?_
      · refine XS.istore X41.here hx rfl (hb hby at_102) rfl (l' := #[.val (.int va), .val (.int vb), .val (.int vc), .val (.int vd), .val (.int sh), .val (.int x0), .val (.int x1), .val (.int w0), .val (.int w1), .val (.int 1), .val (.int 1), .val (.ref r35), .val (.ref r38), .val (.int (f_rmCM11 r35 r38 x0 w0 cs fm)), .unset]) rfl ?_
        refine XS.iload X41.here hx rfl (hb hby at_104) rfl ?_
        refine XS.iload X41.here hx rfl (hb hby at_106) rfl ?_
        refine XS.iload X41.here hx rfl (hb hby at_108) rfl ?_
        refine XS.iload X41.here hx rfl (hb hby at_110) rfl ?_
        refine XS.iload X41.here hx rfl (hb hby at_112) rfl ?_
        refine XS.iload X41.here hx rfl (hb hby at_114) rfl ?_
        exact kt
      obtain ⟨_, _, ⟨T42, L42, k42, n42⟩, -, X42, ⟨Lc42, hQ42, l42, y42, z42⟩, st42⟩ := Jvm.LawKit.callS X41 hx (y := own_m32) hown (mvT hZ (hw _ (own_i 52 rfl))) (mvT hZ (hw _ (own_i 53 rfl))) (mvT hZ (hw _ (own_i 2 rfl))) (mvT hZ (hw _ (own_i 54 rfl))) (by decide) (backOf (W := 0) (rmRF l Z a0 hw [] (1 : Int32) x0 x1 (1 : Int32) w0 w1 T38.heap n0 Z40) hZ (hw _ (own_i 54 rfl)) (hw _ (own_i 2 rfl)) (by decide) (by decide)) (g := (mkF m 116 #[.val (.int va), .val (.int vb), .val (.int vc), .val (.int vd), .val (.int sh), .val (.int x0), .val (.int x1), .val (.int w0), .val (.int w1), .val (.int 1), .val (.int 1), .val (.ref r35), .val (.ref r38), .val (.int (f_rmCM11 r35 r38 x0 w0 cs fm)), .unset] [(.int w1), (.int w0), (.int 1), (.int x1), (.int x0), (.int 1)])) rfl (by rw [hml]; rfl) (argsL := [(.int 1), (.int x0), (.int x1), (.int 1), (.int w0), (.int w1)]) (rest := []) (lenOf pd__28ICCICC_29I rfl) rfl (own_q rfl) (hb hby at_116) (fun _ _ => ⟨rfl, e41, (by decide : 16 + 0 ≤ _), (by decide : 128 + 0 ≤ _)⟩)
      dsimp only [Pt.U, Pt.locs, Pt.cells, Pt.slots] at X42 l42 y42 z42 st42 hQ42
      obtain ⟨rfl, N42q, e42⟩ := hQ42
      obtain ⟨lc42, X42, N42⟩ := own_pack X42 l42 y42 z42 N41 N42q (C := 16) (S' := 128) rfl rfl
      refine own_thrH (a := T42.setTop (mkF m 119 #[.val (.int va), .val (.int vb), .val (.int vc), .val (.int vd), .val (.int sh), .val (.int x0), .val (.int x1), .val (.int w0), .val (.int w1), .val (.int 1), .val (.int 1), .val (.ref r35), .val (.ref r38), .val (.int (f_rmCM11 r35 r38 x0 w0 cs fm)), .unset] [(.int (f_rmRF (1 : Int32) x0 x1 (1 : Int32) w0 w1))])) (fun t kt => st42 t kt) ?_
      refine own_thrH (a := T42.setTop (mkF m 123 #[.val (.int va), .val (.int vb), .val (.int vc), .val (.int vd), .val (.int sh), .val (.int x0), .val (.int x1), .val (.int w0), .val (.int w1), .val (.int 1), .val (.int 1), .val (.ref r35), .val (.ref r38), .val (.int (f_rmCM11 r35 r38 x0 w0 cs fm)), .val (.int (f_rmRF (1 : Int32) x0 x1 (1 : Int32) w0 w1))] [(.int (f_rmCM11 r35 r38 x0 w0 cs fm))])) (fun t kt => ?_) ?_
      · refine XS.istore X42.here hx rfl (hb hby at_119) rfl (l' := #[.val (.int va), .val (.int vb), .val (.int vc), .val (.int vd), .val (.int sh), .val (.int x0), .val (.int x1), .val (.int w0), .val (.int w1), .val (.int 1), .val (.int 1), .val (.ref r35), .val (.ref r38), .val (.int (f_rmCM11 r35 r38 x0 w0 cs fm)), .val (.int (f_rmRF (1 : Int32) x0 x1 (1 : Int32) w0 w1))]) rfl ?_
        refine XS.iload X42.here hx rfl (hb hby at_121) rfl ?_
        exact kt
      obtain ⟨_, _, ⟨T43, L43, k43, n43⟩, -, X43, ⟨Lc43, hQ43, l43, y43, z43⟩, st43⟩ := Jvm.LawKit.callS X42 hx (y := own_m31) hown (mvT hZ (hw _ (own_i 58 rfl))) (mvT hZ (hw _ (own_i 59 rfl))) (mvT hZ (hw _ (own_i 2 rfl))) (mvT hZ (hw _ (own_i 60 rfl))) (by decide) (backOf (W := 0) (rmSG l Z a0 hw [] (f_rmCM11 r35 r38 x0 w0 cs fm) T38.heap n0 Z40) hZ (hw _ (own_i 60 rfl)) (hw _ (own_i 2 rfl)) (by decide) (by decide)) (g := (mkF m 123 #[.val (.int va), .val (.int vb), .val (.int vc), .val (.int vd), .val (.int sh), .val (.int x0), .val (.int x1), .val (.int w0), .val (.int w1), .val (.int 1), .val (.int 1), .val (.ref r35), .val (.ref r38), .val (.int (f_rmCM11 r35 r38 x0 w0 cs fm)), .val (.int (f_rmRF (1 : Int32) x0 x1 (1 : Int32) w0 w1))] [(.int (f_rmCM11 r35 r38 x0 w0 cs fm))])) rfl (by rw [hml]; rfl) (argsL := [(.int (f_rmCM11 r35 r38 x0 w0 cs fm))]) (rest := []) (lenOf pd__28I_29I rfl) rfl (own_q rfl) (hb hby at_123) (fun _ _ => ⟨rfl, e42, (by decide : 16 + 0 ≤ _), (by decide : 128 + 0 ≤ _)⟩)
      dsimp only [Pt.U, Pt.locs, Pt.cells, Pt.slots] at X43 l43 y43 z43 st43 hQ43
      obtain ⟨rfl, N43q, e43⟩ := hQ43
      obtain ⟨lc43, X43, N43⟩ := own_pack X43 l43 y43 z43 N42 N43q (C := 16) (S' := 128) rfl rfl
      refine own_thrH (a := T43.setTop (mkF m 126 #[.val (.int va), .val (.int vb), .val (.int vc), .val (.int vd), .val (.int sh), .val (.int x0), .val (.int x1), .val (.int w0), .val (.int w1), .val (.int 1), .val (.int 1), .val (.ref r35), .val (.ref r38), .val (.int (f_rmCM11 r35 r38 x0 w0 cs fm)), .val (.int (f_rmRF (1 : Int32) x0 x1 (1 : Int32) w0 w1))] [(.int (f_rmSG (f_rmCM11 r35 r38 x0 w0 cs fm)))])) (fun t kt => st43 t kt) ?_
      refine own_thrH (a := T43.setTop (mkF m 136 #[.val (.int va), .val (.int vb), .val (.int vc), .val (.int vd), .val (.int sh), .val (.int x0), .val (.int x1), .val (.int w0), .val (.int w1), .val (.int 1), .val (.int 1), .val (.ref r35), .val (.ref r38), .val (.int (f_rmCM11 r35 r38 x0 w0 cs fm)), .val (.int (f_rmRF (1 : Int32) x0 x1 (1 : Int32) w0 w1))] [(.int 1)])) (fun t kt => ?_) ?_
      · refine XS.iload X43.here hx rfl (hb hby at_126) rfl ?_
        refine XS.icmpNo X43.here hx rfl (hb hby at_128) rfl (teq (own_fin11 _ _ _ _ _ _ _ _ hx0 hw0)).2 ?_
        refine XS.iconst X43.here hx rfl (hb hby at_131) ?_
        refine XS.goto X43.here hx rfl (pc0 := 132) (pc' := 136) rfl (hb hby at_132) (by decide) (by decide) ?_
        exact kt
      exact own_endH X43 hS0 (by rw [e43]; exact (Nat.zero_le _)) hZ hEL CH39 hh e43 hlk (v := some (.int 1)) (fun h => by rw [Bd.returns] at h; cases h) (fun fs hr => retN X43 hx (t := .boolean) Bd.returns (by simp) (hb hby at_136) hr) ⟨rfl, N43⟩ (by decide : 16 ≤ _) (by decide : 128 ≤ _)
    · subst ha hb'
      refine own_thrH (a := Tj3.setTop (mkF m 79 #[.val (.int va), .val (.int vb), .val (.int vc), .val (.int vd), .val (.int sh), .val (.int x0), .val (.int x1), .val (.int w0), .val (.int w1), .val (.int 1), .val (.int 2), .unset, .unset, .unset, .unset] [(.int x1), (.int x0), (.int 1)])) (fun t kt => ?_) ?_
      · refine XS.iload Xj3.here hx rfl (hb hby at_73) rfl ?_
        refine XS.iload Xj3.here hx rfl (hb hby at_75) rfl ?_
        refine XS.iload Xj3.here hx rfl (hb hby at_77) rfl ?_
        exact kt
      obtain ⟨_, _, ⟨T44, L44, k44, n44⟩, -, X44, ⟨Lc44, hQ44, l44, y44, z44⟩, st44⟩ := Jvm.LawKit.callS Xj3 hx (y := own_m11) hown (mvT hZ (hw _ (own_i 8 rfl))) (mvT hZ (hw _ (own_i 9 rfl))) (mvT hZ (hw _ (own_i 2 rfl))) (mvT hZ (hw _ (own_i 10 rfl))) (by decide) (backOf (W := 0) (rmM1 l Z a0 hw [] x0 x1 cs fm h0 n0 Z0 hx0 hx1 hKs hO) hZ (hw _ (own_i 10 rfl)) (hw _ (own_i 2 rfl)) (by decide) (by decide)) (g := (mkF m 79 #[.val (.int va), .val (.int vb), .val (.int vc), .val (.int vd), .val (.int sh), .val (.int x0), .val (.int x1), .val (.int w0), .val (.int w1), .val (.int 1), .val (.int 2), .unset, .unset, .unset, .unset] [(.int x1), (.int x0), (.int 1)])) rfl (by rw [hml]; rfl) (argsL := [(.int 1), (.int x0), (.int x1)]) (rest := []) (lenOf pd__28ICC_29Ljava_2flang_2fString_3b rfl) rfl (own_q rfl) (hb hby at_79) (fun _ _ => ⟨rfl, ej3, (by decide : 0 + 8 ≤ _), (by decide : 0 + 64 ≤ _)⟩)
      dsimp only [Pt.U, Pt.locs, Pt.cells, Pt.slots] at X44 l44 y44 z44 st44 hQ44
      obtain ⟨r44, rfl, N44q, K44, u44⟩ := hQ44
      have CH45 := CH0.trans (CHr.keep K44 all0 CH0.1)
      have Z46 : n0 ≤ T44.heap.size := Nat.le_trans Z0 K44.1
      have Z46h : h0.size ≤ T44.heap.size := Nat.le_trans (Nat.le_refl h0.size) K44.1
      obtain ⟨lc44, X44, N44⟩ := own_pack X44 l44 y44 z44 Nj3 N44q (C := 8) (S' := 64) rfl rfl
      refine own_thrH (a := T44.setTop (mkF m 82 #[.val (.int va), .val (.int vb), .val (.int vc), .val (.int vd), .val (.int sh), .val (.int x0), .val (.int x1), .val (.int w0), .val (.int w1), .val (.int 1), .val (.int 2), .unset, .unset, .unset, .unset] [(.ref r44)])) (fun t kt => st44 t kt) ?_
      refine own_thrH (a := T44.setTop (mkF m 90 #[.val (.int va), .val (.int vb), .val (.int vc), .val (.int vd), .val (.int sh), .val (.int x0), .val (.int x1), .val (.int w0), .val (.int w1), .val (.int 1), .val (.int 2), .val (.ref r44), .unset, .unset, .unset] [(.int w1), (.int w0), (.int 2)])) (fun t kt => ?_) ?_
      · refine XS.astore X44.here hx rfl (hb hby at_82) rfl rfl (l' := #[.val (.int va), .val (.int vb), .val (.int vc), .val (.int vd), .val (.int sh), .val (.int x0), .val (.int x1), .val (.int w0), .val (.int w1), .val (.int 1), .val (.int 2), .val (.ref r44), .unset, .unset, .unset]) rfl ?_
        refine XS.iload X44.here hx rfl (hb hby at_84) rfl ?_
        refine XS.iload X44.here hx rfl (hb hby at_86) rfl ?_
        refine XS.iload X44.here hx rfl (hb hby at_88) rfl ?_
        exact kt
      obtain ⟨_, _, ⟨T47, L47, k47, n47⟩, -, X47, ⟨Lc47, hQ47, l47, y47, z47⟩, st47⟩ := Jvm.LawKit.callS X44 hx (y := own_m11) hown (mvT hZ (hw _ (own_i 8 rfl))) (mvT hZ (hw _ (own_i 9 rfl))) (mvT hZ (hw _ (own_i 2 rfl))) (mvT hZ (hw _ (own_i 10 rfl))) (by decide) (backOf (W := 0) (rmM2 l Z a0 hw [] w0 w1 cs fm T44.heap n0 Z46 hw0 hw1 hKs (hO.keep K44 all0)) hZ (hw _ (own_i 10 rfl)) (hw _ (own_i 2 rfl)) (by decide) (by decide)) (g := (mkF m 90 #[.val (.int va), .val (.int vb), .val (.int vc), .val (.int vd), .val (.int sh), .val (.int x0), .val (.int x1), .val (.int w0), .val (.int w1), .val (.int 1), .val (.int 2), .val (.ref r44), .unset, .unset, .unset] [(.int w1), (.int w0), (.int 2)])) rfl (by rw [hml]; rfl) (argsL := [(.int 2), (.int w0), (.int w1)]) (rest := []) (lenOf pd__28ICC_29Ljava_2flang_2fString_3b rfl) rfl (own_q rfl) (hb hby at_90) (fun _ _ => ⟨rfl, rfl, (by decide : 8 + 8 ≤ _), (by decide : 64 + 64 ≤ _)⟩)
      dsimp only [Pt.U, Pt.locs, Pt.cells, Pt.slots] at X47 l47 y47 z47 st47 hQ47
      obtain ⟨r47, rfl, N47q, K47, u47⟩ := hQ47
      have CH48 := CH45.trans (CHr.keep K47 all0 CH45.1)
      have Z49 : n0 ≤ T47.heap.size := Nat.le_trans Z46 K47.1
      have Z49h : h0.size ≤ T47.heap.size := Nat.le_trans Z46h K47.1
      obtain ⟨lc47, X47, N47⟩ := own_pack X47 l47 y47 z47 N44 N47q (C := 16) (S' := 128) rfl rfl
      refine own_thrH (a := T47.setTop (mkF m 93 #[.val (.int va), .val (.int vb), .val (.int vc), .val (.int vd), .val (.int sh), .val (.int x0), .val (.int x1), .val (.int w0), .val (.int w1), .val (.int 1), .val (.int 2), .val (.ref r44), .unset, .unset, .unset] [(.ref r47)])) (fun t kt => st47 t kt) ?_
      refine own_thrH (a := T47.setTop (mkF m 99 #[.val (.int va), .val (.int vb), .val (.int vc), .val (.int vd), .val (.int sh), .val (.int x0), .val (.int x1), .val (.int w0), .val (.int w1), .val (.int 1), .val (.int 2), .val (.ref r44), .val (.ref r47), .unset, .unset] [(.ref r47), (.ref r44)])) (fun t kt => ?_) ?_
      · refine XS.astore X47.here hx rfl (hb hby at_93) rfl rfl (l' := #[.val (.int va), .val (.int vb), .val (.int vc), .val (.int vd), .val (.int sh), .val (.int x0), .val (.int x1), .val (.int w0), .val (.int w1), .val (.int 1), .val (.int 2), .val (.ref r44), .val (.ref r47), .unset, .unset]) rfl ?_
        refine XS.aload X47.here hx rfl (hb hby at_95) rfl rfl ?_
        refine XS.aload X47.here hx rfl (hb hby at_97) rfl rfl ?_
        exact kt
      obtain ⟨_, _, ⟨T50, L50, k50, n50⟩, -, X50, ⟨Lc50, hQ50, l50, y50, z50⟩, st50⟩ := Jvm.LawKit.callS X47 hx (y := own_m25) hown (mvT hZ (hw _ (own_i 33 rfl))) (mvT hZ (hw _ (own_i 34 rfl))) (mvT hZ (hw _ (own_i 35 rfl))) (mvT hZ (hw _ (own_i 36 rfl))) (by decide) (backOf (W := 0) (rmCM12 l Z a0 hw [] r44 r47 x0 w0 w1 cs fm T47.heap n0 Z49 hKs ((hO.keep K44 all0).keep K47 all0) (u44.keep0 K47) u47 hx0 hw0 hw1) hZ (hw _ (own_i 36 rfl)) (hw _ (own_i 35 rfl)) (by decide) (by decide)) (g := (mkF m 99 #[.val (.int va), .val (.int vb), .val (.int vc), .val (.int vd), .val (.int sh), .val (.int x0), .val (.int x1), .val (.int w0), .val (.int w1), .val (.int 1), .val (.int 2), .val (.ref r44), .val (.ref r47), .unset, .unset] [(.ref r47), (.ref r44)])) rfl (by rw [hml]; rfl) (argsL := [(.ref r44), (.ref r47)]) (rest := []) (lenOf pd__28Ljava_2flang_2fString_3bLjava_2flang_2fString_3b_29I rfl) rfl (own_q rfl) (hb hby at_99) (fun _ _ => ⟨rfl, rfl, (by decide : 16 + 0 ≤ _), (by decide : 128 + 0 ≤ _)⟩)
      dsimp only [Pt.U, Pt.locs, Pt.cells, Pt.slots] at X50 l50 y50 z50 st50 hQ50
      obtain ⟨rfl, N50q, e50⟩ := hQ50
      obtain ⟨lc50, X50, N50⟩ := own_pack X50 l50 y50 z50 N47 N50q (C := 16) (S' := 128) rfl rfl
      refine own_thrH (a := T50.setTop (mkF m 102 #[.val (.int va), .val (.int vb), .val (.int vc), .val (.int vd), .val (.int sh), .val (.int x0), .val (.int x1), .val (.int w0), .val (.int w1), .val (.int 1), .val (.int 2), .val (.ref r44), .val (.ref r47), .unset, .unset] [(.int (f_rmCM12 r44 r47 x0 w0 w1 cs fm))])) (fun t kt => st50 t kt) ?_
      refine own_thrH (a := T50.setTop (mkF m 116 #[.val (.int va), .val (.int vb), .val (.int vc), .val (.int vd), .val (.int sh), .val (.int x0), .val (.int x1), .val (.int w0), .val (.int w1), .val (.int 1), .val (.int 2), .val (.ref r44), .val (.ref r47), .val (.int (f_rmCM12 r44 r47 x0 w0 w1 cs fm)), .unset] [(.int w1), (.int w0), (.int 2), (.int x1), (.int x0), (.int 1)])) (fun t kt => ?_) ?_
      · refine XS.istore X50.here hx rfl (hb hby at_102) rfl (l' := #[.val (.int va), .val (.int vb), .val (.int vc), .val (.int vd), .val (.int sh), .val (.int x0), .val (.int x1), .val (.int w0), .val (.int w1), .val (.int 1), .val (.int 2), .val (.ref r44), .val (.ref r47), .val (.int (f_rmCM12 r44 r47 x0 w0 w1 cs fm)), .unset]) rfl ?_
        refine XS.iload X50.here hx rfl (hb hby at_104) rfl ?_
        refine XS.iload X50.here hx rfl (hb hby at_106) rfl ?_
        refine XS.iload X50.here hx rfl (hb hby at_108) rfl ?_
        refine XS.iload X50.here hx rfl (hb hby at_110) rfl ?_
        refine XS.iload X50.here hx rfl (hb hby at_112) rfl ?_
        refine XS.iload X50.here hx rfl (hb hby at_114) rfl ?_
        exact kt
      obtain ⟨_, _, ⟨T51, L51, k51, n51⟩, -, X51, ⟨Lc51, hQ51, l51, y51, z51⟩, st51⟩ := Jvm.LawKit.callS X50 hx (y := own_m32) hown (mvT hZ (hw _ (own_i 52 rfl))) (mvT hZ (hw _ (own_i 53 rfl))) (mvT hZ (hw _ (own_i 2 rfl))) (mvT hZ (hw _ (own_i 54 rfl))) (by decide) (backOf (W := 0) (rmRF l Z a0 hw [] (1 : Int32) x0 x1 (2 : Int32) w0 w1 T47.heap n0 Z49) hZ (hw _ (own_i 54 rfl)) (hw _ (own_i 2 rfl)) (by decide) (by decide)) (g := (mkF m 116 #[.val (.int va), .val (.int vb), .val (.int vc), .val (.int vd), .val (.int sh), .val (.int x0), .val (.int x1), .val (.int w0), .val (.int w1), .val (.int 1), .val (.int 2), .val (.ref r44), .val (.ref r47), .val (.int (f_rmCM12 r44 r47 x0 w0 w1 cs fm)), .unset] [(.int w1), (.int w0), (.int 2), (.int x1), (.int x0), (.int 1)])) rfl (by rw [hml]; rfl) (argsL := [(.int 1), (.int x0), (.int x1), (.int 2), (.int w0), (.int w1)]) (rest := []) (lenOf pd__28ICCICC_29I rfl) rfl (own_q rfl) (hb hby at_116) (fun _ _ => ⟨rfl, e50, (by decide : 16 + 0 ≤ _), (by decide : 128 + 0 ≤ _)⟩)
      dsimp only [Pt.U, Pt.locs, Pt.cells, Pt.slots] at X51 l51 y51 z51 st51 hQ51
      obtain ⟨rfl, N51q, e51⟩ := hQ51
      obtain ⟨lc51, X51, N51⟩ := own_pack X51 l51 y51 z51 N50 N51q (C := 16) (S' := 128) rfl rfl
      refine own_thrH (a := T51.setTop (mkF m 119 #[.val (.int va), .val (.int vb), .val (.int vc), .val (.int vd), .val (.int sh), .val (.int x0), .val (.int x1), .val (.int w0), .val (.int w1), .val (.int 1), .val (.int 2), .val (.ref r44), .val (.ref r47), .val (.int (f_rmCM12 r44 r47 x0 w0 w1 cs fm)), .unset] [(.int (f_rmRF (1 : Int32) x0 x1 (2 : Int32) w0 w1))])) (fun t kt => st51 t kt) ?_
      refine own_thrH (a := T51.setTop (mkF m 123 #[.val (.int va), .val (.int vb), .val (.int vc), .val (.int vd), .val (.int sh), .val (.int x0), .val (.int x1), .val (.int w0), .val (.int w1), .val (.int 1), .val (.int 2), .val (.ref r44), .val (.ref r47), .val (.int (f_rmCM12 r44 r47 x0 w0 w1 cs fm)), .val (.int (f_rmRF (1 : Int32) x0 x1 (2 : Int32) w0 w1))] [(.int (f_rmCM12 r44 r47 x0 w0 w1 cs fm))])) (fun t kt => ?_) ?_
      · refine XS.istore X51.here hx rfl (hb hby at_119) rfl (l' := #[.val (.int va), .val (.int vb), .val (.int vc), .val (.int vd), .val (.int sh), .val (.int x0), .val (.int x1), .val (.int w0), .val (.int w1), .val (.int 1), .val (.int 2), .val (.ref r44), .val (.ref r47), .val (.int (f_rmCM12 r44 r47 x0 w0 w1 cs fm)), .val (.int (f_rmRF (1 : Int32) x0 x1 (2 : Int32) w0 w1))]) rfl ?_
        refine XS.iload X51.here hx rfl (hb hby at_121) rfl ?_
        exact kt
      obtain ⟨_, _, ⟨T52, L52, k52, n52⟩, -, X52, ⟨Lc52, hQ52, l52, y52, z52⟩, st52⟩ := Jvm.LawKit.callS X51 hx (y := own_m31) hown (mvT hZ (hw _ (own_i 58 rfl))) (mvT hZ (hw _ (own_i 59 rfl))) (mvT hZ (hw _ (own_i 2 rfl))) (mvT hZ (hw _ (own_i 60 rfl))) (by decide) (backOf (W := 0) (rmSG l Z a0 hw [] (f_rmCM12 r44 r47 x0 w0 w1 cs fm) T47.heap n0 Z49) hZ (hw _ (own_i 60 rfl)) (hw _ (own_i 2 rfl)) (by decide) (by decide)) (g := (mkF m 123 #[.val (.int va), .val (.int vb), .val (.int vc), .val (.int vd), .val (.int sh), .val (.int x0), .val (.int x1), .val (.int w0), .val (.int w1), .val (.int 1), .val (.int 2), .val (.ref r44), .val (.ref r47), .val (.int (f_rmCM12 r44 r47 x0 w0 w1 cs fm)), .val (.int (f_rmRF (1 : Int32) x0 x1 (2 : Int32) w0 w1))] [(.int (f_rmCM12 r44 r47 x0 w0 w1 cs fm))])) rfl (by rw [hml]; rfl) (argsL := [(.int (f_rmCM12 r44 r47 x0 w0 w1 cs fm))]) (rest := []) (lenOf pd__28I_29I rfl) rfl (own_q rfl) (hb hby at_123) (fun _ _ => ⟨rfl, e51, (by decide : 16 + 0 ≤ _), (by decide : 128 + 0 ≤ _)⟩)
      dsimp only [Pt.U, Pt.locs, Pt.cells, Pt.slots] at X52 l52 y52 z52 st52 hQ52
      obtain ⟨rfl, N52q, e52⟩ := hQ52
      obtain ⟨lc52, X52, N52⟩ := own_pack X52 l52 y52 z52 N51 N52q (C := 16) (S' := 128) rfl rfl
      refine own_thrH (a := T52.setTop (mkF m 126 #[.val (.int va), .val (.int vb), .val (.int vc), .val (.int vd), .val (.int sh), .val (.int x0), .val (.int x1), .val (.int w0), .val (.int w1), .val (.int 1), .val (.int 2), .val (.ref r44), .val (.ref r47), .val (.int (f_rmCM12 r44 r47 x0 w0 w1 cs fm)), .val (.int (f_rmRF (1 : Int32) x0 x1 (2 : Int32) w0 w1))] [(.int (f_rmSG (f_rmCM12 r44 r47 x0 w0 w1 cs fm)))])) (fun t kt => st52 t kt) ?_
      refine own_thrH (a := T52.setTop (mkF m 136 #[.val (.int va), .val (.int vb), .val (.int vc), .val (.int vd), .val (.int sh), .val (.int x0), .val (.int x1), .val (.int w0), .val (.int w1), .val (.int 1), .val (.int 2), .val (.ref r44), .val (.ref r47), .val (.int (f_rmCM12 r44 r47 x0 w0 w1 cs fm)), .val (.int (f_rmRF (1 : Int32) x0 x1 (2 : Int32) w0 w1))] [(.int 1)])) (fun t kt => ?_) ?_
      · refine XS.iload X52.here hx rfl (hb hby at_126) rfl ?_
        refine XS.icmpNo X52.here hx rfl (hb hby at_128) rfl (teq (own_fin12 _ _ _ _ _ _ _ _ hx0 hw0)).2 ?_
        refine XS.iconst X52.here hx rfl (hb hby at_131) ?_
        refine XS.goto X52.here hx rfl (pc0 := 132) (pc' := 136) rfl (hb hby at_132) (by decide) (by decide) ?_
        exact kt
      exact own_endH X52 hS0 (by rw [e52]; exact (Nat.zero_le _)) hZ hEL CH48 hh e52 hlk (v := some (.int 1)) (fun h => by rw [Bd.returns] at h; cases h) (fun fs hr => retN X52 hx (t := .boolean) Bd.returns (by simp) (hb hby at_136) hr) ⟨rfl, N52⟩ (by decide : 16 ≤ _) (by decide : 128 ≤ _)
    · subst ha hb'
      refine own_thrH (a := Tj3.setTop (mkF m 79 #[.val (.int va), .val (.int vb), .val (.int vc), .val (.int vd), .val (.int sh), .val (.int x0), .val (.int x1), .val (.int w0), .val (.int w1), .val (.int 2), .val (.int 0), .unset, .unset, .unset, .unset] [(.int x1), (.int x0), (.int 2)])) (fun t kt => ?_) ?_
      · refine XS.iload Xj3.here hx rfl (hb hby at_73) rfl ?_
        refine XS.iload Xj3.here hx rfl (hb hby at_75) rfl ?_
        refine XS.iload Xj3.here hx rfl (hb hby at_77) rfl ?_
        exact kt
      obtain ⟨_, _, ⟨T53, L53, k53, n53⟩, -, X53, ⟨Lc53, hQ53, l53, y53, z53⟩, st53⟩ := Jvm.LawKit.callS Xj3 hx (y := own_m11) hown (mvT hZ (hw _ (own_i 8 rfl))) (mvT hZ (hw _ (own_i 9 rfl))) (mvT hZ (hw _ (own_i 2 rfl))) (mvT hZ (hw _ (own_i 10 rfl))) (by decide) (backOf (W := 0) (rmM2 l Z a0 hw [] x0 x1 cs fm h0 n0 Z0 hx0 hx1 hKs hO) hZ (hw _ (own_i 10 rfl)) (hw _ (own_i 2 rfl)) (by decide) (by decide)) (g := (mkF m 79 #[.val (.int va), .val (.int vb), .val (.int vc), .val (.int vd), .val (.int sh), .val (.int x0), .val (.int x1), .val (.int w0), .val (.int w1), .val (.int 2), .val (.int 0), .unset, .unset, .unset, .unset] [(.int x1), (.int x0), (.int 2)])) rfl (by rw [hml]; rfl) (argsL := [(.int 2), (.int x0), (.int x1)]) (rest := []) (lenOf pd__28ICC_29Ljava_2flang_2fString_3b rfl) rfl (own_q rfl) (hb hby at_79) (fun _ _ => ⟨rfl, ej3, (by decide : 0 + 8 ≤ _), (by decide : 0 + 64 ≤ _)⟩)
      dsimp only [Pt.U, Pt.locs, Pt.cells, Pt.slots] at X53 l53 y53 z53 st53 hQ53
      obtain ⟨r53, rfl, N53q, K53, u53⟩ := hQ53
      have CH54 := CH0.trans (CHr.keep K53 all0 CH0.1)
      have Z55 : n0 ≤ T53.heap.size := Nat.le_trans Z0 K53.1
      have Z55h : h0.size ≤ T53.heap.size := Nat.le_trans (Nat.le_refl h0.size) K53.1
      obtain ⟨lc53, X53, N53⟩ := own_pack X53 l53 y53 z53 Nj3 N53q (C := 8) (S' := 64) rfl rfl
      refine own_thrH (a := T53.setTop (mkF m 82 #[.val (.int va), .val (.int vb), .val (.int vc), .val (.int vd), .val (.int sh), .val (.int x0), .val (.int x1), .val (.int w0), .val (.int w1), .val (.int 2), .val (.int 0), .unset, .unset, .unset, .unset] [(.ref r53)])) (fun t kt => st53 t kt) ?_
      refine own_thrH (a := T53.setTop (mkF m 90 #[.val (.int va), .val (.int vb), .val (.int vc), .val (.int vd), .val (.int sh), .val (.int x0), .val (.int x1), .val (.int w0), .val (.int w1), .val (.int 2), .val (.int 0), .val (.ref r53), .unset, .unset, .unset] [(.int w1), (.int w0), (.int 0)])) (fun t kt => ?_) ?_
      · refine XS.astore X53.here hx rfl (hb hby at_82) rfl rfl (l' := #[.val (.int va), .val (.int vb), .val (.int vc), .val (.int vd), .val (.int sh), .val (.int x0), .val (.int x1), .val (.int w0), .val (.int w1), .val (.int 2), .val (.int 0), .val (.ref r53), .unset, .unset, .unset]) rfl ?_
        refine XS.iload X53.here hx rfl (hb hby at_84) rfl ?_
        refine XS.iload X53.here hx rfl (hb hby at_86) rfl ?_
        refine XS.iload X53.here hx rfl (hb hby at_88) rfl ?_
        exact kt
      obtain ⟨_, _, ⟨T56, L56, k56, n56⟩, -, X56, hSq56, hgr56, ⟨Lc56, hQ56, l56, y56, z56, ch56⟩, st56⟩ := callSS X53 hx (y := own_m11) hown (mvT hZ (hw _ (own_i 8 rfl))) (mvT hZ (hw _ (own_i 9 rfl))) (mvT hZ (hw _ (own_i 2 rfl))) (mvT hZ (hw _ (own_i 10 rfl))) (by decide) (backOfSH (W := 0) (rmM0 l Z a0 hw [] w0 w1 T53.heap n0 Z55) hZ (hw _ (own_i 10 rfl)) (hw _ (own_i 2 rfl)) (by decide) (by decide) hEL CH54.1) (g := (mkF m 90 #[.val (.int va), .val (.int vb), .val (.int vc), .val (.int vd), .val (.int sh), .val (.int x0), .val (.int x1), .val (.int w0), .val (.int w1), .val (.int 2), .val (.int 0), .val (.ref r53), .unset, .unset, .unset] [(.int w1), (.int w0), (.int 0)])) rfl (by rw [hml]; rfl) (argsL := [(.int 0), (.int w0), (.int w1)]) (rest := []) (lenOf pd__28ICC_29Ljava_2flang_2fString_3b rfl) rfl (own_q rfl) (hb hby at_90) (fun _ _ => ⟨rfl, rfl, (by decide : 8 + 6 ≤ _), (by decide : 64 + 12 ≤ _)⟩)
      dsimp only [Pt.U, Pt.locs, Pt.cells, Pt.slots] at X56 l56 y56 z56 st56 hQ56 hSq56 hgr56 ch56
      have hS56 := hS0.trans hSq56 (Nat.le_trans (Nat.zero_le _) hgr56)
      have hZ56 : Z.Warmed39 (s.setVm T56.vm).vm := State.Warmed39.trans (t := s.setVm s.vm) hZ hSq56.1
      have hown56 : (s.setVm T56.vm).vm.findClass "com/example/tiphys/tiphys/CodePointOrderComparePinLaw" = some m.cls := by rw [show (s.setVm T56.vm).vm = T56.vm from rfl, hSq56.1.alike.findClass]; exact hown
      have X56 : Stand p l e _ (s.setVm T56.vm) m _ below meth c T56 _ _ _ := X56
      obtain ⟨r56, rfl, N56q, K56, u56⟩ := hQ56
      have Z57 : n0 ≤ T56.heap.size := Nat.le_trans Z55 K56.1
      have Z57h : h0.size ≤ T56.heap.size := Nat.le_trans Z55h K56.1
      have CHc56 := CH54.trans ch56
      obtain ⟨lc56, X56, N56⟩ := own_pack X56 l56 y56 z56 N53 N56q (C := 14) (S' := 76) rfl rfl
      refine own_thrH (a := T56.setTop (mkF m 93 #[.val (.int va), .val (.int vb), .val (.int vc), .val (.int vd), .val (.int sh), .val (.int x0), .val (.int x1), .val (.int w0), .val (.int w1), .val (.int 2), .val (.int 0), .val (.ref r53), .unset, .unset, .unset] [(.ref r56)])) (fun t kt => st56.trans kt) ?_
      refine own_thrH (a := T56.setTop (mkF m 99 #[.val (.int va), .val (.int vb), .val (.int vc), .val (.int vd), .val (.int sh), .val (.int x0), .val (.int x1), .val (.int w0), .val (.int w1), .val (.int 2), .val (.int 0), .val (.ref r53), .val (.ref r56), .unset, .unset] [(.ref r56), (.ref r53)])) (fun t kt => ?_) ?_
      · refine XS.astore X56.here hx rfl (hb hby at_93) rfl rfl (l' := #[.val (.int va), .val (.int vb), .val (.int vc), .val (.int vd), .val (.int sh), .val (.int x0), .val (.int x1), .val (.int w0), .val (.int w1), .val (.int 2), .val (.int 0), .val (.ref r53), .val (.ref r56), .unset, .unset]) rfl ?_
        refine XS.aload X56.here hx rfl (hb hby at_95) rfl rfl ?_
        refine XS.aload X56.here hx rfl (hb hby at_97) rfl rfl ?_
        exact kt
      obtain ⟨_, _, ⟨T58, L58, k58, n58⟩, -, X58, ⟨Lc58, hQ58, l58, y58, z58⟩, st58⟩ := Jvm.LawKit.callS X56 hx (y := own_m25) hown56 (mvT hZ56 (hw _ (own_i 33 rfl))) (mvT hZ56 (hw _ (own_i 34 rfl))) (mvT hZ56 (hw _ (own_i 35 rfl))) (mvT hZ56 (hw _ (own_i 36 rfl))) (by decide) (backOf (W := 0) (rmCM20 l Z a0 hw [] r53 r56 x0 x1 cs fm T56.heap n0 Z57 hKs ((hO.keep K53 all0).keep K56 all0) (u53.keep0 K56) u56 hx0 hx1) hZ56 (hw _ (own_i 36 rfl)) (hw _ (own_i 35 rfl)) (by decide) (by decide)) (g := (mkF m 99 #[.val (.int va), .val (.int vb), .val (.int vc), .val (.int vd), .val (.int sh), .val (.int x0), .val (.int x1), .val (.int w0), .val (.int w1), .val (.int 2), .val (.int 0), .val (.ref r53), .val (.ref r56), .unset, .unset] [(.ref r56), (.ref r53)])) rfl (by rw [hml]; rfl) (argsL := [(.ref r53), (.ref r56)]) (rest := []) (lenOf pd__28Ljava_2flang_2fString_3bLjava_2flang_2fString_3b_29I rfl) rfl (own_q rfl) (hb hby at_99) (fun _ _ => ⟨rfl, rfl, (by decide : 14 + 0 ≤ _), (by decide : 76 + 0 ≤ _)⟩)
      dsimp only [Pt.U, Pt.locs, Pt.cells, Pt.slots] at X58 l58 y58 z58 st58 hQ58
      obtain ⟨rfl, N58q, e58⟩ := hQ58
      obtain ⟨lc58, X58, N58⟩ := own_pack X58 l58 y58 z58 N56 N58q (C := 14) (S' := 76) rfl rfl
      refine own_thrH (a := T58.setTop (mkF m 102 #[.val (.int va), .val (.int vb), .val (.int vc), .val (.int vd), .val (.int sh), .val (.int x0), .val (.int x1), .val (.int w0), .val (.int w1), .val (.int 2), .val (.int 0), .val (.ref r53), .val (.ref r56), .unset, .unset] [(.int (f_rmCM20 r53 r56 x0 x1 cs fm))])) (fun t kt => st58 t kt) ?_
      refine own_thrH (a := T58.setTop (mkF m 116 #[.val (.int va), .val (.int vb), .val (.int vc), .val (.int vd), .val (.int sh), .val (.int x0), .val (.int x1), .val (.int w0), .val (.int w1), .val (.int 2), .val (.int 0), .val (.ref r53), .val (.ref r56), .val (.int (f_rmCM20 r53 r56 x0 x1 cs fm)), .unset] [(.int w1), (.int w0), (.int 0), (.int x1), (.int x0), (.int 2)])) (fun t kt => ?_) ?_
      · refine XS.istore X58.here hx rfl (hb hby at_102) rfl (l' := #[.val (.int va), .val (.int vb), .val (.int vc), .val (.int vd), .val (.int sh), .val (.int x0), .val (.int x1), .val (.int w0), .val (.int w1), .val (.int 2), .val (.int 0), .val (.ref r53), .val (.ref r56), .val (.int (f_rmCM20 r53 r56 x0 x1 cs fm)), .unset]) rfl ?_
        refine XS.iload X58.here hx rfl (hb hby at_104) rfl ?_
        refine XS.iload X58.here hx rfl (hb hby at_106) rfl ?_
        refine XS.iload X58.here hx rfl (hb hby at_108) rfl ?_
        refine XS.iload X58.here hx rfl (hb hby at_110) rfl ?_
        refine XS.iload X58.here hx rfl (hb hby at_112) rfl ?_
        refine XS.iload X58.here hx rfl (hb hby at_114) rfl ?_
        exact kt
      obtain ⟨_, _, ⟨T59, L59, k59, n59⟩, -, X59, ⟨Lc59, hQ59, l59, y59, z59⟩, st59⟩ := Jvm.LawKit.callS X58 hx (y := own_m32) hown56 (mvT hZ56 (hw _ (own_i 52 rfl))) (mvT hZ56 (hw _ (own_i 53 rfl))) (mvT hZ56 (hw _ (own_i 2 rfl))) (mvT hZ56 (hw _ (own_i 54 rfl))) (by decide) (backOf (W := 0) (rmRF l Z a0 hw [] (2 : Int32) x0 x1 (0 : Int32) w0 w1 T56.heap n0 Z57) hZ56 (hw _ (own_i 54 rfl)) (hw _ (own_i 2 rfl)) (by decide) (by decide)) (g := (mkF m 116 #[.val (.int va), .val (.int vb), .val (.int vc), .val (.int vd), .val (.int sh), .val (.int x0), .val (.int x1), .val (.int w0), .val (.int w1), .val (.int 2), .val (.int 0), .val (.ref r53), .val (.ref r56), .val (.int (f_rmCM20 r53 r56 x0 x1 cs fm)), .unset] [(.int w1), (.int w0), (.int 0), (.int x1), (.int x0), (.int 2)])) rfl (by rw [hml]; rfl) (argsL := [(.int 2), (.int x0), (.int x1), (.int 0), (.int w0), (.int w1)]) (rest := []) (lenOf pd__28ICCICC_29I rfl) rfl (own_q rfl) (hb hby at_116) (fun _ _ => ⟨rfl, e58, (by decide : 14 + 0 ≤ _), (by decide : 76 + 0 ≤ _)⟩)
      dsimp only [Pt.U, Pt.locs, Pt.cells, Pt.slots] at X59 l59 y59 z59 st59 hQ59
      obtain ⟨rfl, N59q, e59⟩ := hQ59
      obtain ⟨lc59, X59, N59⟩ := own_pack X59 l59 y59 z59 N58 N59q (C := 14) (S' := 76) rfl rfl
      refine own_thrH (a := T59.setTop (mkF m 119 #[.val (.int va), .val (.int vb), .val (.int vc), .val (.int vd), .val (.int sh), .val (.int x0), .val (.int x1), .val (.int w0), .val (.int w1), .val (.int 2), .val (.int 0), .val (.ref r53), .val (.ref r56), .val (.int (f_rmCM20 r53 r56 x0 x1 cs fm)), .unset] [(.int (f_rmRF (2 : Int32) x0 x1 (0 : Int32) w0 w1))])) (fun t kt => st59 t kt) ?_
      refine own_thrH (a := T59.setTop (mkF m 123 #[.val (.int va), .val (.int vb), .val (.int vc), .val (.int vd), .val (.int sh), .val (.int x0), .val (.int x1), .val (.int w0), .val (.int w1), .val (.int 2), .val (.int 0), .val (.ref r53), .val (.ref r56), .val (.int (f_rmCM20 r53 r56 x0 x1 cs fm)), .val (.int (f_rmRF (2 : Int32) x0 x1 (0 : Int32) w0 w1))] [(.int (f_rmCM20 r53 r56 x0 x1 cs fm))])) (fun t kt => ?_) ?_
      · refine XS.istore X59.here hx rfl (hb hby at_119) rfl (l' := #[.val (.int va), .val (.int vb), .val (.int vc), .val (.int vd), .val (.int sh), .val (.int x0), .val (.int x1), .val (.int w0), .val (.int w1), .val (.int 2), .val (.int 0), .val (.ref r53), .val (.ref r56), .val (.int (f_rmCM20 r53 r56 x0 x1 cs fm)), .val (.int (f_rmRF (2 : Int32) x0 x1 (0 : Int32) w0 w1))]) rfl ?_
        refine XS.iload X59.here hx rfl (hb hby at_121) rfl ?_
        exact kt
      obtain ⟨_, _, ⟨T60, L60, k60, n60⟩, -, X60, ⟨Lc60, hQ60, l60, y60, z60⟩, st60⟩ := Jvm.LawKit.callS X59 hx (y := own_m31) hown56 (mvT hZ56 (hw _ (own_i 58 rfl))) (mvT hZ56 (hw _ (own_i 59 rfl))) (mvT hZ56 (hw _ (own_i 2 rfl))) (mvT hZ56 (hw _ (own_i 60 rfl))) (by decide) (backOf (W := 0) (rmSG l Z a0 hw [] (f_rmCM20 r53 r56 x0 x1 cs fm) T56.heap n0 Z57) hZ56 (hw _ (own_i 60 rfl)) (hw _ (own_i 2 rfl)) (by decide) (by decide)) (g := (mkF m 123 #[.val (.int va), .val (.int vb), .val (.int vc), .val (.int vd), .val (.int sh), .val (.int x0), .val (.int x1), .val (.int w0), .val (.int w1), .val (.int 2), .val (.int 0), .val (.ref r53), .val (.ref r56), .val (.int (f_rmCM20 r53 r56 x0 x1 cs fm)), .val (.int (f_rmRF (2 : Int32) x0 x1 (0 : Int32) w0 w1))] [(.int (f_rmCM20 r53 r56 x0 x1 cs fm))])) rfl (by rw [hml]; rfl) (argsL := [(.int (f_rmCM20 r53 r56 x0 x1 cs fm))]) (rest := []) (lenOf pd__28I_29I rfl) rfl (own_q rfl) (hb hby at_123) (fun _ _ => ⟨rfl, e59, (by decide : 14 + 0 ≤ _), (by decide : 76 + 0 ≤ _)⟩)
      dsimp only [Pt.U, Pt.locs, Pt.cells, Pt.slots] at X60 l60 y60 z60 st60 hQ60
      obtain ⟨rfl, N60q, e60⟩ := hQ60
      obtain ⟨lc60, X60, N60⟩ := own_pack X60 l60 y60 z60 N59 N60q (C := 14) (S' := 76) rfl rfl
      refine own_thrH (a := T60.setTop (mkF m 126 #[.val (.int va), .val (.int vb), .val (.int vc), .val (.int vd), .val (.int sh), .val (.int x0), .val (.int x1), .val (.int w0), .val (.int w1), .val (.int 2), .val (.int 0), .val (.ref r53), .val (.ref r56), .val (.int (f_rmCM20 r53 r56 x0 x1 cs fm)), .val (.int (f_rmRF (2 : Int32) x0 x1 (0 : Int32) w0 w1))] [(.int (f_rmSG (f_rmCM20 r53 r56 x0 x1 cs fm)))])) (fun t kt => st60 t kt) ?_
      refine own_thrH (a := T60.setTop (mkF m 136 #[.val (.int va), .val (.int vb), .val (.int vc), .val (.int vd), .val (.int sh), .val (.int x0), .val (.int x1), .val (.int w0), .val (.int w1), .val (.int 2), .val (.int 0), .val (.ref r53), .val (.ref r56), .val (.int (f_rmCM20 r53 r56 x0 x1 cs fm)), .val (.int (f_rmRF (2 : Int32) x0 x1 (0 : Int32) w0 w1))] [(.int 1)])) (fun t kt => ?_) ?_
      · refine XS.iload X60.here hx rfl (hb hby at_126) rfl ?_
        refine XS.icmpNo X60.here hx rfl (hb hby at_128) rfl (teq (own_fin20 _ _ _ _ _ _ _ _ hx0)).2 ?_
        refine XS.iconst X60.here hx rfl (hb hby at_131) ?_
        refine XS.goto X60.here hx rfl (pc0 := 132) (pc' := 136) rfl (hb hby at_132) (by decide) (by decide) ?_
        exact kt
      exact own_endH X60 hS56 (by rw [e60]; exact (Nat.le_refl _)) hZ56 hEL CHc56 hh e60 hlk (v := some (.int 1)) (fun h => by rw [Bd.returns] at h; cases h) (fun fs hr => retN X60 hx (t := .boolean) Bd.returns (by simp) (hb hby at_136) hr) ⟨rfl, N60⟩ (by decide : 14 ≤ _) (by decide : 76 ≤ _)
    · subst ha hb'
      refine own_thrH (a := Tj3.setTop (mkF m 79 #[.val (.int va), .val (.int vb), .val (.int vc), .val (.int vd), .val (.int sh), .val (.int x0), .val (.int x1), .val (.int w0), .val (.int w1), .val (.int 2), .val (.int 1), .unset, .unset, .unset, .unset] [(.int x1), (.int x0), (.int 2)])) (fun t kt => ?_) ?_
      · refine XS.iload Xj3.here hx rfl (hb hby at_73) rfl ?_
        refine XS.iload Xj3.here hx rfl (hb hby at_75) rfl ?_
        refine XS.iload Xj3.here hx rfl (hb hby at_77) rfl ?_
        exact kt
      obtain ⟨_, _, ⟨T61, L61, k61, n61⟩, -, X61, ⟨Lc61, hQ61, l61, y61, z61⟩, st61⟩ := Jvm.LawKit.callS Xj3 hx (y := own_m11) hown (mvT hZ (hw _ (own_i 8 rfl))) (mvT hZ (hw _ (own_i 9 rfl))) (mvT hZ (hw _ (own_i 2 rfl))) (mvT hZ (hw _ (own_i 10 rfl))) (by decide) (backOf (W := 0) (rmM2 l Z a0 hw [] x0 x1 cs fm h0 n0 Z0 hx0 hx1 hKs hO) hZ (hw _ (own_i 10 rfl)) (hw _ (own_i 2 rfl)) (by decide) (by decide)) (g := (mkF m 79 #[.val (.int va), .val (.int vb), .val (.int vc), .val (.int vd), .val (.int sh), .val (.int x0), .val (.int x1), .val (.int w0), .val (.int w1), .val (.int 2), .val (.int 1), .unset, .unset, .unset, .unset] [(.int x1), (.int x0), (.int 2)])) rfl (by rw [hml]; rfl) (argsL := [(.int 2), (.int x0), (.int x1)]) (rest := []) (lenOf pd__28ICC_29Ljava_2flang_2fString_3b rfl) rfl (own_q rfl) (hb hby at_79) (fun _ _ => ⟨rfl, ej3, (by decide : 0 + 8 ≤ _), (by decide : 0 + 64 ≤ _)⟩)
      dsimp only [Pt.U, Pt.locs, Pt.cells, Pt.slots] at X61 l61 y61 z61 st61 hQ61
      obtain ⟨r61, rfl, N61q, K61, u61⟩ := hQ61
      have CH62 := CH0.trans (CHr.keep K61 all0 CH0.1)
      have Z63 : n0 ≤ T61.heap.size := Nat.le_trans Z0 K61.1
      have Z63h : h0.size ≤ T61.heap.size := Nat.le_trans (Nat.le_refl h0.size) K61.1
      obtain ⟨lc61, X61, N61⟩ := own_pack X61 l61 y61 z61 Nj3 N61q (C := 8) (S' := 64) rfl rfl
      refine own_thrH (a := T61.setTop (mkF m 82 #[.val (.int va), .val (.int vb), .val (.int vc), .val (.int vd), .val (.int sh), .val (.int x0), .val (.int x1), .val (.int w0), .val (.int w1), .val (.int 2), .val (.int 1), .unset, .unset, .unset, .unset] [(.ref r61)])) (fun t kt => st61 t kt) ?_
      refine own_thrH (a := T61.setTop (mkF m 90 #[.val (.int va), .val (.int vb), .val (.int vc), .val (.int vd), .val (.int sh), .val (.int x0), .val (.int x1), .val (.int w0), .val (.int w1), .val (.int 2), .val (.int 1), .val (.ref r61), .unset, .unset, .unset] [(.int w1), (.int w0), (.int 1)])) (fun t kt => ?_) ?_
      · refine XS.astore X61.here hx rfl (hb hby at_82) rfl rfl (l' := #[.val (.int va), .val (.int vb), .val (.int vc), .val (.int vd), .val (.int sh), .val (.int x0), .val (.int x1), .val (.int w0), .val (.int w1), .val (.int 2), .val (.int 1), .val (.ref r61), .unset, .unset, .unset]) rfl ?_
        refine XS.iload X61.here hx rfl (hb hby at_84) rfl ?_
        refine XS.iload X61.here hx rfl (hb hby at_86) rfl ?_
        refine XS.iload X61.here hx rfl (hb hby at_88) rfl ?_
        exact kt
      obtain ⟨_, _, ⟨T64, L64, k64, n64⟩, -, X64, ⟨Lc64, hQ64, l64, y64, z64⟩, st64⟩ := Jvm.LawKit.callS X61 hx (y := own_m11) hown (mvT hZ (hw _ (own_i 8 rfl))) (mvT hZ (hw _ (own_i 9 rfl))) (mvT hZ (hw _ (own_i 2 rfl))) (mvT hZ (hw _ (own_i 10 rfl))) (by decide) (backOf (W := 0) (rmM1 l Z a0 hw [] w0 w1 cs fm T61.heap n0 Z63 hw0 hw1 hKs (hO.keep K61 all0)) hZ (hw _ (own_i 10 rfl)) (hw _ (own_i 2 rfl)) (by decide) (by decide)) (g := (mkF m 90 #[.val (.int va), .val (.int vb), .val (.int vc), .val (.int vd), .val (.int sh), .val (.int x0), .val (.int x1), .val (.int w0), .val (.int w1), .val (.int 2), .val (.int 1), .val (.ref r61), .unset, .unset, .unset] [(.int w1), (.int w0), (.int 1)])) rfl (by rw [hml]; rfl) (argsL := [(.int 1), (.int w0), (.int w1)]) (rest := []) (lenOf pd__28ICC_29Ljava_2flang_2fString_3b rfl) rfl (own_q rfl) (hb hby at_90) (fun _ _ => ⟨rfl, rfl, (by decide : 8 + 8 ≤ _), (by decide : 64 + 64 ≤ _)⟩)
      dsimp only [Pt.U, Pt.locs, Pt.cells, Pt.slots] at X64 l64 y64 z64 st64 hQ64
      obtain ⟨r64, rfl, N64q, K64, u64⟩ := hQ64
      have CH65 := CH62.trans (CHr.keep K64 all0 CH62.1)
      have Z66 : n0 ≤ T64.heap.size := Nat.le_trans Z63 K64.1
      have Z66h : h0.size ≤ T64.heap.size := Nat.le_trans Z63h K64.1
      obtain ⟨lc64, X64, N64⟩ := own_pack X64 l64 y64 z64 N61 N64q (C := 16) (S' := 128) rfl rfl
      refine own_thrH (a := T64.setTop (mkF m 93 #[.val (.int va), .val (.int vb), .val (.int vc), .val (.int vd), .val (.int sh), .val (.int x0), .val (.int x1), .val (.int w0), .val (.int w1), .val (.int 2), .val (.int 1), .val (.ref r61), .unset, .unset, .unset] [(.ref r64)])) (fun t kt => st64 t kt) ?_
      refine own_thrH (a := T64.setTop (mkF m 99 #[.val (.int va), .val (.int vb), .val (.int vc), .val (.int vd), .val (.int sh), .val (.int x0), .val (.int x1), .val (.int w0), .val (.int w1), .val (.int 2), .val (.int 1), .val (.ref r61), .val (.ref r64), .unset, .unset] [(.ref r64), (.ref r61)])) (fun t kt => ?_) ?_
      · refine XS.astore X64.here hx rfl (hb hby at_93) rfl rfl (l' := #[.val (.int va), .val (.int vb), .val (.int vc), .val (.int vd), .val (.int sh), .val (.int x0), .val (.int x1), .val (.int w0), .val (.int w1), .val (.int 2), .val (.int 1), .val (.ref r61), .val (.ref r64), .unset, .unset]) rfl ?_
        refine XS.aload X64.here hx rfl (hb hby at_95) rfl rfl ?_
        refine XS.aload X64.here hx rfl (hb hby at_97) rfl rfl ?_
        exact kt
      obtain ⟨_, _, ⟨T67, L67, k67, n67⟩, -, X67, ⟨Lc67, hQ67, l67, y67, z67⟩, st67⟩ := Jvm.LawKit.callS X64 hx (y := own_m25) hown (mvT hZ (hw _ (own_i 33 rfl))) (mvT hZ (hw _ (own_i 34 rfl))) (mvT hZ (hw _ (own_i 35 rfl))) (mvT hZ (hw _ (own_i 36 rfl))) (by decide) (backOf (W := 0) (rmCM21 l Z a0 hw [] r61 r64 x0 x1 w0 cs fm T64.heap n0 Z66 hKs ((hO.keep K61 all0).keep K64 all0) (u61.keep0 K64) u64 hx0 hx1 hw0) hZ (hw _ (own_i 36 rfl)) (hw _ (own_i 35 rfl)) (by decide) (by decide)) (g := (mkF m 99 #[.val (.int va), .val (.int vb), .val (.int vc), .val (.int vd), .val (.int sh), .val (.int x0), .val (.int x1), .val (.int w0), .val (.int w1), .val (.int 2), .val (.int 1), .val (.ref r61), .val (.ref r64), .unset, .unset] [(.ref r64), (.ref r61)])) rfl (by rw [hml]; rfl) (argsL := [(.ref r61), (.ref r64)]) (rest := []) (lenOf pd__28Ljava_2flang_2fString_3bLjava_2flang_2fString_3b_29I rfl) rfl (own_q rfl) (hb hby at_99) (fun _ _ => ⟨rfl, rfl, (by decide : 16 + 0 ≤ _), (by decide : 128 + 0 ≤ _)⟩)
      dsimp only [Pt.U, Pt.locs, Pt.cells, Pt.slots] at X67 l67 y67 z67 st67 hQ67
      obtain ⟨rfl, N67q, e67⟩ := hQ67
      obtain ⟨lc67, X67, N67⟩ := own_pack X67 l67 y67 z67 N64 N67q (C := 16) (S' := 128) rfl rfl
      refine own_thrH (a := T67.setTop (mkF m 102 #[.val (.int va), .val (.int vb), .val (.int vc), .val (.int vd), .val (.int sh), .val (.int x0), .val (.int x1), .val (.int w0), .val (.int w1), .val (.int 2), .val (.int 1), .val (.ref r61), .val (.ref r64), .unset, .unset] [(.int (f_rmCM21 r61 r64 x0 x1 w0 cs fm))])) (fun t kt => st67 t kt) ?_
      refine own_thrH (a := T67.setTop (mkF m 116 #[.val (.int va), .val (.int vb), .val (.int vc), .val (.int vd), .val (.int sh), .val (.int x0), .val (.int x1), .val (.int w0), .val (.int w1), .val (.int 2), .val (.int 1), .val (.ref r61), .val (.ref r64), .val (.int (f_rmCM21 r61 r64 x0 x1 w0 cs fm)), .unset] [(.int w1), (.int w0), (.int 1), (.int x1), (.int x0), (.int 2)])) (fun t kt => ?_) ?_
      · refine XS.istore X67.here hx rfl (hb hby at_102) rfl (l' := #[.val (.int va), .val (.int vb), .val (.int vc), .val (.int vd), .val (.int sh), .val (.int x0), .val (.int x1), .val (.int w0), .val (.int w1), .val (.int 2), .val (.int 1), .val (.ref r61), .val (.ref r64), .val (.int (f_rmCM21 r61 r64 x0 x1 w0 cs fm)), .unset]) rfl ?_
        refine XS.iload X67.here hx rfl (hb hby at_104) rfl ?_
        refine XS.iload X67.here hx rfl (hb hby at_106) rfl ?_
        refine XS.iload X67.here hx rfl (hb hby at_108) rfl ?_
        refine XS.iload X67.here hx rfl (hb hby at_110) rfl ?_
        refine XS.iload X67.here hx rfl (hb hby at_112) rfl ?_
        refine XS.iload X67.here hx rfl (hb hby at_114) rfl ?_
        exact kt
      obtain ⟨_, _, ⟨T68, L68, k68, n68⟩, -, X68, ⟨Lc68, hQ68, l68, y68, z68⟩, st68⟩ := Jvm.LawKit.callS X67 hx (y := own_m32) hown (mvT hZ (hw _ (own_i 52 rfl))) (mvT hZ (hw _ (own_i 53 rfl))) (mvT hZ (hw _ (own_i 2 rfl))) (mvT hZ (hw _ (own_i 54 rfl))) (by decide) (backOf (W := 0) (rmRF l Z a0 hw [] (2 : Int32) x0 x1 (1 : Int32) w0 w1 T64.heap n0 Z66) hZ (hw _ (own_i 54 rfl)) (hw _ (own_i 2 rfl)) (by decide) (by decide)) (g := (mkF m 116 #[.val (.int va), .val (.int vb), .val (.int vc), .val (.int vd), .val (.int sh), .val (.int x0), .val (.int x1), .val (.int w0), .val (.int w1), .val (.int 2), .val (.int 1), .val (.ref r61), .val (.ref r64), .val (.int (f_rmCM21 r61 r64 x0 x1 w0 cs fm)), .unset] [(.int w1), (.int w0), (.int 1), (.int x1), (.int x0), (.int 2)])) rfl (by rw [hml]; rfl) (argsL := [(.int 2), (.int x0), (.int x1), (.int 1), (.int w0), (.int w1)]) (rest := []) (lenOf pd__28ICCICC_29I rfl) rfl (own_q rfl) (hb hby at_116) (fun _ _ => ⟨rfl, e67, (by decide : 16 + 0 ≤ _), (by decide : 128 + 0 ≤ _)⟩)
      dsimp only [Pt.U, Pt.locs, Pt.cells, Pt.slots] at X68 l68 y68 z68 st68 hQ68
      obtain ⟨rfl, N68q, e68⟩ := hQ68
      obtain ⟨lc68, X68, N68⟩ := own_pack X68 l68 y68 z68 N67 N68q (C := 16) (S' := 128) rfl rfl
      refine own_thrH (a := T68.setTop (mkF m 119 #[.val (.int va), .val (.int vb), .val (.int vc), .val (.int vd), .val (.int sh), .val (.int x0), .val (.int x1), .val (.int w0), .val (.int w1), .val (.int 2), .val (.int 1), .val (.ref r61), .val (.ref r64), .val (.int (f_rmCM21 r61 r64 x0 x1 w0 cs fm)), .unset] [(.int (f_rmRF (2 : Int32) x0 x1 (1 : Int32) w0 w1))])) (fun t kt => st68 t kt) ?_
      refine own_thrH (a := T68.setTop (mkF m 123 #[.val (.int va), .val (.int vb), .val (.int vc), .val (.int vd), .val (.int sh), .val (.int x0), .val (.int x1), .val (.int w0), .val (.int w1), .val (.int 2), .val (.int 1), .val (.ref r61), .val (.ref r64), .val (.int (f_rmCM21 r61 r64 x0 x1 w0 cs fm)), .val (.int (f_rmRF (2 : Int32) x0 x1 (1 : Int32) w0 w1))] [(.int (f_rmCM21 r61 r64 x0 x1 w0 cs fm))])) (fun t kt => ?_) ?_
      · refine XS.istore X68.here hx rfl (hb hby at_119) rfl (l' := #[.val (.int va), .val (.int vb), .val (.int vc), .val (.int vd), .val (.int sh), .val (.int x0), .val (.int x1), .val (.int w0), .val (.int w1), .val (.int 2), .val (.int 1), .val (.ref r61), .val (.ref r64), .val (.int (f_rmCM21 r61 r64 x0 x1 w0 cs fm)), .val (.int (f_rmRF (2 : Int32) x0 x1 (1 : Int32) w0 w1))]) rfl ?_
        refine XS.iload X68.here hx rfl (hb hby at_121) rfl ?_
        exact kt
      obtain ⟨_, _, ⟨T69, L69, k69, n69⟩, -, X69, ⟨Lc69, hQ69, l69, y69, z69⟩, st69⟩ := Jvm.LawKit.callS X68 hx (y := own_m31) hown (mvT hZ (hw _ (own_i 58 rfl))) (mvT hZ (hw _ (own_i 59 rfl))) (mvT hZ (hw _ (own_i 2 rfl))) (mvT hZ (hw _ (own_i 60 rfl))) (by decide) (backOf (W := 0) (rmSG l Z a0 hw [] (f_rmCM21 r61 r64 x0 x1 w0 cs fm) T64.heap n0 Z66) hZ (hw _ (own_i 60 rfl)) (hw _ (own_i 2 rfl)) (by decide) (by decide)) (g := (mkF m 123 #[.val (.int va), .val (.int vb), .val (.int vc), .val (.int vd), .val (.int sh), .val (.int x0), .val (.int x1), .val (.int w0), .val (.int w1), .val (.int 2), .val (.int 1), .val (.ref r61), .val (.ref r64), .val (.int (f_rmCM21 r61 r64 x0 x1 w0 cs fm)), .val (.int (f_rmRF (2 : Int32) x0 x1 (1 : Int32) w0 w1))] [(.int (f_rmCM21 r61 r64 x0 x1 w0 cs fm))])) rfl (by rw [hml]; rfl) (argsL := [(.int (f_rmCM21 r61 r64 x0 x1 w0 cs fm))]) (rest := []) (lenOf pd__28I_29I rfl) rfl (own_q rfl) (hb hby at_123) (fun _ _ => ⟨rfl, e68, (by decide : 16 + 0 ≤ _), (by decide : 128 + 0 ≤ _)⟩)
      dsimp only [Pt.U, Pt.locs, Pt.cells, Pt.slots] at X69 l69 y69 z69 st69 hQ69
      obtain ⟨rfl, N69q, e69⟩ := hQ69
      obtain ⟨lc69, X69, N69⟩ := own_pack X69 l69 y69 z69 N68 N69q (C := 16) (S' := 128) rfl rfl
      refine own_thrH (a := T69.setTop (mkF m 126 #[.val (.int va), .val (.int vb), .val (.int vc), .val (.int vd), .val (.int sh), .val (.int x0), .val (.int x1), .val (.int w0), .val (.int w1), .val (.int 2), .val (.int 1), .val (.ref r61), .val (.ref r64), .val (.int (f_rmCM21 r61 r64 x0 x1 w0 cs fm)), .val (.int (f_rmRF (2 : Int32) x0 x1 (1 : Int32) w0 w1))] [(.int (f_rmSG (f_rmCM21 r61 r64 x0 x1 w0 cs fm)))])) (fun t kt => st69 t kt) ?_
      refine own_thrH (a := T69.setTop (mkF m 136 #[.val (.int va), .val (.int vb), .val (.int vc), .val (.int vd), .val (.int sh), .val (.int x0), .val (.int x1), .val (.int w0), .val (.int w1), .val (.int 2), .val (.int 1), .val (.ref r61), .val (.ref r64), .val (.int (f_rmCM21 r61 r64 x0 x1 w0 cs fm)), .val (.int (f_rmRF (2 : Int32) x0 x1 (1 : Int32) w0 w1))] [(.int 1)])) (fun t kt => ?_) ?_
      · refine XS.iload X69.here hx rfl (hb hby at_126) rfl ?_
        refine XS.icmpNo X69.here hx rfl (hb hby at_128) rfl (teq (own_fin21 _ _ _ _ _ _ _ _ hx0 hw0)).2 ?_
        refine XS.iconst X69.here hx rfl (hb hby at_131) ?_
        refine XS.goto X69.here hx rfl (pc0 := 132) (pc' := 136) rfl (hb hby at_132) (by decide) (by decide) ?_
        exact kt
      exact own_endH X69 hS0 (by rw [e69]; exact (Nat.zero_le _)) hZ hEL CH65 hh e69 hlk (v := some (.int 1)) (fun h => by rw [Bd.returns] at h; cases h) (fun fs hr => retN X69 hx (t := .boolean) Bd.returns (by simp) (hb hby at_136) hr) ⟨rfl, N69⟩ (by decide : 16 ≤ _) (by decide : 128 ≤ _)
    · subst ha hb'
      refine own_thrH (a := Tj3.setTop (mkF m 79 #[.val (.int va), .val (.int vb), .val (.int vc), .val (.int vd), .val (.int sh), .val (.int x0), .val (.int x1), .val (.int w0), .val (.int w1), .val (.int 2), .val (.int 2), .unset, .unset, .unset, .unset] [(.int x1), (.int x0), (.int 2)])) (fun t kt => ?_) ?_
      · refine XS.iload Xj3.here hx rfl (hb hby at_73) rfl ?_
        refine XS.iload Xj3.here hx rfl (hb hby at_75) rfl ?_
        refine XS.iload Xj3.here hx rfl (hb hby at_77) rfl ?_
        exact kt
      obtain ⟨_, _, ⟨T70, L70, k70, n70⟩, -, X70, ⟨Lc70, hQ70, l70, y70, z70⟩, st70⟩ := Jvm.LawKit.callS Xj3 hx (y := own_m11) hown (mvT hZ (hw _ (own_i 8 rfl))) (mvT hZ (hw _ (own_i 9 rfl))) (mvT hZ (hw _ (own_i 2 rfl))) (mvT hZ (hw _ (own_i 10 rfl))) (by decide) (backOf (W := 0) (rmM2 l Z a0 hw [] x0 x1 cs fm h0 n0 Z0 hx0 hx1 hKs hO) hZ (hw _ (own_i 10 rfl)) (hw _ (own_i 2 rfl)) (by decide) (by decide)) (g := (mkF m 79 #[.val (.int va), .val (.int vb), .val (.int vc), .val (.int vd), .val (.int sh), .val (.int x0), .val (.int x1), .val (.int w0), .val (.int w1), .val (.int 2), .val (.int 2), .unset, .unset, .unset, .unset] [(.int x1), (.int x0), (.int 2)])) rfl (by rw [hml]; rfl) (argsL := [(.int 2), (.int x0), (.int x1)]) (rest := []) (lenOf pd__28ICC_29Ljava_2flang_2fString_3b rfl) rfl (own_q rfl) (hb hby at_79) (fun _ _ => ⟨rfl, ej3, (by decide : 0 + 8 ≤ _), (by decide : 0 + 64 ≤ _)⟩)
      dsimp only [Pt.U, Pt.locs, Pt.cells, Pt.slots] at X70 l70 y70 z70 st70 hQ70
      obtain ⟨r70, rfl, N70q, K70, u70⟩ := hQ70
      have CH71 := CH0.trans (CHr.keep K70 all0 CH0.1)
      have Z72 : n0 ≤ T70.heap.size := Nat.le_trans Z0 K70.1
      have Z72h : h0.size ≤ T70.heap.size := Nat.le_trans (Nat.le_refl h0.size) K70.1
      obtain ⟨lc70, X70, N70⟩ := own_pack X70 l70 y70 z70 Nj3 N70q (C := 8) (S' := 64) rfl rfl
      refine own_thrH (a := T70.setTop (mkF m 82 #[.val (.int va), .val (.int vb), .val (.int vc), .val (.int vd), .val (.int sh), .val (.int x0), .val (.int x1), .val (.int w0), .val (.int w1), .val (.int 2), .val (.int 2), .unset, .unset, .unset, .unset] [(.ref r70)])) (fun t kt => st70 t kt) ?_
      refine own_thrH (a := T70.setTop (mkF m 90 #[.val (.int va), .val (.int vb), .val (.int vc), .val (.int vd), .val (.int sh), .val (.int x0), .val (.int x1), .val (.int w0), .val (.int w1), .val (.int 2), .val (.int 2), .val (.ref r70), .unset, .unset, .unset] [(.int w1), (.int w0), (.int 2)])) (fun t kt => ?_) ?_
      · refine XS.astore X70.here hx rfl (hb hby at_82) rfl rfl (l' := #[.val (.int va), .val (.int vb), .val (.int vc), .val (.int vd), .val (.int sh), .val (.int x0), .val (.int x1), .val (.int w0), .val (.int w1), .val (.int 2), .val (.int 2), .val (.ref r70), .unset, .unset, .unset]) rfl ?_
        refine XS.iload X70.here hx rfl (hb hby at_84) rfl ?_
        refine XS.iload X70.here hx rfl (hb hby at_86) rfl ?_
        refine XS.iload X70.here hx rfl (hb hby at_88) rfl ?_
        exact kt
      obtain ⟨_, _, ⟨T73, L73, k73, n73⟩, -, X73, ⟨Lc73, hQ73, l73, y73, z73⟩, st73⟩ := Jvm.LawKit.callS X70 hx (y := own_m11) hown (mvT hZ (hw _ (own_i 8 rfl))) (mvT hZ (hw _ (own_i 9 rfl))) (mvT hZ (hw _ (own_i 2 rfl))) (mvT hZ (hw _ (own_i 10 rfl))) (by decide) (backOf (W := 0) (rmM2 l Z a0 hw [] w0 w1 cs fm T70.heap n0 Z72 hw0 hw1 hKs (hO.keep K70 all0)) hZ (hw _ (own_i 10 rfl)) (hw _ (own_i 2 rfl)) (by decide) (by decide)) (g := (mkF m 90 #[.val (.int va), .val (.int vb), .val (.int vc), .val (.int vd), .val (.int sh), .val (.int x0), .val (.int x1), .val (.int w0), .val (.int w1), .val (.int 2), .val (.int 2), .val (.ref r70), .unset, .unset, .unset] [(.int w1), (.int w0), (.int 2)])) rfl (by rw [hml]; rfl) (argsL := [(.int 2), (.int w0), (.int w1)]) (rest := []) (lenOf pd__28ICC_29Ljava_2flang_2fString_3b rfl) rfl (own_q rfl) (hb hby at_90) (fun _ _ => ⟨rfl, rfl, (by decide : 8 + 8 ≤ _), (by decide : 64 + 64 ≤ _)⟩)
      dsimp only [Pt.U, Pt.locs, Pt.cells, Pt.slots] at X73 l73 y73 z73 st73 hQ73
      obtain ⟨r73, rfl, N73q, K73, u73⟩ := hQ73
      have CH74 := CH71.trans (CHr.keep K73 all0 CH71.1)
      have Z75 : n0 ≤ T73.heap.size := Nat.le_trans Z72 K73.1
      have Z75h : h0.size ≤ T73.heap.size := Nat.le_trans Z72h K73.1
      obtain ⟨lc73, X73, N73⟩ := own_pack X73 l73 y73 z73 N70 N73q (C := 16) (S' := 128) rfl rfl
      refine own_thrH (a := T73.setTop (mkF m 93 #[.val (.int va), .val (.int vb), .val (.int vc), .val (.int vd), .val (.int sh), .val (.int x0), .val (.int x1), .val (.int w0), .val (.int w1), .val (.int 2), .val (.int 2), .val (.ref r70), .unset, .unset, .unset] [(.ref r73)])) (fun t kt => st73 t kt) ?_
      refine own_thrH (a := T73.setTop (mkF m 99 #[.val (.int va), .val (.int vb), .val (.int vc), .val (.int vd), .val (.int sh), .val (.int x0), .val (.int x1), .val (.int w0), .val (.int w1), .val (.int 2), .val (.int 2), .val (.ref r70), .val (.ref r73), .unset, .unset] [(.ref r73), (.ref r70)])) (fun t kt => ?_) ?_
      · refine XS.astore X73.here hx rfl (hb hby at_93) rfl rfl (l' := #[.val (.int va), .val (.int vb), .val (.int vc), .val (.int vd), .val (.int sh), .val (.int x0), .val (.int x1), .val (.int w0), .val (.int w1), .val (.int 2), .val (.int 2), .val (.ref r70), .val (.ref r73), .unset, .unset]) rfl ?_
        refine XS.aload X73.here hx rfl (hb hby at_95) rfl rfl ?_
        refine XS.aload X73.here hx rfl (hb hby at_97) rfl rfl ?_
        exact kt
      obtain ⟨_, _, ⟨T76, L76, k76, n76⟩, -, X76, ⟨Lc76, hQ76, l76, y76, z76⟩, st76⟩ := Jvm.LawKit.callS X73 hx (y := own_m25) hown (mvT hZ (hw _ (own_i 33 rfl))) (mvT hZ (hw _ (own_i 34 rfl))) (mvT hZ (hw _ (own_i 35 rfl))) (mvT hZ (hw _ (own_i 36 rfl))) (by decide) (backOf (W := 0) (rmCM22 l Z a0 hw [] r70 r73 x0 x1 w0 w1 cs fm T73.heap n0 Z75 hKs ((hO.keep K70 all0).keep K73 all0) (u70.keep0 K73) u73 hx0 hx1 hw0 hw1) hZ (hw _ (own_i 36 rfl)) (hw _ (own_i 35 rfl)) (by decide) (by decide)) (g := (mkF m 99 #[.val (.int va), .val (.int vb), .val (.int vc), .val (.int vd), .val (.int sh), .val (.int x0), .val (.int x1), .val (.int w0), .val (.int w1), .val (.int 2), .val (.int 2), .val (.ref r70), .val (.ref r73), .unset, .unset] [(.ref r73), (.ref r70)])) rfl (by rw [hml]; rfl) (argsL := [(.ref r70), (.ref r73)]) (rest := []) (lenOf pd__28Ljava_2flang_2fString_3bLjava_2flang_2fString_3b_29I rfl) rfl (own_q rfl) (hb hby at_99) (fun _ _ => ⟨rfl, rfl, (by decide : 16 + 0 ≤ _), (by decide : 128 + 0 ≤ _)⟩)
      dsimp only [Pt.U, Pt.locs, Pt.cells, Pt.slots] at X76 l76 y76 z76 st76 hQ76
      obtain ⟨rfl, N76q, e76⟩ := hQ76
      obtain ⟨lc76, X76, N76⟩ := own_pack X76 l76 y76 z76 N73 N76q (C := 16) (S' := 128) rfl rfl
      refine own_thrH (a := T76.setTop (mkF m 102 #[.val (.int va), .val (.int vb), .val (.int vc), .val (.int vd), .val (.int sh), .val (.int x0), .val (.int x1), .val (.int w0), .val (.int w1), .val (.int 2), .val (.int 2), .val (.ref r70), .val (.ref r73), .unset, .unset] [(.int (f_rmCM22 r70 r73 x0 x1 w0 w1 cs fm))])) (fun t kt => st76 t kt) ?_
      refine own_thrH (a := T76.setTop (mkF m 116 #[.val (.int va), .val (.int vb), .val (.int vc), .val (.int vd), .val (.int sh), .val (.int x0), .val (.int x1), .val (.int w0), .val (.int w1), .val (.int 2), .val (.int 2), .val (.ref r70), .val (.ref r73), .val (.int (f_rmCM22 r70 r73 x0 x1 w0 w1 cs fm)), .unset] [(.int w1), (.int w0), (.int 2), (.int x1), (.int x0), (.int 2)])) (fun t kt => ?_) ?_
      · refine XS.istore X76.here hx rfl (hb hby at_102) rfl (l' := #[.val (.int va), .val (.int vb), .val (.int vc), .val (.int vd), .val (.int sh), .val (.int x0), .val (.int x1), .val (.int w0), .val (.int w1), .val (.int 2), .val (.int 2), .val (.ref r70), .val (.ref r73), .val (.int (f_rmCM22 r70 r73 x0 x1 w0 w1 cs fm)), .unset]) rfl ?_
        refine XS.iload X76.here hx rfl (hb hby at_104) rfl ?_
        refine XS.iload X76.here hx rfl (hb hby at_106) rfl ?_
        refine XS.iload X76.here hx rfl (hb hby at_108) rfl ?_
        refine XS.iload X76.here hx rfl (hb hby at_110) rfl ?_
        refine XS.iload X76.here hx rfl (hb hby at_112) rfl ?_
        refine XS.iload X76.here hx rfl (hb hby at_114) rfl ?_
        exact kt
      obtain ⟨_, _, ⟨T77, L77, k77, n77⟩, -, X77, ⟨Lc77, hQ77, l77, y77, z77⟩, st77⟩ := Jvm.LawKit.callS X76 hx (y := own_m32) hown (mvT hZ (hw _ (own_i 52 rfl))) (mvT hZ (hw _ (own_i 53 rfl))) (mvT hZ (hw _ (own_i 2 rfl))) (mvT hZ (hw _ (own_i 54 rfl))) (by decide) (backOf (W := 0) (rmRF l Z a0 hw [] (2 : Int32) x0 x1 (2 : Int32) w0 w1 T73.heap n0 Z75) hZ (hw _ (own_i 54 rfl)) (hw _ (own_i 2 rfl)) (by decide) (by decide)) (g := (mkF m 116 #[.val (.int va), .val (.int vb), .val (.int vc), .val (.int vd), .val (.int sh), .val (.int x0), .val (.int x1), .val (.int w0), .val (.int w1), .val (.int 2), .val (.int 2), .val (.ref r70), .val (.ref r73), .val (.int (f_rmCM22 r70 r73 x0 x1 w0 w1 cs fm)), .unset] [(.int w1), (.int w0), (.int 2), (.int x1), (.int x0), (.int 2)])) rfl (by rw [hml]; rfl) (argsL := [(.int 2), (.int x0), (.int x1), (.int 2), (.int w0), (.int w1)]) (rest := []) (lenOf pd__28ICCICC_29I rfl) rfl (own_q rfl) (hb hby at_116) (fun _ _ => ⟨rfl, e76, (by decide : 16 + 0 ≤ _), (by decide : 128 + 0 ≤ _)⟩)
      dsimp only [Pt.U, Pt.locs, Pt.cells, Pt.slots] at X77 l77 y77 z77 st77 hQ77
      obtain ⟨rfl, N77q, e77⟩ := hQ77
      obtain ⟨lc77, X77, N77⟩ := own_pack X77 l77 y77 z77 N76 N77q (C := 16) (S' := 128) rfl rfl
      refine own_thrH (a := T77.setTop (mkF m 119 #[.val (.int va), .val (.int vb), .val (.int vc), .val (.int vd), .val (.int sh), .val (.int x0), .val (.int x1), .val (.int w0), .val (.int w1), .val (.int 2), .val (.int 2), .val (.ref r70), .val (.ref r73), .val (.int (f_rmCM22 r70 r73 x0 x1 w0 w1 cs fm)), .unset] [(.int (f_rmRF (2 : Int32) x0 x1 (2 : Int32) w0 w1))])) (fun t kt => st77 t kt) ?_
      refine own_thrH (a := T77.setTop (mkF m 123 #[.val (.int va), .val (.int vb), .val (.int vc), .val (.int vd), .val (.int sh), .val (.int x0), .val (.int x1), .val (.int w0), .val (.int w1), .val (.int 2), .val (.int 2), .val (.ref r70), .val (.ref r73), .val (.int (f_rmCM22 r70 r73 x0 x1 w0 w1 cs fm)), .val (.int (f_rmRF (2 : Int32) x0 x1 (2 : Int32) w0 w1))] [(.int (f_rmCM22 r70 r73 x0 x1 w0 w1 cs fm))])) (fun t kt => ?_) ?_
      · refine XS.istore X77.here hx rfl (hb hby at_119) rfl (l' := #[.val (.int va), .val (.int vb), .val (.int vc), .val (.int vd), .val (.int sh), .val (.int x0), .val (.int x1), .val (.int w0), .val (.int w1), .val (.int 2), .val (.int 2), .val (.ref r70), .val (.ref r73), .val (.int (f_rmCM22 r70 r73 x0 x1 w0 w1 cs fm)), .val (.int (f_rmRF (2 : Int32) x0 x1 (2 : Int32) w0 w1))]) rfl ?_
        refine XS.iload X77.here hx rfl (hb hby at_121) rfl ?_
        exact kt
      obtain ⟨_, _, ⟨T78, L78, k78, n78⟩, -, X78, ⟨Lc78, hQ78, l78, y78, z78⟩, st78⟩ := Jvm.LawKit.callS X77 hx (y := own_m31) hown (mvT hZ (hw _ (own_i 58 rfl))) (mvT hZ (hw _ (own_i 59 rfl))) (mvT hZ (hw _ (own_i 2 rfl))) (mvT hZ (hw _ (own_i 60 rfl))) (by decide) (backOf (W := 0) (rmSG l Z a0 hw [] (f_rmCM22 r70 r73 x0 x1 w0 w1 cs fm) T73.heap n0 Z75) hZ (hw _ (own_i 60 rfl)) (hw _ (own_i 2 rfl)) (by decide) (by decide)) (g := (mkF m 123 #[.val (.int va), .val (.int vb), .val (.int vc), .val (.int vd), .val (.int sh), .val (.int x0), .val (.int x1), .val (.int w0), .val (.int w1), .val (.int 2), .val (.int 2), .val (.ref r70), .val (.ref r73), .val (.int (f_rmCM22 r70 r73 x0 x1 w0 w1 cs fm)), .val (.int (f_rmRF (2 : Int32) x0 x1 (2 : Int32) w0 w1))] [(.int (f_rmCM22 r70 r73 x0 x1 w0 w1 cs fm))])) rfl (by rw [hml]; rfl) (argsL := [(.int (f_rmCM22 r70 r73 x0 x1 w0 w1 cs fm))]) (rest := []) (lenOf pd__28I_29I rfl) rfl (own_q rfl) (hb hby at_123) (fun _ _ => ⟨rfl, e77, (by decide : 16 + 0 ≤ _), (by decide : 128 + 0 ≤ _)⟩)
      dsimp only [Pt.U, Pt.locs, Pt.cells, Pt.slots] at X78 l78 y78 z78 st78 hQ78
      obtain ⟨rfl, N78q, e78⟩ := hQ78
      obtain ⟨lc78, X78, N78⟩ := own_pack X78 l78 y78 z78 N77 N78q (C := 16) (S' := 128) rfl rfl
      refine own_thrH (a := T78.setTop (mkF m 126 #[.val (.int va), .val (.int vb), .val (.int vc), .val (.int vd), .val (.int sh), .val (.int x0), .val (.int x1), .val (.int w0), .val (.int w1), .val (.int 2), .val (.int 2), .val (.ref r70), .val (.ref r73), .val (.int (f_rmCM22 r70 r73 x0 x1 w0 w1 cs fm)), .val (.int (f_rmRF (2 : Int32) x0 x1 (2 : Int32) w0 w1))] [(.int (f_rmSG (f_rmCM22 r70 r73 x0 x1 w0 w1 cs fm)))])) (fun t kt => st78 t kt) ?_
      refine own_thrH (a := T78.setTop (mkF m 136 #[.val (.int va), .val (.int vb), .val (.int vc), .val (.int vd), .val (.int sh), .val (.int x0), .val (.int x1), .val (.int w0), .val (.int w1), .val (.int 2), .val (.int 2), .val (.ref r70), .val (.ref r73), .val (.int (f_rmCM22 r70 r73 x0 x1 w0 w1 cs fm)), .val (.int (f_rmRF (2 : Int32) x0 x1 (2 : Int32) w0 w1))] [(.int 1)])) (fun t kt => ?_) ?_
      · refine XS.iload X78.here hx rfl (hb hby at_126) rfl ?_
        refine XS.icmpNo X78.here hx rfl (hb hby at_128) rfl (teq (own_fin22 _ _ _ _ _ _ _ _ hx0 hx1 hw0 hw1)).2 ?_
        refine XS.iconst X78.here hx rfl (hb hby at_131) ?_
        refine XS.goto X78.here hx rfl (pc0 := 132) (pc' := 136) rfl (hb hby at_132) (by decide) (by decide) ?_
        exact kt
      exact own_endH X78 hS0 (by rw [e78]; exact (Nat.zero_le _)) hZ hEL CH74 hh e78 hlk (v := some (.int 1)) (fun h => by rw [Bd.returns] at h; cases h) (fun fs hr => retN X78 hx (t := .boolean) Bd.returns (by simp) (hb hby at_136) hr) ⟨rfl, N78⟩ (by decide : 16 ≤ _) (by decide : 128 ≤ _)
  refine own_thrH (a := T2.setTop (mkF m 18 #[.val (.int va), .val (.int vb), .val (.int vc), .val (.int vd), .val (.int sh), .val (.int x0), .val (.int x1), .unset, .unset, .unset, .unset, .unset, .unset, .unset, .unset] [(.int (((sh.toUInt32 >>> ((4 : Int32) &&& 31).toUInt32).toInt32) &&& (1 : Int32)))])) (fun t kt => ?_) ?_
  · refine XS.iload X2.here hx rfl (hb hby at_12) rfl ?_
    refine XS.iconst X2.here hx rfl (hb hby at_14) ?_
    refine XS.iushr X2.here hx rfl (hb hby at_15) rfl ?_
    refine XS.iconst X2.here hx rfl (hb hby at_16) ?_
    refine XS.iand X2.here hx rfl (hb hby at_17) rfl ?_
    exact kt
  by_cases hc79 : (((sh.toUInt32 >>> ((4 : Int32) &&& 31).toUInt32).toInt32) &&& (1 : Int32)) = (0 : Int32)
  · refine own_thrH (a := T2.setTop (mkF m 27 #[.val (.int va), .val (.int vb), .val (.int vc), .val (.int vd), .val (.int sh), .val (.int x0), .val (.int x1), .unset, .unset, .unset, .unset, .unset, .unset, .unset, .unset] [(.int vc)])) (fun t kt => ?_) ?_
    · refine XS.ifYes X2.here hx rfl (pc0 := 18) (pc' := 26) rfl (hb hby at_18) rfl ((if0 _ _).trans (teq hc79).1) (by decide) (by decide) ?_
      refine XS.iloadN X2.here hx rfl (hb hby at_26) rfl ?_
      exact kt
    obtain ⟨_, _, ⟨T80, L80, k80, n80⟩, -, X80, ⟨Lc80, hQ80, l80, y80, z80⟩, st80⟩ := Jvm.LawKit.callS X2 hx (y := own_m0) hown (mvT hZ (hw _ (own_i 0 rfl))) (mvT hZ (hw _ (own_i 1 rfl))) (mvT hZ (hw _ (own_i 2 rfl))) (mvT hZ (hw _ (own_i 3 rfl))) (by decide) (backOf (W := 0) (rmD l Z a0 hw [] vc h0 n0 Z0) hZ (hw _ (own_i 3 rfl)) (hw _ (own_i 2 rfl)) (by decide) (by decide)) (g := (mkF m 27 #[.val (.int va), .val (.int vb), .val (.int vc), .val (.int vd), .val (.int sh), .val (.int x0), .val (.int x1), .unset, .unset, .unset, .unset, .unset, .unset, .unset, .unset] [(.int vc)])) rfl (by rw [hml]; rfl) (argsL := [(.int vc)]) (rest := []) (lenOf pd__28I_29C rfl) rfl (own_q rfl) (hb hby at_27) (fun _ _ => ⟨rfl, e2, (by decide : 0 + 0 ≤ _), (by decide : 0 + 0 ≤ _)⟩)
    dsimp only [Pt.U, Pt.locs, Pt.cells, Pt.slots] at X80 l80 y80 z80 st80 hQ80
    obtain ⟨rfl, N80q, e80⟩ := hQ80
    obtain ⟨lc80, X80, N80⟩ := own_pack X80 l80 y80 z80 N2 N80q (C := 0) (S' := 0) rfl rfl
    refine own_thrH (a := T80.setTop (mkF m 30 #[.val (.int va), .val (.int vb), .val (.int vc), .val (.int vd), .val (.int sh), .val (.int x0), .val (.int x1), .unset, .unset, .unset, .unset, .unset, .unset, .unset, .unset] [(.int (f_rmD vc))])) (fun t kt => st80 t kt) ?_
    refine own_thrH (a := T80.setTop (mkF m 38 #[.val (.int va), .val (.int vb), .val (.int vc), .val (.int vd), .val (.int sh), .val (.int x0), .val (.int x1), .val (.int (f_rmD vc)), .unset, .unset, .unset, .unset, .unset, .unset, .unset] [(.int (((sh.toUInt32 >>> ((5 : Int32) &&& 31).toUInt32).toInt32) &&& (1 : Int32)))])) (fun t kt => ?_) ?_
    · refine XS.istore X80.here hx rfl (hb hby at_30) rfl (l' := #[.val (.int va), .val (.int vb), .val (.int vc), .val (.int vd), .val (.int sh), .val (.int x0), .val (.int x1), .val (.int (f_rmD vc)), .unset, .unset, .unset, .unset, .unset, .unset, .unset]) rfl ?_
      refine XS.iload X80.here hx rfl (hb hby at_32) rfl ?_
      refine XS.iconst X80.here hx rfl (hb hby at_34) ?_
      refine XS.iushr X80.here hx rfl (hb hby at_35) rfl ?_
      refine XS.iconst X80.here hx rfl (hb hby at_36) ?_
      refine XS.iand X80.here hx rfl (hb hby at_37) rfl ?_
      exact kt
    by_cases hc81 : (((sh.toUInt32 >>> ((5 : Int32) &&& 31).toUInt32).toInt32) &&& (1 : Int32)) = (0 : Int32)
    · refine own_thrH (a := T80.setTop (mkF m 47 #[.val (.int va), .val (.int vb), .val (.int vc), .val (.int vd), .val (.int sh), .val (.int x0), .val (.int x1), .val (.int (f_rmD vc)), .unset, .unset, .unset, .unset, .unset, .unset, .unset] [(.int vd)])) (fun t kt => ?_) ?_
      · refine XS.ifYes X80.here hx rfl (pc0 := 38) (pc' := 46) rfl (hb hby at_38) rfl ((if0 _ _).trans (teq hc81).1) (by decide) (by decide) ?_
        refine XS.iloadN X80.here hx rfl (hb hby at_46) rfl ?_
        exact kt
      obtain ⟨_, _, ⟨T82, L82, k82, n82⟩, -, X82, ⟨Lc82, hQ82, l82, y82, z82⟩, st82⟩ := Jvm.LawKit.callS X80 hx (y := own_m0) hown (mvT hZ (hw _ (own_i 0 rfl))) (mvT hZ (hw _ (own_i 1 rfl))) (mvT hZ (hw _ (own_i 2 rfl))) (mvT hZ (hw _ (own_i 3 rfl))) (by decide) (backOf (W := 0) (rmD l Z a0 hw [] vd h0 n0 Z0) hZ (hw _ (own_i 3 rfl)) (hw _ (own_i 2 rfl)) (by decide) (by decide)) (g := (mkF m 47 #[.val (.int va), .val (.int vb), .val (.int vc), .val (.int vd), .val (.int sh), .val (.int x0), .val (.int x1), .val (.int (f_rmD vc)), .unset, .unset, .unset, .unset, .unset, .unset, .unset] [(.int vd)])) rfl (by rw [hml]; rfl) (argsL := [(.int vd)]) (rest := []) (lenOf pd__28I_29C rfl) rfl (own_q rfl) (hb hby at_47) (fun _ _ => ⟨rfl, e80, (by decide : 0 + 0 ≤ _), (by decide : 0 + 0 ≤ _)⟩)
      dsimp only [Pt.U, Pt.locs, Pt.cells, Pt.slots] at X82 l82 y82 z82 st82 hQ82
      obtain ⟨rfl, N82q, e82⟩ := hQ82
      obtain ⟨lc82, X82, N82⟩ := own_pack X82 l82 y82 z82 N80 N82q (C := 0) (S' := 0) rfl rfl
      refine own_thrH (a := T82.setTop (mkF m 50 #[.val (.int va), .val (.int vb), .val (.int vc), .val (.int vd), .val (.int sh), .val (.int x0), .val (.int x1), .val (.int (f_rmD vc)), .unset, .unset, .unset, .unset, .unset, .unset, .unset] [(.int (f_rmD vd))])) (fun t kt => st82 t kt) ?_
      refine own_thrH (a := T82.setTop (mkF m 52 #[.val (.int va), .val (.int vb), .val (.int vc), .val (.int vd), .val (.int sh), .val (.int x0), .val (.int x1), .val (.int (f_rmD vc)), .val (.int (f_rmD vd)), .unset, .unset, .unset, .unset, .unset, .unset] [])) (fun t kt => ?_) ?_
      · refine XS.istore X82.here hx rfl (hb hby at_50) rfl (l' := #[.val (.int va), .val (.int vb), .val (.int vc), .val (.int vd), .val (.int sh), .val (.int x0), .val (.int x1), .val (.int (f_rmD vc)), .val (.int (f_rmD vd)), .unset, .unset, .unset, .unset, .unset, .unset]) rfl ?_
        exact kt
      exact jn _ _ X82 N82 e82 (f_rmD vc) (f_rmD vd) (own_d _) (own_d _)
    · refine own_thrH (a := T80.setTop (mkF m 52 #[.val (.int va), .val (.int vb), .val (.int vc), .val (.int vd), .val (.int sh), .val (.int x0), .val (.int x1), .val (.int (f_rmD vc)), .val (.int x1), .unset, .unset, .unset, .unset, .unset, .unset] [])) (fun t kt => ?_) ?_
      · refine XS.ifNo X80.here hx rfl (hb hby at_38) rfl ((if0 _ _).trans (feq hc81).1) ?_
        refine XS.iload X80.here hx rfl (hb hby at_41) rfl ?_
        refine XS.goto X80.here hx rfl (pc0 := 43) (pc' := 50) rfl (hb hby at_43) (by decide) (by decide) ?_
        refine XS.istore X80.here hx rfl (hb hby at_50) rfl (l' := #[.val (.int va), .val (.int vb), .val (.int vc), .val (.int vd), .val (.int sh), .val (.int x0), .val (.int x1), .val (.int (f_rmD vc)), .val (.int x1), .unset, .unset, .unset, .unset, .unset, .unset]) rfl ?_
        exact kt
      exact jn _ _ X80 N80 e80 (f_rmD vc) x1 (own_d _) hx1
  · refine own_thrH (a := T2.setTop (mkF m 38 #[.val (.int va), .val (.int vb), .val (.int vc), .val (.int vd), .val (.int sh), .val (.int x0), .val (.int x1), .val (.int x0), .unset, .unset, .unset, .unset, .unset, .unset, .unset] [(.int (((sh.toUInt32 >>> ((5 : Int32) &&& 31).toUInt32).toInt32) &&& (1 : Int32)))])) (fun t kt => ?_) ?_
    · refine XS.ifNo X2.here hx rfl (hb hby at_18) rfl ((if0 _ _).trans (feq hc79).1) ?_
      refine XS.iload X2.here hx rfl (hb hby at_21) rfl ?_
      refine XS.goto X2.here hx rfl (pc0 := 23) (pc' := 30) rfl (hb hby at_23) (by decide) (by decide) ?_
      refine XS.istore X2.here hx rfl (hb hby at_30) rfl (l' := #[.val (.int va), .val (.int vb), .val (.int vc), .val (.int vd), .val (.int sh), .val (.int x0), .val (.int x1), .val (.int x0), .unset, .unset, .unset, .unset, .unset, .unset, .unset]) rfl ?_
      refine XS.iload X2.here hx rfl (hb hby at_32) rfl ?_
      refine XS.iconst X2.here hx rfl (hb hby at_34) ?_
      refine XS.iushr X2.here hx rfl (hb hby at_35) rfl ?_
      refine XS.iconst X2.here hx rfl (hb hby at_36) ?_
      refine XS.iand X2.here hx rfl (hb hby at_37) rfl ?_
      exact kt
    by_cases hc83 : (((sh.toUInt32 >>> ((5 : Int32) &&& 31).toUInt32).toInt32) &&& (1 : Int32)) = (0 : Int32)
    · refine own_thrH (a := T2.setTop (mkF m 47 #[.val (.int va), .val (.int vb), .val (.int vc), .val (.int vd), .val (.int sh), .val (.int x0), .val (.int x1), .val (.int x0), .unset, .unset, .unset, .unset, .unset, .unset, .unset] [(.int vd)])) (fun t kt => ?_) ?_
      · refine XS.ifYes X2.here hx rfl (pc0 := 38) (pc' := 46) rfl (hb hby at_38) rfl ((if0 _ _).trans (teq hc83).1) (by decide) (by decide) ?_
        refine XS.iloadN X2.here hx rfl (hb hby at_46) rfl ?_
        exact kt
      obtain ⟨_, _, ⟨T84, L84, k84, n84⟩, -, X84, ⟨Lc84, hQ84, l84, y84, z84⟩, st84⟩ := Jvm.LawKit.callS X2 hx (y := own_m0) hown (mvT hZ (hw _ (own_i 0 rfl))) (mvT hZ (hw _ (own_i 1 rfl))) (mvT hZ (hw _ (own_i 2 rfl))) (mvT hZ (hw _ (own_i 3 rfl))) (by decide) (backOf (W := 0) (rmD l Z a0 hw [] vd h0 n0 Z0) hZ (hw _ (own_i 3 rfl)) (hw _ (own_i 2 rfl)) (by decide) (by decide)) (g := (mkF m 47 #[.val (.int va), .val (.int vb), .val (.int vc), .val (.int vd), .val (.int sh), .val (.int x0), .val (.int x1), .val (.int x0), .unset, .unset, .unset, .unset, .unset, .unset, .unset] [(.int vd)])) rfl (by rw [hml]; rfl) (argsL := [(.int vd)]) (rest := []) (lenOf pd__28I_29C rfl) rfl (own_q rfl) (hb hby at_47) (fun _ _ => ⟨rfl, e2, (by decide : 0 + 0 ≤ _), (by decide : 0 + 0 ≤ _)⟩)
      dsimp only [Pt.U, Pt.locs, Pt.cells, Pt.slots] at X84 l84 y84 z84 st84 hQ84
      obtain ⟨rfl, N84q, e84⟩ := hQ84
      obtain ⟨lc84, X84, N84⟩ := own_pack X84 l84 y84 z84 N2 N84q (C := 0) (S' := 0) rfl rfl
      refine own_thrH (a := T84.setTop (mkF m 50 #[.val (.int va), .val (.int vb), .val (.int vc), .val (.int vd), .val (.int sh), .val (.int x0), .val (.int x1), .val (.int x0), .unset, .unset, .unset, .unset, .unset, .unset, .unset] [(.int (f_rmD vd))])) (fun t kt => st84 t kt) ?_
      refine own_thrH (a := T84.setTop (mkF m 52 #[.val (.int va), .val (.int vb), .val (.int vc), .val (.int vd), .val (.int sh), .val (.int x0), .val (.int x1), .val (.int x0), .val (.int (f_rmD vd)), .unset, .unset, .unset, .unset, .unset, .unset] [])) (fun t kt => ?_) ?_
      · refine XS.istore X84.here hx rfl (hb hby at_50) rfl (l' := #[.val (.int va), .val (.int vb), .val (.int vc), .val (.int vd), .val (.int sh), .val (.int x0), .val (.int x1), .val (.int x0), .val (.int (f_rmD vd)), .unset, .unset, .unset, .unset, .unset, .unset]) rfl ?_
        exact kt
      exact jn _ _ X84 N84 e84 x0 (f_rmD vd) hx0 (own_d _)
    · refine own_thrH (a := T2.setTop (mkF m 52 #[.val (.int va), .val (.int vb), .val (.int vc), .val (.int vd), .val (.int sh), .val (.int x0), .val (.int x1), .val (.int x0), .val (.int x1), .unset, .unset, .unset, .unset, .unset, .unset] [])) (fun t kt => ?_) ?_
      · refine XS.ifNo X2.here hx rfl (hb hby at_38) rfl ((if0 _ _).trans (feq hc83).1) ?_
        refine XS.iload X2.here hx rfl (hb hby at_41) rfl ?_
        refine XS.goto X2.here hx rfl (pc0 := 43) (pc' := 50) rfl (hb hby at_43) (by decide) (by decide) ?_
        refine XS.istore X2.here hx rfl (hb hby at_50) rfl (l' := #[.val (.int va), .val (.int vb), .val (.int vc), .val (.int vd), .val (.int sh), .val (.int x0), .val (.int x1), .val (.int x0), .val (.int x1), .unset, .unset, .unset, .unset, .unset, .unset]) rfl ?_
        exact kt
      exact jn _ _ X2 N2 e2 x0 x1 hx0 hx1
theorem comes_1 {Post : Tables → Env → Array Value → State → Outcome → State → Prop} (hpost : ∀ tb e args s v u, (limb_1_1.after args s (.returned v) u = true ∧ limb_1_2.after args s (.returned v) u = true ∧ True) → ReturnedEndW s (.returned v) u (Jvm.fieldLocs frame_1_writes args s ++ Jvm.arrayLocs frame_1_arrays args s ++ Jvm.staticLocs frame_1_statics s) 32 1152 → Post tb e args s (.returned v) u) :
    ArmFor flags0 classFile x code maxLocals ret World_1 tables_1 room_1 Calls_1 rest_1 Pre_1 Post := by
  intro l hfl _ _ p e ha hc hk s m args below hf hA hF happ hP
  obtain ⟨hcalls, hrest, hpre⟩ := hP
  obtain ⟨-, -, -, hnamed, -, -, -, hat⟩ := (Spec.applies_iff hf).mp happ
  obtain ⟨hg, hn⟩ := and_e (Cond.before_iff.mp (show (Jvm.Cond.and given_1 narrow_1).before args s = true from hpre))
  obtain ⟨g1, g2⟩ := and_e hg
  obtain ⟨g3, g4⟩ := and_e g2
  obtain ⟨g5, g6⟩ := and_e g4
  obtain ⟨g7, g8⟩ := and_e g6
  obtain ⟨g9, g10⟩ := and_e g8
  obtain ⟨w0, w1, w2, w3, w4, rfl⟩ : ∃ w0 w1 w2 w3 w4 : Value, args = #[w0, w1, w2, w3, w4] := by
    have hs : args.size = 5 := by simpa [Cond.value, given_1] using g1
    obtain ⟨L⟩ := args
    match L, hs with
    | [w0, w1, w2, w3, w4], _ => exact ⟨w0, w1, w2, w3, w4, rfl⟩
  have hw := fun d (hd : d ∈ tables_1) => atoms_spec (ws := Jvm.Cond.code x code maxLocals ret :: tables_1) hat d (List.mem_cons_of_mem _ hd)
  have hfit : Fit s := fun {y c} hc i hi => by
    obtain ⟨ha, rfl⟩ := Array.getElem?_eq_some_iff.mp hc
    have q := List.all_eq_true.mp ((Array.all_eq_true_iff_forall_mem.mp hF) _ (Array.getElem_mem ha)) i (List.mem_range.mpr hi)
    simpa [Array.getElem?_eq_getElem hi] using q
  obtain ⟨hsets, hown0⟩ := atoms_of _ (rest_1_c_eq ▸ (show rest_1_c.before _ s = true from hrest))
  have hr0 := Cond.before_iff.mp hown0
  obtain ⟨i0, ei0⟩ := is_v g3
  obtain rfl : w0 = (.int i0) := Option.some.inj ei0
  obtain ⟨i1, ei1⟩ := is_v g5
  obtain rfl : w1 = (.int i1) := Option.some.inj ei1
  obtain ⟨i2, ei2⟩ := is_v g7
  obtain rfl : w2 = (.int i2) := Option.some.inj ei2
  obtain ⟨i3, ei3⟩ := is_v g9
  obtain rfl : w3 = (.int i3) := Option.some.inj ei3
  obtain ⟨i4, ei4⟩ := is_v g10
  obtain rfl : w4 = (.int i4) := Option.some.inj ei4
  obtain ⟨cs, ecs⟩ := is_v (Cond.before_iff.mp (hsets _ (own_i 1 rfl)))
  have hcs : ¬ cs = (0 : Int32) := own_not0 ecs (Cond.before_iff.mp (hsets _ (own_i 2 rfl)))
  obtain ⟨fm, efm, hfm⟩ := isR_v (Cond.before_iff.mp (hsets _ (own_i 8 rfl)))
  have hKs : own_K s cs fm := ⟨Sta.start ecs (Or.inl (hsets _ (own_i 0 rfl))), hcs, Sta.start efm (Or.inl (hsets _ (own_i 7 rfl))), hfm, Sta.start (own_eqI (Cond.before_iff.mp (hsets _ (own_i 12 rfl))) rfl) (Or.inl (hsets _ (own_i 11 rfl))), Sta.start (own_eqI (Cond.before_iff.mp (hsets _ (own_i 15 rfl))) rfl) (Or.inl (hsets _ (own_i 14 rfl))), Sta.start (own_eqI (Cond.before_iff.mp (hsets _ (own_i 18 rfl))) rfl) (Or.inl (hsets _ (own_i 17 rfl)))⟩
  have hCHs : CHv s own_EL s.vm s.heap := CHv.start (own_EW hw) (fun p hp => own_held hcalls p hp) (hsets _ (own_i 2 rfl)) (hw _ (own_i 26 rfl)) (hw _ (own_i 12 rfl))
  obtain ⟨n, o, h1, h2, h3, _, L, rfl, ⟨rfl, N⟩, -, hq⟩ := rm0 l s _ hw tables_1 i0 i1 i2 i3 i4 cs fm s.heap s.heap.size (Nat.le_refl _) hKs (Old.start s) p e ha hc hk s m _ below hf ((Spec.applies_iff_loose hf).mp happ).1 ⟨rfl, State.Warmed39.refl s, rfl, hCHs⟩ trivial
  refine ⟨n, _, h1, h2, h3, hpost _ _ _ _ _ _ ⟨Cond.after_iff.mpr rfl, Cond.after_iff.mpr (eq_i res_at (Term.int_eval (1)) rfl), trivial⟩ ⟨hq.1, hq.2.1, hq.2.2.1, (hq.2.2.2.sift fun y hy => Or.inr (N y hy)).mono (by decide) (by decide)⟩⟩
theorem main_1_1 : Claimed_1_1 := comes_1 fun _ _ _ _ _ _ h hF => ⟨h.1, hF⟩
theorem main_1_2 : Claimed_1_2 := comes_1 fun _ _ _ _ _ _ h hF => ⟨h.2.1, hF⟩
end Jvm.Pilot.@@N@@
namespace Jvm.Pilot.@@N@@
open Jvm Jvm.ClassFile Sem Op Lib Jvm.Free Jvm.Stand Jvm.Pilot.@@N@@.Jvm.D
/-! MADE BY PROGRAM (witnessworld.py) out of the Statement's table words and the real class files: 21 classes; the members and pool entries that the words name. The judged class is class 1, her method 1. -/
namespace start1
open Jvm.ClassFile
def u (s : String) : CpInfo := .utf8 (stringToUtf16 s)
/-- a pool by its gaps: so many unusable entries, then the entry; so many at the end -/
def gap : Nat → List CpInfo → List CpInfo
  | 0, r => r
  | n + 1, r => .unusable :: gap n r
def poolList (es : List (Nat × CpInfo)) (last : Nat) : List CpInfo := es.foldr (fun e r => gap e.1 (e.2 :: r)) (gap last [])
def pool (es : List (Nat × CpInfo)) (last : Nat) : Array CpInfo := ⟨poolList es last⟩
def fileOf (pool : Array CpInfo) (this : Nat) (attrs : Array Attribute := #[]) (ms : Array MethodInfo := #[]) (fl : Nat := 33) (sup : Nat := 0) (ifs : Array Nat := #[]) (fds : Array FieldInfo := #[]) : ClassFile where
  minorVersion := 0
  majorVersion := 65
  constantPool := pool
  accessFlags := fl
  thisClass := this
  superClass := sup
  interfaces := ifs
  fields := fds
  methods := ms
  attributes := attrs
def plain (name : String) (sup : Option ClassId) : Class where
  name := name
  kind := .ordinary
  loader := none
  accessFlags := 33
  super := sup
  interfaces := #[]
  cf := none
  fields := #[]
  methods := #[]
  instanceTypes := #[]
  staticTypes := #[]
  resolved := #[]
  callSites := []
  init := .initialized
  statics := none
  mirror := none

def pool0 : Array CpInfo := pool [(5, u "<init>"), (0, u "()V"), (1, .class_ 10), (1, u "java/lang/Object")] 113

def k0c0 : Code := { maxStack := 0, maxLocals := 1, code := object_method_1_code, exceptionTable := #[], attributes := #[] }
def k0m0 : Method := { name := "<init>", desc := "()V", sig := { parameters := [], returnType := none }, accessFlags := 1, code := some k0c0 }
/-- java/lang/Object -/
def k0 : Class := { plain "java/lang/Object" none with
  accessFlags := 33
  interfaces := #[]
  cf := some (fileOf pool0 8 #[] #[{ accessFlags := 1, nameIndex := 5, descriptorIndex := 6, attributes := #[] }] 33 0 #[] #[])
  fields := #[]
  methods := #[k0m0]
  instanceTypes := #[]
  staticTypes := #[]
  resolved := Array.replicate 124 none
  statics := none }

def pool1 : Array CpInfo := pool [(2, .class_ 4), (1, u "java/lang/Object"), (0, u "<init>"), (0, u "()V"), (0, .methodref 8 9), (0, .class_ 10), (0, .nameAndType 11 12), (0, u "com/example/tiphys/tiphys/CodePointOrderComparePinLaw"), (0, u "draw"), (0, u "(I)C"), (0, .methodref 8 14), (0, .nameAndType 15 16), (0, u "make"), (0, u "(ICC)Ljava/lang/String;"), (0, .methodref 18 19), (0, .class_ 20), (0, .nameAndType 21 22), (0, u "com/example/tiphys/tiphys/CodePointOrder"), (0, u "compare"), (0, u "(Ljava/lang/String;Ljava/lang/String;)I"), (0, .methodref 8 24), (0, .nameAndType 25 26), (0, u "reference"), (0, u "(ICCICC)I"), (0, .methodref 8 28), (0, .nameAndType 29 30), (0, u "sign"), (0, u "(I)I"), (0, .integer 65535), (0, .integer 55296), (0, .integer 56320), (0, .integer 57344), (0, .class_ 36), (0, u "java/lang/String"), (0, .methodref 35 38), (0, .nameAndType 5 39), (0, u "([C)V"), (0, .integer 56319), (0, .integer 57343), (0, .methodref 8 43), (0, .nameAndType 44 45), (0, u "isHigh"), (0, u "(C)Z"), (0, .methodref 8 47), (0, .nameAndType 48 45), (0, u "isLow"), (0, .methodref 8 50), (0, .nameAndType 51 52), (0, u "paired"), (0, u "(ICC)Z"), (0, .integer 65536), (0, .methodref 8 55), (0, .nameAndType 56 57), (0, u "count"), (0, u "(ICC)I"), (0, .methodref 8 59), (0, .nameAndType 60 57), (0, u "firstPoint"), (2, u "law"), (0, u "(IIIII)Z")] 3

def k1m0 : Method := { name := "<init>", desc := "()V", sig := { parameters := [], returnType := none }, accessFlags := 1, code := none }
def k1c1 : Code := { maxStack := 6, maxLocals := 15, code := code, exceptionTable := #[], attributes := #[] }
def k1m1 : Method := { name := "law", desc := "(IIIII)Z", sig := { parameters := [.int, .int, .int, .int, .int], returnType := some .boolean }, accessFlags := 9, code := some k1c1 }
def k1c2 : Code := { maxStack := 3, maxLocals := 3, code := method_3_code, exceptionTable := #[], attributes := #[] }
def k1m2 : Method := { name := "draw", desc := "(I)C", sig := { parameters := [.int], returnType := some .char }, accessFlags := 10, code := some k1c2 }
def k1c3 : Code := { maxStack := 6, maxLocals := 3, code := method_4_code, exceptionTable := #[], attributes := #[] }
def k1m3 : Method := { name := "make", desc := "(ICC)Ljava/lang/String;", sig := { parameters := [.int, .char, .char], returnType := some (.object "java/lang/String") }, accessFlags := 10, code := some k1c3 }
def k1c4 : Code := { maxStack := 2, maxLocals := 1, code := method_5_code, exceptionTable := #[], attributes := #[] }
def k1m4 : Method := { name := "isHigh", desc := "(C)Z", sig := { parameters := [.char], returnType := some .boolean }, accessFlags := 10, code := some k1c4 }
def k1c5 : Code := { maxStack := 2, maxLocals := 1, code := method_6_code, exceptionTable := #[], attributes := #[] }
def k1m5 : Method := { name := "isLow", desc := "(C)Z", sig := { parameters := [.char], returnType := some .boolean }, accessFlags := 10, code := some k1c5 }
def k1c6 : Code := { maxStack := 2, maxLocals := 3, code := method_7_code, exceptionTable := #[], attributes := #[] }
def k1m6 : Method := { name := "paired", desc := "(ICC)Z", sig := { parameters := [.int, .char, .char], returnType := some .boolean }, accessFlags := 10, code := some k1c6 }
def k1c7 : Code := { maxStack := 3, maxLocals := 3, code := method_8_code, exceptionTable := #[], attributes := #[] }
def k1m7 : Method := { name := "count", desc := "(ICC)I", sig := { parameters := [.int, .char, .char], returnType := some .int }, accessFlags := 10, code := some k1c7 }
def k1c8 : Code := { maxStack := 3, maxLocals := 3, code := method_9_code, exceptionTable := #[], attributes := #[] }
def k1m8 : Method := { name := "firstPoint", desc := "(ICC)I", sig := { parameters := [.int, .char, .char], returnType := some .int }, accessFlags := 10, code := some k1c8 }
def k1c9 : Code := { maxStack := 1, maxLocals := 1, code := method_10_code, exceptionTable := #[], attributes := #[] }
def k1m9 : Method := { name := "sign", desc := "(I)I", sig := { parameters := [.int], returnType := some .int }, accessFlags := 10, code := some k1c9 }
def k1c10 : Code := { maxStack := 3, maxLocals := 10, code := method_11_code, exceptionTable := #[], attributes := #[] }
def k1m10 : Method := { name := "reference", desc := "(ICCICC)I", sig := { parameters := [.int, .char, .char, .int, .char, .char], returnType := some .int }, accessFlags := 10, code := some k1c10 }
/-- com/example/tiphys/tiphys/CodePointOrderComparePinLaw -/
def k1 : Class := { plain "com/example/tiphys/tiphys/CodePointOrderComparePinLaw" (some 0) with
  accessFlags := 49
  interfaces := #[]
  cf := some (fileOf pool1 8 #[] #[{ accessFlags := 1, nameIndex := 5, descriptorIndex := 6, attributes := #[] }, { accessFlags := 9, nameIndex := 63, descriptorIndex := 64, attributes := #[] }, { accessFlags := 10, nameIndex := 11, descriptorIndex := 12, attributes := #[] }, { accessFlags := 10, nameIndex := 15, descriptorIndex := 16, attributes := #[] }, { accessFlags := 10, nameIndex := 44, descriptorIndex := 45, attributes := #[] }, { accessFlags := 10, nameIndex := 48, descriptorIndex := 45, attributes := #[] }, { accessFlags := 10, nameIndex := 51, descriptorIndex := 52, attributes := #[] }, { accessFlags := 10, nameIndex := 56, descriptorIndex := 57, attributes := #[] }, { accessFlags := 10, nameIndex := 60, descriptorIndex := 57, attributes := #[] }, { accessFlags := 10, nameIndex := 29, descriptorIndex := 30, attributes := #[] }, { accessFlags := 10, nameIndex := 25, descriptorIndex := 26, attributes := #[] }] 49 2 #[] #[])
  fields := #[]
  methods := #[k1m0, k1m1, k1m2, k1m3, k1m4, k1m5, k1m6, k1m7, k1m8, k1m9, k1m10]
  instanceTypes := #[]
  staticTypes := #[]
  resolved := Array.replicate 68 none
  statics := none }

def pool2 : Array CpInfo := pool [(1, .class_ 2), (0, u "java/io/Serializable"), (0, .class_ 4), (0, u "java/lang/Object")] 2

/-- java/io/Serializable -/
def k2 : Class := { plain "java/io/Serializable" (some 0) with
  accessFlags := 1537
  interfaces := #[]
  cf := some (fileOf pool2 1 #[] #[] 1537 3 #[] #[])
  fields := #[]
  methods := #[]
  instanceTypes := #[]
  staticTypes := #[]
  resolved := Array.replicate 7 none
  statics := none }

def pool3 : Array CpInfo := pool [(1, .class_ 2), (0, u "java/lang/Comparable"), (0, .class_ 4), (0, u "java/lang/Object")] 7

/-- java/lang/Comparable -/
def k3 : Class := { plain "java/lang/Comparable" (some 0) with
  accessFlags := 1537
  interfaces := #[]
  cf := some (fileOf pool3 1 #[] #[] 1537 3 #[] #[])
  fields := #[]
  methods := #[]
  instanceTypes := #[]
  staticTypes := #[]
  resolved := Array.replicate 12 none
  statics := none }

def pool4 : Array CpInfo := pool [(2, .class_ 4), (1, u "java/lang/CharSequence"), (42, .class_ 48), (0, u "java/lang/CharSequence$1CodePointIterator"), (10, .class_ 60), (0, u "java/lang/CharSequence$1CharIterator"), (5, .class_ 67), (0, u "java/lang/Object")] 63

/-- java/lang/CharSequence -/
def k4 : Class := { plain "java/lang/CharSequence" (some 0) with
  accessFlags := 1537
  interfaces := #[]
  cf := some (fileOf pool4 2 #[.nestMembers #[47, 59]] #[] 1537 66 #[] #[])
  fields := #[]
  methods := #[]
  instanceTypes := #[]
  staticTypes := #[]
  resolved := Array.replicate 131 none
  statics := none }

def pool5 : Array CpInfo := pool [(1, .class_ 2), (0, u "java/lang/constant/Constable"), (0, .class_ 4), (0, u "java/lang/Object")] 6

/-- java/lang/constant/Constable -/
def k5 : Class := { plain "java/lang/constant/Constable" (some 0) with
  accessFlags := 1537
  interfaces := #[]
  cf := some (fileOf pool5 1 #[] #[] 1537 3 #[] #[])
  fields := #[]
  methods := #[]
  instanceTypes := #[]
  staticTypes := #[]
  resolved := Array.replicate 11 none
  statics := none }

def pool6 : Array CpInfo := pool [(1, .class_ 2), (0, u "java/lang/constant/ConstantDesc"), (0, .class_ 4), (0, u "java/lang/Object")] 32

/-- java/lang/constant/ConstantDesc -/
def k6 : Class := { plain "java/lang/constant/ConstantDesc" (some 0) with
  accessFlags := 1537
  interfaces := #[]
  cf := some (fileOf pool6 1 #[] #[] 1537 3 #[] #[])
  fields := #[]
  methods := #[]
  instanceTypes := #[]
  staticTypes := #[]
  resolved := Array.replicate 37 none
  statics := none }

def pool7 : Array CpInfo := pool [(1, .methodref 2 3), (0, .class_ 4), (0, .nameAndType 5 6), (0, u "java/lang/Object"), (0, u "<init>"), (0, u "()V"), (0, .string 8), (0, u ""), (0, .fieldref 10 11), (0, .class_ 12), (0, .nameAndType 13 14), (0, u "java/lang/String"), (0, u "value"), (0, u "[B"), (0, .fieldref 10 16), (0, .nameAndType 17 18), (0, u "coder"), (0, u "B"), (2, u "hash"), (0, u "I"), (2, u "hashIsZero"), (0, u "Z"), (0, .methodref 10 28), (0, .nameAndType 5 29), (0, u "([CIILjava/lang/Void;)V"), (8, .fieldref 10 39), (0, .nameAndType 40 26), (0, u "COMPACT_STRINGS"), (1, .class_ 44), (1, u "java/lang/StringUTF16"), (0, u "compress"), (1, .methodref 42 48), (0, .nameAndType 49 50), (0, u "coderFromArrayLen"), (0, u "([BI)B"), (46, u "([BII)I"), (44, u "()Z"), (34, .methodref 42 178), (0, .nameAndType 45 179), (0, u "([CII)[B"), (154, u "()I"), (0, .methodref 10 336), (0, .nameAndType 17 337), (0, u "()B"), (53, u "(II)V"), (100, .methodref 10 493), (0, .nameAndType 494 142), (0, u "isLatin1"), (4, .methodref 10 500), (0, .nameAndType 501 391), (0, u "checkIndex"), (0, .methodref 42 503), (0, .nameAndType 504 97), (0, u "codePointAt"), (2, u "length"), (67, .class_ 576), (0, u "java/lang/CharSequence"), (22, u "CASE_INSENSITIVE_ORDER"), (0, u "Ljava/util/Comparator;"), (164, u "(I)I"), (244, u "([C)V"), (42, .fieldref 1054 1055), (0, .class_ 1056), (0, .nameAndType 1057 1058), (0, u "jdk/internal/util/Preconditions"), (0, u "SIOOBE_FORMATTER"), (0, u "Ljava/util/function/BiFunction;"), (0, .methodref 1054 1060), (0, .nameAndType 501 1061), (0, u "(IILjava/util/function/BiFunction;)I"), (39, u "serialPersistentFields"), (0, u "[Ljava/io/ObjectStreamField;"), (0, .class_ 1104), (0, u "java/lang/String$CaseInsensitiveComparator"), (1, .class_ 1107), (0, u "java/io/Serializable"), (0, .class_ 1109), (0, u "java/lang/Comparable"), (0, .class_ 1111), (0, u "java/lang/constant/Constable"), (0, .class_ 1113), (0, u "java/lang/constant/ConstantDesc"), (2, u "serialVersionUID"), (0, u "J"), (3, u "REPL"), (0, u "C"), (2, u "LATIN1"), (1, u "UTF16")] 323

def k7m0 : Method := { name := "<init>", desc := "()V", sig := { parameters := [], returnType := none }, accessFlags := 1, code := none }
def k7c1 : Code := { maxStack := 5, maxLocals := 2, code := jdk_42_method_3_code, exceptionTable := #[], attributes := #[] }
def k7m1 : Method := { name := "<init>", desc := "([C)V", sig := { parameters := [(.array .char)], returnType := none }, accessFlags := 1, code := some k7c1 }
def k7c2 : Code := { maxStack := 2, maxLocals := 1, code := jdk_42_method_54_code, exceptionTable := #[], attributes := #[] }
def k7m2 : Method := { name := "length", desc := "()I", sig := { parameters := [], returnType := some .int }, accessFlags := 1, code := some k7c2 }
def k7c3 : Code := { maxStack := 3, maxLocals := 3, code := jdk_42_method_57_code, exceptionTable := #[], attributes := #[] }
def k7m3 : Method := { name := "codePointAt", desc := "(I)I", sig := { parameters := [.int], returnType := some .int }, accessFlags := 1, code := some k7c3 }
def k7c4 : Code := { maxStack := 4, maxLocals := 6, code := jdk_42_method_149_code, exceptionTable := #[], attributes := #[] }
def k7m4 : Method := { name := "<init>", desc := "([CIILjava/lang/Void;)V", sig := { parameters := [(.array .char), .int, .int, (.object "java/lang/Void")], returnType := none }, accessFlags := 2, code := some k7c4 }
def k7c5 : Code := { maxStack := 1, maxLocals := 1, code := jdk_42_method_152_code, exceptionTable := #[], attributes := #[] }
def k7m5 : Method := { name := "coder", desc := "()B", sig := { parameters := [], returnType := some .byte }, accessFlags := 0, code := some k7c5 }
def k7c6 : Code := { maxStack := 1, maxLocals := 1, code := jdk_42_method_154_code, exceptionTable := #[], attributes := #[] }
def k7m6 : Method := { name := "isLatin1", desc := "()Z", sig := { parameters := [], returnType := some .boolean }, accessFlags := 0, code := some k7c6 }
def k7c7 : Code := { maxStack := 3, maxLocals := 2, code := jdk_42_method_155_code, exceptionTable := #[], attributes := #[] }
def k7m7 : Method := { name := "checkIndex", desc := "(II)V", sig := { parameters := [.int, .int], returnType := none }, accessFlags := 8, code := some k7c7 }
/-- java/lang/String -/
def k7 : Class := { plain "java/lang/String" (some 0) with
  accessFlags := 49
  interfaces := #[2, 3, 4, 5, 6]
  cf := some (fileOf pool7 10 #[.nestMembers #[1103]] #[{ accessFlags := 1, nameIndex := 5, descriptorIndex := 6, attributes := #[] }, { accessFlags := 1, nameIndex := 5, descriptorIndex := 1010, attributes := #[] }, { accessFlags := 1, nameIndex := 507, descriptorIndex := 334, attributes := #[] }, { accessFlags := 1, nameIndex := 504, descriptorIndex := 765, attributes := #[] }, { accessFlags := 2, nameIndex := 5, descriptorIndex := 29, attributes := #[] }, { accessFlags := 0, nameIndex := 17, descriptorIndex := 337, attributes := #[] }, { accessFlags := 0, nameIndex := 494, descriptorIndex := 142, attributes := #[] }, { accessFlags := 8, nameIndex := 501, descriptorIndex := 391, attributes := #[] }] 49 2 #[1106, 1108, 575, 1110, 1112] #[{ accessFlags := 18, nameIndex := 13, descriptorIndex := 14, attributes := #[] }, { accessFlags := 18, nameIndex := 17, descriptorIndex := 18, attributes := #[] }, { accessFlags := 2, nameIndex := 21, descriptorIndex := 22, attributes := #[] }, { accessFlags := 2, nameIndex := 25, descriptorIndex := 26, attributes := #[] }, { accessFlags := 26, nameIndex := 1116, descriptorIndex := 1117, attributes := #[] }, { accessFlags := 24, nameIndex := 40, descriptorIndex := 26, attributes := #[] }, { accessFlags := 26, nameIndex := 1101, descriptorIndex := 1102, attributes := #[] }, { accessFlags := 26, nameIndex := 1121, descriptorIndex := 1122, attributes := #[] }, { accessFlags := 25, nameIndex := 599, descriptorIndex := 600, attributes := #[] }, { accessFlags := 24, nameIndex := 1125, descriptorIndex := 18, attributes := #[] }, { accessFlags := 24, nameIndex := 1127, descriptorIndex := 18, attributes := #[] }])
  fields := #[{ name := "value", type := (.array .byte), accessFlags := 18, slot := 0, constantValue := 0 }, { name := "coder", type := .byte, accessFlags := 18, slot := 1, constantValue := 0 }, { name := "hash", type := .int, accessFlags := 2, slot := 2, constantValue := 0 }, { name := "hashIsZero", type := .boolean, accessFlags := 2, slot := 3, constantValue := 0 }, { name := "serialVersionUID", type := .long, accessFlags := 26, slot := 0, constantValue := 0 }, { name := "COMPACT_STRINGS", type := .boolean, accessFlags := 24, slot := 1, constantValue := 0 }, { name := "serialPersistentFields", type := (.array (.object "java/io/ObjectStreamField")), accessFlags := 26, slot := 2, constantValue := 0 }, { name := "REPL", type := .char, accessFlags := 26, slot := 3, constantValue := 0 }, { name := "CASE_INSENSITIVE_ORDER", type := (.object "java/util/Comparator"), accessFlags := 25, slot := 4, constantValue := 0 }, { name := "LATIN1", type := .byte, accessFlags := 24, slot := 5, constantValue := 0 }, { name := "UTF16", type := .byte, accessFlags := 24, slot := 6, constantValue := 0 }]
  methods := #[k7m0, k7m1, k7m2, k7m3, k7m4, k7m5, k7m6, k7m7]
  instanceTypes := #[(.array .byte), .byte, .int, .boolean]
  staticTypes := #[.long, .boolean, (.array (.object "java/io/ObjectStreamField")), .char, (.object "java/util/Comparator"), .byte, .byte]
  resolved := Array.replicate 1451 none
  statics := some 0 }

def pool8 : Array CpInfo := pool [(2, .class_ 4), (1, u "java/lang/Object"), (0, u "<init>"), (0, u "()V"), (0, .methodref 8 9), (0, .class_ 10), (0, .nameAndType 11 12), (0, u "java/lang/String"), (0, u "length"), (0, u "()I"), (0, .methodref 8 14), (0, .nameAndType 15 16), (0, u "codePointAt"), (0, u "(I)I"), (0, .methodref 18 19), (0, .class_ 20), (0, .nameAndType 21 22), (0, u "java/lang/Integer"), (0, u "compare"), (0, u "(II)I"), (0, .methodref 24 25), (0, .class_ 26), (0, .nameAndType 27 16), (0, u "java/lang/Character"), (0, u "charCount"), (0, .class_ 29), (0, u "com/example/tiphys/tiphys/CodePointOrder"), (2, u "(Ljava/lang/String;Ljava/lang/String;)I")] 3

def k8m0 : Method := { name := "<init>", desc := "()V", sig := { parameters := [], returnType := none }, accessFlags := 2, code := none }
def k8c1 : Code := { maxStack := 2, maxLocals := 5, code := prog_2_method_2_code, exceptionTable := #[], attributes := #[] }
def k8m1 : Method := { name := "compare", desc := "(Ljava/lang/String;Ljava/lang/String;)I", sig := { parameters := [(.object "java/lang/String"), (.object "java/lang/String")], returnType := some .int }, accessFlags := 9, code := some k8c1 }
/-- com/example/tiphys/tiphys/CodePointOrder -/
def k8 : Class := { plain "com/example/tiphys/tiphys/CodePointOrder" (some 0) with
  accessFlags := 33
  interfaces := #[]
  cf := some (fileOf pool8 28 #[] #[{ accessFlags := 2, nameIndex := 5, descriptorIndex := 6, attributes := #[] }, { accessFlags := 9, nameIndex := 21, descriptorIndex := 32, attributes := #[] }] 33 2 #[] #[])
  fields := #[]
  methods := #[k8m0, k8m1]
  instanceTypes := #[]
  staticTypes := #[]
  resolved := Array.replicate 36 none
  statics := none }

def pool9 : Array CpInfo := pool [(2, .class_ 4), (1, u "java/lang/Object"), (0, u "<init>"), (0, u "()V"), (1, .class_ 10), (1, u "java/lang/Number"), (2, .class_ 14), (0, u "java/io/Serializable"), (0, u "serialVersionUID"), (0, u "J")] 20

def k9m0 : Method := { name := "<init>", desc := "()V", sig := { parameters := [], returnType := none }, accessFlags := 1, code := none }
/-- java/lang/Number -/
def k9 : Class := { plain "java/lang/Number" (some 0) with
  accessFlags := 1057
  interfaces := #[2]
  cf := some (fileOf pool9 8 #[] #[{ accessFlags := 1, nameIndex := 5, descriptorIndex := 6, attributes := #[] }] 1057 2 #[13] #[{ accessFlags := 26, nameIndex := 15, descriptorIndex := 16, attributes := #[] }])
  fields := #[{ name := "serialVersionUID", type := .long, accessFlags := 26, slot := 0, constantValue := 0 }]
  methods := #[k9m0]
  instanceTypes := #[]
  staticTypes := #[.long]
  resolved := Array.replicate 37 none
  statics := none }

def pool10 : Array CpInfo := pool [(1, .class_ 2), (0, u "java/lang/Integer"), (16, u "digits"), (0, u "[C"), (39, u "(II)I"), (24, u "DigitOnes"), (0, u "[B"), (2, u "DigitTens"), (99, .class_ 190), (0, u "java/lang/Integer$IntegerCache"), (3, u "I"), (8, .class_ 204), (0, u "java/lang/Number"), (2, u "value"), (53, u "compare"), (40, u "TYPE"), (0, u "Ljava/lang/Class;"), (0, .class_ 305), (0, u "java/lang/Comparable"), (0, .class_ 307), (0, u "java/lang/constant/Constable"), (0, .class_ 309), (0, u "java/lang/constant/ConstantDesc"), (0, u "MIN_VALUE"), (1, u "MAX_VALUE"), (3, u "SIZE"), (1, u "BYTES"), (1, u "serialVersionUID"), (0, u "J")] 131

def k10c0 : Code := { maxStack := 2, maxLocals := 2, code := jdk_33_method_40_code, exceptionTable := #[], attributes := #[] }
def k10m0 : Method := { name := "compare", desc := "(II)I", sig := { parameters := [.int, .int], returnType := some .int }, accessFlags := 9, code := some k10c0 }
/-- java/lang/Integer -/
def k10 : Class := { plain "java/lang/Integer" (some 9) with
  accessFlags := 49
  interfaces := #[3, 5, 6]
  cf := some (fileOf pool10 1 #[.nestMembers #[189]] #[{ accessFlags := 9, nameIndex := 261, descriptorIndex := 60, attributes := #[] }] 49 203 #[304, 306, 308] #[{ accessFlags := 25, nameIndex := 310, descriptorIndex := 194, attributes := #[] }, { accessFlags := 25, nameIndex := 312, descriptorIndex := 194, attributes := #[] }, { accessFlags := 25, nameIndex := 302, descriptorIndex := 303, attributes := #[] }, { accessFlags := 24, nameIndex := 19, descriptorIndex := 20, attributes := #[] }, { accessFlags := 24, nameIndex := 89, descriptorIndex := 86, attributes := #[] }, { accessFlags := 24, nameIndex := 85, descriptorIndex := 86, attributes := #[] }, { accessFlags := 18, nameIndex := 207, descriptorIndex := 194, attributes := #[] }, { accessFlags := 25, nameIndex := 316, descriptorIndex := 194, attributes := #[] }, { accessFlags := 25, nameIndex := 318, descriptorIndex := 194, attributes := #[] }, { accessFlags := 26, nameIndex := 320, descriptorIndex := 321, attributes := #[] }])
  fields := #[{ name := "MIN_VALUE", type := .int, accessFlags := 25, slot := 0, constantValue := 0 }, { name := "MAX_VALUE", type := .int, accessFlags := 25, slot := 1, constantValue := 0 }, { name := "TYPE", type := (.object "java/lang/Class"), accessFlags := 25, slot := 2, constantValue := 0 }, { name := "digits", type := (.array .char), accessFlags := 24, slot := 3, constantValue := 0 }, { name := "DigitTens", type := (.array .byte), accessFlags := 24, slot := 4, constantValue := 0 }, { name := "DigitOnes", type := (.array .byte), accessFlags := 24, slot := 5, constantValue := 0 }, { name := "value", type := .int, accessFlags := 18, slot := 0, constantValue := 0 }, { name := "SIZE", type := .int, accessFlags := 25, slot := 6, constantValue := 0 }, { name := "BYTES", type := .int, accessFlags := 25, slot := 7, constantValue := 0 }, { name := "serialVersionUID", type := .long, accessFlags := 26, slot := 8, constantValue := 0 }]
  methods := #[k10m0]
  instanceTypes := #[.int]
  staticTypes := #[.int, .int, (.object "java/lang/Class"), (.array .char), (.array .byte), (.array .byte), .int, .int, .long]
  resolved := Array.replicate 453 none
  statics := none }

def pool11 : Array CpInfo := pool [(6, .class_ 8), (1, u "java/lang/Object"), (0, u "<init>"), (0, u "()V"), (0, .methodref 12 13), (0, .class_ 14), (0, .nameAndType 15 16), (0, u "java/lang/StringUTF16"), (0, u "newBytesLength"), (0, u "(I)I"), (3, .integer 1073741823), (23, .fieldref 12 45), (0, .nameAndType 46 47), (0, u "$assertionsDisabled"), (0, u "Z"), (11, .fieldref 12 60), (0, .nameAndType 61 62), (0, u "HI_BYTE_SHIFT"), (0, u "I"), (0, .fieldref 12 64), (0, .nameAndType 65 62), (0, u "LO_BYTE_SHIFT"), (5, .methodref 12 72), (0, .nameAndType 73 74), (0, u "getChar"), (0, u "([BI)C"), (0, .methodref 76 77), (0, .class_ 78), (0, .nameAndType 79 80), (0, u "java/lang/Character"), (0, u "isHighSurrogate"), (0, u "(C)Z"), (0, .methodref 76 82), (0, .nameAndType 83 80), (0, u "isLowSurrogate"), (0, .methodref 76 85), (0, .nameAndType 86 87), (0, u "toCodePoint"), (0, u "(CC)I"), (0, .methodref 12 89), (0, .nameAndType 90 91), (0, u "codePointAt"), (0, u "([BIIZ)I"), (15, .methodref 12 108), (0, .nameAndType 109 110), (0, u "newBytesFor"), (0, u "(I)[B"), (0, .methodref 12 112), (0, .nameAndType 113 114), (0, u "putChar"), (0, u "([BII)V"), (0, .methodref 12 116), (0, .nameAndType 117 118), (0, u "compress"), (0, u "([CI[BII)I"), (0, .methodref 12 120), (0, .nameAndType 121 122), (0, u "toBytes"), (0, u "([CII)[B"), (127, u "([BII)I"), (10, u "coderFromArrayLen"), (0, u "([BI)B"), (106, .class_ 371), (1, u "java/lang/StringUTF16$LinesSpliterator"), (58, u "MAX_LENGTH"), (196, .class_ 628), (0, u "java/lang/StringUTF16$CodePointsSpliterator"), (0, .class_ 630), (0, u "java/lang/StringUTF16$CharsSpliterator")] 4

def k11m0 : Method := { name := "<init>", desc := "()V", sig := { parameters := [], returnType := none }, accessFlags := 0, code := none }
def k11c1 : Code := { maxStack := 1, maxLocals := 1, code := jdk_52_method_2_code, exceptionTable := #[], attributes := #[] }
def k11m1 : Method := { name := "newBytesFor", desc := "(I)[B", sig := { parameters := [.int], returnType := some (.array .byte) }, accessFlags := 9, code := some k11c1 }
def k11c2 : Code := { maxStack := 4, maxLocals := 1, code := jdk_52_method_3_code, exceptionTable := #[], attributes := #[] }
def k11m2 : Method := { name := "newBytesLength", desc := "(I)I", sig := { parameters := [.int], returnType := some .int }, accessFlags := 9, code := some k11c2 }
def k11c3 : Code := { maxStack := 4, maxLocals := 3, code := jdk_52_method_4_code, exceptionTable := #[], attributes := #[] }
def k11m3 : Method := { name := "putChar", desc := "([BII)V", sig := { parameters := [(.array .byte), .int, .int], returnType := none }, accessFlags := 8, code := some k11c3 }
def k11c4 : Code := { maxStack := 3, maxLocals := 2, code := jdk_52_method_5_code, exceptionTable := #[], attributes := #[] }
def k11m4 : Method := { name := "getChar", desc := "([BI)C", sig := { parameters := [(.array .byte), .int], returnType := some .char }, accessFlags := 8, code := some k11c4 }
def k11c5 : Code := { maxStack := 2, maxLocals := 6, code := jdk_52_method_7_code, exceptionTable := #[], attributes := #[] }
def k11m5 : Method := { name := "codePointAt", desc := "([BIIZ)I", sig := { parameters := [(.array .byte), .int, .int, .boolean], returnType := some .int }, accessFlags := 10, code := some k11c5 }
def k11c6 : Code := { maxStack := 4, maxLocals := 3, code := jdk_52_method_8_code, exceptionTable := #[], attributes := #[] }
def k11m6 : Method := { name := "codePointAt", desc := "([BII)I", sig := { parameters := [(.array .byte), .int, .int], returnType := some .int }, accessFlags := 9, code := some k11c6 }
def k11c7 : Code := { maxStack := 4, maxLocals := 5, code := jdk_52_method_14_code, exceptionTable := #[], attributes := #[] }
def k11m7 : Method := { name := "toBytes", desc := "([CII)[B", sig := { parameters := [(.array .char), .int, .int], returnType := some (.array .byte) }, accessFlags := 9, code := some k11c7 }
def k11c8 : Code := { maxStack := 2, maxLocals := 2, code := jdk_52_method_15_code, exceptionTable := #[], attributes := #[] }
def k11m8 : Method := { name := "coderFromArrayLen", desc := "([BI)B", sig := { parameters := [(.array .byte), .int], returnType := some .byte }, accessFlags := 8, code := some k11c8 }
def k11c9 : Code := { maxStack := 5, maxLocals := 6, code := jdk_52_method_16_code, exceptionTable := #[], attributes := #[] }
def k11m9 : Method := { name := "compress", desc := "([CII)[B", sig := { parameters := [(.array .char), .int, .int], returnType := some (.array .byte) }, accessFlags := 9, code := some k11c9 }
def k11c10 : Code := { maxStack := 3, maxLocals := 7, code := jdk_52_method_21_code, exceptionTable := #[], attributes := #[] }
def k11m10 : Method := { name := "compress", desc := "([CI[BII)I", sig := { parameters := [(.array .char), .int, (.array .byte), .int, .int], returnType := some .int }, accessFlags := 9, code := some k11c10 }
/-- java/lang/StringUTF16 -/
def k11 : Class := { plain "java/lang/StringUTF16" (some 0) with
  accessFlags := 48
  interfaces := #[]
  cf := some (fileOf pool11 12 #[.nestMembers #[627, 629, 369]] #[{ accessFlags := 0, nameIndex := 9, descriptorIndex := 10, attributes := #[] }, { accessFlags := 9, nameIndex := 109, descriptorIndex := 110, attributes := #[] }, { accessFlags := 9, nameIndex := 15, descriptorIndex := 16, attributes := #[] }, { accessFlags := 8, nameIndex := 113, descriptorIndex := 114, attributes := #[] }, { accessFlags := 8, nameIndex := 73, descriptorIndex := 74, attributes := #[] }, { accessFlags := 10, nameIndex := 90, descriptorIndex := 91, attributes := #[] }, { accessFlags := 9, nameIndex := 90, descriptorIndex := 250, attributes := #[] }, { accessFlags := 9, nameIndex := 121, descriptorIndex := 122, attributes := #[] }, { accessFlags := 8, nameIndex := 261, descriptorIndex := 262, attributes := #[] }, { accessFlags := 9, nameIndex := 117, descriptorIndex := 122, attributes := #[] }, { accessFlags := 9, nameIndex := 117, descriptorIndex := 118, attributes := #[] }] 48 6 #[] #[{ accessFlags := 26, nameIndex := 61, descriptorIndex := 62, attributes := #[] }, { accessFlags := 26, nameIndex := 65, descriptorIndex := 62, attributes := #[] }, { accessFlags := 24, nameIndex := 430, descriptorIndex := 62, attributes := #[] }, { accessFlags := 4120, nameIndex := 46, descriptorIndex := 47, attributes := #[] }])
  fields := #[{ name := "HI_BYTE_SHIFT", type := .int, accessFlags := 26, slot := 0, constantValue := 0 }, { name := "LO_BYTE_SHIFT", type := .int, accessFlags := 26, slot := 1, constantValue := 0 }, { name := "MAX_LENGTH", type := .int, accessFlags := 24, slot := 2, constantValue := 0 }, { name := "$assertionsDisabled", type := .boolean, accessFlags := 4120, slot := 3, constantValue := 0 }]
  methods := #[k11m0, k11m1, k11m2, k11m3, k11m4, k11m5, k11m6, k11m7, k11m8, k11m9, k11m10]
  instanceTypes := #[]
  staticTypes := #[.int, .int, .int, .boolean]
  resolved := Array.replicate 635 none
  statics := some 1 }

def pool12 : Array CpInfo := pool [(2, .class_ 4), (1, u "java/lang/Object"), (0, u "<init>"), (0, u "()V"), (17, .class_ 26), (1, u "jdk/internal/util/Preconditions"), (6, u "checkIndex"), (21, .class_ 56), (0, u "jdk/internal/util/Preconditions$4"), (57, .class_ 115), (0, u "jdk/internal/util/Preconditions$1"), (7, u "SIOOBE_FORMATTER"), (0, u "Ljava/util/function/BiFunction;"), (0, .class_ 126), (0, u "jdk/internal/util/Preconditions$2"), (3, u "AIOOBE_FORMATTER"), (0, .class_ 132), (0, u "jdk/internal/util/Preconditions$3"), (3, u "IOOBE_FORMATTER"), (41, u "(IILjava/util/function/BiFunction;)I")] 15

def k12m0 : Method := { name := "<init>", desc := "()V", sig := { parameters := [], returnType := none }, accessFlags := 1, code := none }
def k12c1 : Code := { maxStack := 3, maxLocals := 3, code := jdk_41_method_11_code, exceptionTable := #[], attributes := #[] }
def k12m1 : Method := { name := "checkIndex", desc := "(IILjava/util/function/BiFunction;)I", sig := { parameters := [.int, .int, (.object "java/util/function/BiFunction")], returnType := some .int }, accessFlags := 9, code := some k12c1 }
/-- jdk/internal/util/Preconditions -/
def k12 : Class := { plain "jdk/internal/util/Preconditions" (some 0) with
  accessFlags := 33
  interfaces := #[]
  cf := some (fileOf pool12 24 #[.nestMembers #[55, 131, 125, 114]] #[{ accessFlags := 1, nameIndex := 5, descriptorIndex := 6, attributes := #[] }, { accessFlags := 9, nameIndex := 33, descriptorIndex := 178, attributes := #[] }] 33 2 #[] #[{ accessFlags := 25, nameIndex := 123, descriptorIndex := 124, attributes := #[] }, { accessFlags := 25, nameIndex := 130, descriptorIndex := 124, attributes := #[] }, { accessFlags := 25, nameIndex := 136, descriptorIndex := 124, attributes := #[] }])
  fields := #[{ name := "SIOOBE_FORMATTER", type := (.object "java/util/function/BiFunction"), accessFlags := 25, slot := 0, constantValue := 0 }, { name := "AIOOBE_FORMATTER", type := (.object "java/util/function/BiFunction"), accessFlags := 25, slot := 1, constantValue := 0 }, { name := "IOOBE_FORMATTER", type := (.object "java/util/function/BiFunction"), accessFlags := 25, slot := 2, constantValue := 0 }]
  methods := #[k12m0, k12m1]
  instanceTypes := #[]
  staticTypes := #[(.object "java/util/function/BiFunction"), (.object "java/util/function/BiFunction"), (.object "java/util/function/BiFunction")]
  resolved := Array.replicate 194 none
  statics := some 2 }

def pool13 : Array CpInfo := pool [(1, .class_ 2), (0, u "java/lang/Character"), (18, u "value"), (0, u "C"), (19, .class_ 44), (1, u "java/lang/Object"), (3, .class_ 50), (1, u "java/lang/Character$CharacterCache"), (22, .integer 65536), (1, .integer 55296), (0, .integer 56320), (0, .integer 57344), (2, u "isHighSurrogate"), (0, u "(C)Z"), (2, u "isLowSurrogate"), (0, .integer 4238353408), (12, u "toCodePoint"), (0, u "(CC)I"), (74, u "(I)I"), (109, u "$assertionsDisabled"), (0, u "Z"), (21, .class_ 309), (1, u "java/lang/Character$UnicodeBlock"), (73, u "TYPE"), (0, u "Ljava/lang/Class;"), (0, .class_ 386), (0, u "java/io/Serializable"), (0, .class_ 388), (0, u "java/lang/Comparable"), (0, .class_ 390), (0, u "java/lang/constant/Constable"), (0, u "MIN_RADIX"), (0, u "I"), (2, u "MAX_RADIX"), (1, u "MIN_VALUE"), (1, u "MAX_VALUE"), (3, u "UNASSIGNED"), (0, u "B"), (0, u "UPPERCASE_LETTER"), (1, u "LOWERCASE_LETTER"), (0, u "TITLECASE_LETTER"), (1, u "MODIFIER_LETTER"), (1, u "OTHER_LETTER"), (1, u "NON_SPACING_MARK"), (1, u "ENCLOSING_MARK"), (1, u "COMBINING_SPACING_MARK"), (1, u "DECIMAL_DIGIT_NUMBER"), (1, u "LETTER_NUMBER"), (1, u "OTHER_NUMBER"), (1, u "SPACE_SEPARATOR"), (1, u "LINE_SEPARATOR"), (1, u "PARAGRAPH_SEPARATOR"), (1, u "CONTROL"), (1, u "FORMAT"), (1, u "PRIVATE_USE"), (1, u "SURROGATE"), (1, u "DASH_PUNCTUATION"), (1, u "START_PUNCTUATION"), (1, u "END_PUNCTUATION"), (1, u "CONNECTOR_PUNCTUATION"), (1, u "OTHER_PUNCTUATION"), (1, u "MATH_SYMBOL"), (1, u "CURRENCY_SYMBOL"), (1, u "MODIFIER_SYMBOL"), (1, u "OTHER_SYMBOL"), (1, u "INITIAL_QUOTE_PUNCTUATION"), (1, u "FINAL_QUOTE_PUNCTUATION"), (1, u "ERROR"), (1, u "DIRECTIONALITY_UNDEFINED"), (0, u "DIRECTIONALITY_LEFT_TO_RIGHT"), (0, u "DIRECTIONALITY_RIGHT_TO_LEFT"), (0, u "DIRECTIONALITY_RIGHT_TO_LEFT_ARABIC"), (0, u "DIRECTIONALITY_EUROPEAN_NUMBER"), (0, u "DIRECTIONALITY_EUROPEAN_NUMBER_SEPARATOR"), (0, u "DIRECTIONALITY_EUROPEAN_NUMBER_TERMINATOR"), (0, u "DIRECTIONALITY_ARABIC_NUMBER"), (0, u "DIRECTIONALITY_COMMON_NUMBER_SEPARATOR"), (0, u "DIRECTIONALITY_NONSPACING_MARK"), (0, u "DIRECTIONALITY_BOUNDARY_NEUTRAL"), (0, u "DIRECTIONALITY_PARAGRAPH_SEPARATOR"), (0, u "DIRECTIONALITY_SEGMENT_SEPARATOR"), (0, u "DIRECTIONALITY_WHITESPACE"), (0, u "DIRECTIONALITY_OTHER_NEUTRALS"), (0, u "DIRECTIONALITY_LEFT_TO_RIGHT_EMBEDDING"), (0, u "DIRECTIONALITY_LEFT_TO_RIGHT_OVERRIDE"), (0, u "DIRECTIONALITY_RIGHT_TO_LEFT_EMBEDDING"), (0, u "DIRECTIONALITY_RIGHT_TO_LEFT_OVERRIDE"), (1, u "DIRECTIONALITY_POP_DIRECTIONAL_FORMAT"), (0, u "DIRECTIONALITY_LEFT_TO_RIGHT_ISOLATE"), (0, u "DIRECTIONALITY_RIGHT_TO_LEFT_ISOLATE"), (0, u "DIRECTIONALITY_FIRST_STRONG_ISOLATE"), (0, u "DIRECTIONALITY_POP_DIRECTIONAL_ISOLATE"), (0, u "MIN_HIGH_SURROGATE"), (0, u "MAX_HIGH_SURROGATE"), (1, u "MIN_LOW_SURROGATE"), (0, u "MAX_LOW_SURROGATE"), (1, u "MIN_SURROGATE"), (0, u "MAX_SURROGATE"), (0, u "MIN_SUPPLEMENTARY_CODE_POINT"), (0, u "MIN_CODE_POINT"), (0, u "MAX_CODE_POINT"), (1, u "serialVersionUID"), (0, u "J"), (2, u "SIZE"), (0, u "BYTES"), (29, u "charCount"), (58, .class_ 596), (0, u "java/lang/Character$UnicodeScript"), (0, .class_ 598), (0, u "java/lang/Character$Subset")] 5

def k13c0 : Code := { maxStack := 2, maxLocals := 1, code := jdk_89_method_14_code, exceptionTable := #[], attributes := #[] }
def k13m0 : Method := { name := "isHighSurrogate", desc := "(C)Z", sig := { parameters := [.char], returnType := some .boolean }, accessFlags := 9, code := some k13c0 }
def k13c1 : Code := { maxStack := 2, maxLocals := 1, code := jdk_89_method_15_code, exceptionTable := #[], attributes := #[] }
def k13m1 : Method := { name := "isLowSurrogate", desc := "(C)Z", sig := { parameters := [.char], returnType := some .boolean }, accessFlags := 9, code := some k13c1 }
def k13c2 : Code := { maxStack := 2, maxLocals := 1, code := jdk_89_method_18_code, exceptionTable := #[], attributes := #[] }
def k13m2 : Method := { name := "charCount", desc := "(I)I", sig := { parameters := [.int], returnType := some .int }, accessFlags := 9, code := some k13c2 }
def k13c3 : Code := { maxStack := 2, maxLocals := 2, code := jdk_89_method_19_code, exceptionTable := #[], attributes := #[] }
def k13m3 : Method := { name := "toCodePoint", desc := "(CC)I", sig := { parameters := [.char, .char], returnType := some .int }, accessFlags := 9, code := some k13c3 }
/-- java/lang/Character -/
def k13 : Class := { plain "java/lang/Character" (some 0) with
  accessFlags := 49
  interfaces := #[2, 3, 5]
  cf := some (fileOf pool13 1 #[.nestMembers #[48, 595, 307, 597]] #[{ accessFlags := 9, nameIndex := 80, descriptorIndex := 81, attributes := #[] }, { accessFlags := 9, nameIndex := 84, descriptorIndex := 81, attributes := #[] }, { accessFlags := 9, nameIndex := 536, descriptorIndex := 174, attributes := #[] }, { accessFlags := 9, nameIndex := 98, descriptorIndex := 99, attributes := #[] }] 49 42 #[385, 387, 389] #[{ accessFlags := 25, nameIndex := 391, descriptorIndex := 392, attributes := #[] }, { accessFlags := 25, nameIndex := 395, descriptorIndex := 392, attributes := #[] }, { accessFlags := 25, nameIndex := 397, descriptorIndex := 22, attributes := #[] }, { accessFlags := 25, nameIndex := 399, descriptorIndex := 22, attributes := #[] }, { accessFlags := 25, nameIndex := 383, descriptorIndex := 384, attributes := #[] }, { accessFlags := 25, nameIndex := 403, descriptorIndex := 404, attributes := #[] }, { accessFlags := 25, nameIndex := 405, descriptorIndex := 404, attributes := #[] }, { accessFlags := 25, nameIndex := 407, descriptorIndex := 404, attributes := #[] }, { accessFlags := 25, nameIndex := 408, descriptorIndex := 404, attributes := #[] }, { accessFlags := 25, nameIndex := 410, descriptorIndex := 404, attributes := #[] }, { accessFlags := 25, nameIndex := 412, descriptorIndex := 404, attributes := #[] }, { accessFlags := 25, nameIndex := 414, descriptorIndex := 404, attributes := #[] }, { accessFlags := 25, nameIndex := 416, descriptorIndex := 404, attributes := #[] }, { accessFlags := 25, nameIndex := 418, descriptorIndex := 404, attributes := #[] }, { accessFlags := 25, nameIndex := 420, descriptorIndex := 404, attributes := #[] }, { accessFlags := 25, nameIndex := 422, descriptorIndex := 404, attributes := #[] }, { accessFlags := 25, nameIndex := 424, descriptorIndex := 404, attributes := #[] }, { accessFlags := 25, nameIndex := 426, descriptorIndex := 404, attributes := #[] }, { accessFlags := 25, nameIndex := 428, descriptorIndex := 404, attributes := #[] }, { accessFlags := 25, nameIndex := 430, descriptorIndex := 404, attributes := #[] }, { accessFlags := 25, nameIndex := 432, descriptorIndex := 404, attributes := #[] }, { accessFlags := 25, nameIndex := 434, descriptorIndex := 404, attributes := #[] }, { accessFlags := 25, nameIndex := 436, descriptorIndex := 404, attributes := #[] }, { accessFlags := 25, nameIndex := 438, descriptorIndex := 404, attributes := #[] }, { accessFlags := 25, nameIndex := 440, descriptorIndex := 404, attributes := #[] }, { accessFlags := 25, nameIndex := 442, descriptorIndex := 404, attributes := #[] }, { accessFlags := 25, nameIndex := 444, descriptorIndex := 404, attributes := #[] }, { accessFlags := 25, nameIndex := 446, descriptorIndex := 404, attributes := #[] }, { accessFlags := 25, nameIndex := 448, descriptorIndex := 404, attributes := #[] }, { accessFlags := 25, nameIndex := 450, descriptorIndex := 404, attributes := #[] }, { accessFlags := 25, nameIndex := 452, descriptorIndex := 404, attributes := #[] }, { accessFlags := 25, nameIndex := 454, descriptorIndex := 404, attributes := #[] }, { accessFlags := 25, nameIndex := 456, descriptorIndex := 404, attributes := #[] }, { accessFlags := 25, nameIndex := 458, descriptorIndex := 404, attributes := #[] }, { accessFlags := 25, nameIndex := 460, descriptorIndex := 404, attributes := #[] }, { accessFlags := 24, nameIndex := 462, descriptorIndex := 392, attributes := #[] }, { accessFlags := 25, nameIndex := 464, descriptorIndex := 404, attributes := #[] }, { accessFlags := 25, nameIndex := 465, descriptorIndex := 404, attributes := #[] }, { accessFlags := 25, nameIndex := 466, descriptorIndex := 404, attributes := #[] }, { accessFlags := 25, nameIndex := 467, descriptorIndex := 404, attributes := #[] }, { accessFlags := 25, nameIndex := 468, descriptorIndex := 404, attributes := #[] }, { accessFlags := 25, nameIndex := 469, descriptorIndex := 404, attributes := #[] }, { accessFlags := 25, nameIndex := 470, descriptorIndex := 404, attributes := #[] }, { accessFlags := 25, nameIndex := 471, descriptorIndex := 404, attributes := #[] }, { accessFlags := 25, nameIndex := 472, descriptorIndex := 404, attributes := #[] }, { accessFlags := 25, nameIndex := 473, descriptorIndex := 404, attributes := #[] }, { accessFlags := 25, nameIndex := 474, descriptorIndex := 404, attributes := #[] }, { accessFlags := 25, nameIndex := 475, descriptorIndex := 404, attributes := #[] }, { accessFlags := 25, nameIndex := 476, descriptorIndex := 404, attributes := #[] }, { accessFlags := 25, nameIndex := 477, descriptorIndex := 404, attributes := #[] }, { accessFlags := 25, nameIndex := 478, descriptorIndex := 404, attributes := #[] }, { accessFlags := 25, nameIndex := 479, descriptorIndex := 404, attributes := #[] }, { accessFlags := 25, nameIndex := 480, descriptorIndex := 404, attributes := #[] }, { accessFlags := 25, nameIndex := 481, descriptorIndex := 404, attributes := #[] }, { accessFlags := 25, nameIndex := 482, descriptorIndex := 404, attributes := #[] }, { accessFlags := 25, nameIndex := 484, descriptorIndex := 404, attributes := #[] }, { accessFlags := 25, nameIndex := 485, descriptorIndex := 404, attributes := #[] }, { accessFlags := 25, nameIndex := 486, descriptorIndex := 404, attributes := #[] }, { accessFlags := 25, nameIndex := 487, descriptorIndex := 404, attributes := #[] }, { accessFlags := 25, nameIndex := 488, descriptorIndex := 404, attributes := #[] }, { accessFlags := 25, nameIndex := 489, descriptorIndex := 22, attributes := #[] }, { accessFlags := 25, nameIndex := 490, descriptorIndex := 22, attributes := #[] }, { accessFlags := 25, nameIndex := 492, descriptorIndex := 22, attributes := #[] }, { accessFlags := 25, nameIndex := 493, descriptorIndex := 22, attributes := #[] }, { accessFlags := 25, nameIndex := 495, descriptorIndex := 22, attributes := #[] }, { accessFlags := 25, nameIndex := 496, descriptorIndex := 22, attributes := #[] }, { accessFlags := 25, nameIndex := 497, descriptorIndex := 392, attributes := #[] }, { accessFlags := 25, nameIndex := 498, descriptorIndex := 392, attributes := #[] }, { accessFlags := 25, nameIndex := 499, descriptorIndex := 392, attributes := #[] }, { accessFlags := 18, nameIndex := 21, descriptorIndex := 22, attributes := #[] }, { accessFlags := 26, nameIndex := 501, descriptorIndex := 502, attributes := #[] }, { accessFlags := 25, nameIndex := 505, descriptorIndex := 392, attributes := #[] }, { accessFlags := 25, nameIndex := 506, descriptorIndex := 392, attributes := #[] }, { accessFlags := 4120, nameIndex := 284, descriptorIndex := 285, attributes := #[] }])
  fields := #[{ name := "MIN_RADIX", type := .int, accessFlags := 25, slot := 0, constantValue := 0 }, { name := "MAX_RADIX", type := .int, accessFlags := 25, slot := 1, constantValue := 0 }, { name := "MIN_VALUE", type := .char, accessFlags := 25, slot := 2, constantValue := 0 }, { name := "MAX_VALUE", type := .char, accessFlags := 25, slot := 3, constantValue := 0 }, { name := "TYPE", type := (.object "java/lang/Class"), accessFlags := 25, slot := 4, constantValue := 0 }, { name := "UNASSIGNED", type := .byte, accessFlags := 25, slot := 5, constantValue := 0 }, { name := "UPPERCASE_LETTER", type := .byte, accessFlags := 25, slot := 6, constantValue := 0 }, { name := "LOWERCASE_LETTER", type := .byte, accessFlags := 25, slot := 7, constantValue := 0 }, { name := "TITLECASE_LETTER", type := .byte, accessFlags := 25, slot := 8, constantValue := 0 }, { name := "MODIFIER_LETTER", type := .byte, accessFlags := 25, slot := 9, constantValue := 0 }, { name := "OTHER_LETTER", type := .byte, accessFlags := 25, slot := 10, constantValue := 0 }, { name := "NON_SPACING_MARK", type := .byte, accessFlags := 25, slot := 11, constantValue := 0 }, { name := "ENCLOSING_MARK", type := .byte, accessFlags := 25, slot := 12, constantValue := 0 }, { name := "COMBINING_SPACING_MARK", type := .byte, accessFlags := 25, slot := 13, constantValue := 0 }, { name := "DECIMAL_DIGIT_NUMBER", type := .byte, accessFlags := 25, slot := 14, constantValue := 0 }, { name := "LETTER_NUMBER", type := .byte, accessFlags := 25, slot := 15, constantValue := 0 }, { name := "OTHER_NUMBER", type := .byte, accessFlags := 25, slot := 16, constantValue := 0 }, { name := "SPACE_SEPARATOR", type := .byte, accessFlags := 25, slot := 17, constantValue := 0 }, { name := "LINE_SEPARATOR", type := .byte, accessFlags := 25, slot := 18, constantValue := 0 }, { name := "PARAGRAPH_SEPARATOR", type := .byte, accessFlags := 25, slot := 19, constantValue := 0 }, { name := "CONTROL", type := .byte, accessFlags := 25, slot := 20, constantValue := 0 }, { name := "FORMAT", type := .byte, accessFlags := 25, slot := 21, constantValue := 0 }, { name := "PRIVATE_USE", type := .byte, accessFlags := 25, slot := 22, constantValue := 0 }, { name := "SURROGATE", type := .byte, accessFlags := 25, slot := 23, constantValue := 0 }, { name := "DASH_PUNCTUATION", type := .byte, accessFlags := 25, slot := 24, constantValue := 0 }, { name := "START_PUNCTUATION", type := .byte, accessFlags := 25, slot := 25, constantValue := 0 }, { name := "END_PUNCTUATION", type := .byte, accessFlags := 25, slot := 26, constantValue := 0 }, { name := "CONNECTOR_PUNCTUATION", type := .byte, accessFlags := 25, slot := 27, constantValue := 0 }, { name := "OTHER_PUNCTUATION", type := .byte, accessFlags := 25, slot := 28, constantValue := 0 }, { name := "MATH_SYMBOL", type := .byte, accessFlags := 25, slot := 29, constantValue := 0 }, { name := "CURRENCY_SYMBOL", type := .byte, accessFlags := 25, slot := 30, constantValue := 0 }, { name := "MODIFIER_SYMBOL", type := .byte, accessFlags := 25, slot := 31, constantValue := 0 }, { name := "OTHER_SYMBOL", type := .byte, accessFlags := 25, slot := 32, constantValue := 0 }, { name := "INITIAL_QUOTE_PUNCTUATION", type := .byte, accessFlags := 25, slot := 33, constantValue := 0 }, { name := "FINAL_QUOTE_PUNCTUATION", type := .byte, accessFlags := 25, slot := 34, constantValue := 0 }, { name := "ERROR", type := .int, accessFlags := 24, slot := 35, constantValue := 0 }, { name := "DIRECTIONALITY_UNDEFINED", type := .byte, accessFlags := 25, slot := 36, constantValue := 0 }, { name := "DIRECTIONALITY_LEFT_TO_RIGHT", type := .byte, accessFlags := 25, slot := 37, constantValue := 0 }, { name := "DIRECTIONALITY_RIGHT_TO_LEFT", type := .byte, accessFlags := 25, slot := 38, constantValue := 0 }, { name := "DIRECTIONALITY_RIGHT_TO_LEFT_ARABIC", type := .byte, accessFlags := 25, slot := 39, constantValue := 0 }, { name := "DIRECTIONALITY_EUROPEAN_NUMBER", type := .byte, accessFlags := 25, slot := 40, constantValue := 0 }, { name := "DIRECTIONALITY_EUROPEAN_NUMBER_SEPARATOR", type := .byte, accessFlags := 25, slot := 41, constantValue := 0 }, { name := "DIRECTIONALITY_EUROPEAN_NUMBER_TERMINATOR", type := .byte, accessFlags := 25, slot := 42, constantValue := 0 }, { name := "DIRECTIONALITY_ARABIC_NUMBER", type := .byte, accessFlags := 25, slot := 43, constantValue := 0 }, { name := "DIRECTIONALITY_COMMON_NUMBER_SEPARATOR", type := .byte, accessFlags := 25, slot := 44, constantValue := 0 }, { name := "DIRECTIONALITY_NONSPACING_MARK", type := .byte, accessFlags := 25, slot := 45, constantValue := 0 }, { name := "DIRECTIONALITY_BOUNDARY_NEUTRAL", type := .byte, accessFlags := 25, slot := 46, constantValue := 0 }, { name := "DIRECTIONALITY_PARAGRAPH_SEPARATOR", type := .byte, accessFlags := 25, slot := 47, constantValue := 0 }, { name := "DIRECTIONALITY_SEGMENT_SEPARATOR", type := .byte, accessFlags := 25, slot := 48, constantValue := 0 }, { name := "DIRECTIONALITY_WHITESPACE", type := .byte, accessFlags := 25, slot := 49, constantValue := 0 }, { name := "DIRECTIONALITY_OTHER_NEUTRALS", type := .byte, accessFlags := 25, slot := 50, constantValue := 0 }, { name := "DIRECTIONALITY_LEFT_TO_RIGHT_EMBEDDING", type := .byte, accessFlags := 25, slot := 51, constantValue := 0 }, { name := "DIRECTIONALITY_LEFT_TO_RIGHT_OVERRIDE", type := .byte, accessFlags := 25, slot := 52, constantValue := 0 }, { name := "DIRECTIONALITY_RIGHT_TO_LEFT_EMBEDDING", type := .byte, accessFlags := 25, slot := 53, constantValue := 0 }, { name := "DIRECTIONALITY_RIGHT_TO_LEFT_OVERRIDE", type := .byte, accessFlags := 25, slot := 54, constantValue := 0 }, { name := "DIRECTIONALITY_POP_DIRECTIONAL_FORMAT", type := .byte, accessFlags := 25, slot := 55, constantValue := 0 }, { name := "DIRECTIONALITY_LEFT_TO_RIGHT_ISOLATE", type := .byte, accessFlags := 25, slot := 56, constantValue := 0 }, { name := "DIRECTIONALITY_RIGHT_TO_LEFT_ISOLATE", type := .byte, accessFlags := 25, slot := 57, constantValue := 0 }, { name := "DIRECTIONALITY_FIRST_STRONG_ISOLATE", type := .byte, accessFlags := 25, slot := 58, constantValue := 0 }, { name := "DIRECTIONALITY_POP_DIRECTIONAL_ISOLATE", type := .byte, accessFlags := 25, slot := 59, constantValue := 0 }, { name := "MIN_HIGH_SURROGATE", type := .char, accessFlags := 25, slot := 60, constantValue := 0 }, { name := "MAX_HIGH_SURROGATE", type := .char, accessFlags := 25, slot := 61, constantValue := 0 }, { name := "MIN_LOW_SURROGATE", type := .char, accessFlags := 25, slot := 62, constantValue := 0 }, { name := "MAX_LOW_SURROGATE", type := .char, accessFlags := 25, slot := 63, constantValue := 0 }, { name := "MIN_SURROGATE", type := .char, accessFlags := 25, slot := 64, constantValue := 0 }, { name := "MAX_SURROGATE", type := .char, accessFlags := 25, slot := 65, constantValue := 0 }, { name := "MIN_SUPPLEMENTARY_CODE_POINT", type := .int, accessFlags := 25, slot := 66, constantValue := 0 }, { name := "MIN_CODE_POINT", type := .int, accessFlags := 25, slot := 67, constantValue := 0 }, { name := "MAX_CODE_POINT", type := .int, accessFlags := 25, slot := 68, constantValue := 0 }, { name := "value", type := .char, accessFlags := 18, slot := 0, constantValue := 0 }, { name := "serialVersionUID", type := .long, accessFlags := 26, slot := 69, constantValue := 0 }, { name := "SIZE", type := .int, accessFlags := 25, slot := 70, constantValue := 0 }, { name := "BYTES", type := .int, accessFlags := 25, slot := 71, constantValue := 0 }, { name := "$assertionsDisabled", type := .boolean, accessFlags := 4120, slot := 72, constantValue := 0 }]
  methods := #[k13m0, k13m1, k13m2, k13m3]
  instanceTypes := #[.char]
  staticTypes := #[.int, .int, .char, .char, (.object "java/lang/Class"), .byte, .byte, .byte, .byte, .byte, .byte, .byte, .byte, .byte, .byte, .byte, .byte, .byte, .byte, .byte, .byte, .byte, .byte, .byte, .byte, .byte, .byte, .byte, .byte, .byte, .byte, .byte, .byte, .byte, .byte, .int, .byte, .byte, .byte, .byte, .byte, .byte, .byte, .byte, .byte, .byte, .byte, .byte, .byte, .byte, .byte, .byte, .byte, .byte, .byte, .byte, .byte, .byte, .byte, .byte, .char, .char, .char, .char, .char, .char, .int, .int, .int, .long, .int, .int, .boolean]
  resolved := Array.replicate 604 none
  statics := none }

def pool14 : Array CpInfo := pool [(4, .class_ 6), (1, u "java/lang/Object"), (0, u "<init>"), (0, u "()V"), (5, .class_ 16), (1, u "java/lang/StringLatin1"), (104, u "$assertionsDisabled"), (0, u "Z"), (98, .class_ 223), (1, u "java/lang/StringLatin1$LinesSpliterator"), (166, .class_ 391), (0, u "java/lang/StringLatin1$CharsSpliterator")] 3

def k14m0 : Method := { name := "<init>", desc := "()V", sig := { parameters := [], returnType := none }, accessFlags := 0, code := none }
/-- java/lang/StringLatin1 -/
def k14 : Class := { plain "java/lang/StringLatin1" (some 0) with
  accessFlags := 48
  interfaces := #[]
  cf := some (fileOf pool14 14 #[.nestMembers #[390, 221]] #[{ accessFlags := 0, nameIndex := 7, descriptorIndex := 8, attributes := #[] }] 48 4 #[] #[{ accessFlags := 4120, nameIndex := 121, descriptorIndex := 122, attributes := #[] }])
  fields := #[{ name := "$assertionsDisabled", type := .boolean, accessFlags := 4120, slot := 0, constantValue := 0 }]
  methods := #[k14m0]
  instanceTypes := #[]
  staticTypes := #[.boolean]
  resolved := Array.replicate 395 none
  statics := none }

def pool15 : Array CpInfo := pool [(9, u "<init>"), (6, .class_ 18), (1, u "java/lang/Object"), (0, u "()V"), (1, .class_ 23), (1, u "jdk/internal/util/ArraysSupport"), (0, u "LOG2_ARRAY_LONG_INDEX_SCALE"), (0, u "I"), (2, u "U"), (0, u "Ljdk/internal/misc/Unsafe;"), (8, u "BIG_ENDIAN"), (0, u "Z"), (8, u "LOG2_BYTE_BIT_SIZE"), (4, u "LOG2_ARRAY_INT_INDEX_SCALE"), (54, u "JLA"), (0, u "Ljdk/internal/access/JavaLangAccess;"), (11, u "LOG2_ARRAY_BOOLEAN_INDEX_SCALE"), (9, u "LOG2_ARRAY_BYTE_INDEX_SCALE"), (5, u "LOG2_ARRAY_CHAR_INDEX_SCALE"), (5, u "LOG2_ARRAY_SHORT_INDEX_SCALE"), (18, u "LOG2_ARRAY_FLOAT_INDEX_SCALE"), (24, u "LOG2_ARRAY_DOUBLE_INDEX_SCALE"), (89, u "T_BOOLEAN"), (2, u "T_CHAR"), (1, u "T_FLOAT"), (1, u "T_DOUBLE"), (1, u "T_BYTE"), (1, u "T_SHORT"), (1, u "T_INT"), (1, u "T_LONG"), (1, u "SOFT_MAX_ARRAY_LENGTH")] 83

def k15m0 : Method := { name := "<init>", desc := "()V", sig := { parameters := [], returnType := none }, accessFlags := 2, code := none }
/-- jdk/internal/util/ArraysSupport -/
def k15 : Class := { plain "jdk/internal/util/ArraysSupport" (some 0) with
  accessFlags := 33
  interfaces := #[]
  cf := some (fileOf pool15 21 #[] #[{ accessFlags := 2, nameIndex := 9, descriptorIndex := 19, attributes := #[] }] 33 16 #[] #[{ accessFlags := 24, nameIndex := 28, descriptorIndex := 29, attributes := #[] }, { accessFlags := 26, nameIndex := 38, descriptorIndex := 39, attributes := #[] }, { accessFlags := 25, nameIndex := 121, descriptorIndex := 25, attributes := #[] }, { accessFlags := 25, nameIndex := 131, descriptorIndex := 25, attributes := #[] }, { accessFlags := 25, nameIndex := 137, descriptorIndex := 25, attributes := #[] }, { accessFlags := 25, nameIndex := 143, descriptorIndex := 25, attributes := #[] }, { accessFlags := 25, nameIndex := 53, descriptorIndex := 25, attributes := #[] }, { accessFlags := 25, nameIndex := 24, descriptorIndex := 25, attributes := #[] }, { accessFlags := 25, nameIndex := 162, descriptorIndex := 25, attributes := #[] }, { accessFlags := 25, nameIndex := 187, descriptorIndex := 25, attributes := #[] }, { accessFlags := 26, nameIndex := 48, descriptorIndex := 25, attributes := #[] }, { accessFlags := 25, nameIndex := 277, descriptorIndex := 25, attributes := #[] }, { accessFlags := 25, nameIndex := 280, descriptorIndex := 25, attributes := #[] }, { accessFlags := 25, nameIndex := 282, descriptorIndex := 25, attributes := #[] }, { accessFlags := 25, nameIndex := 284, descriptorIndex := 25, attributes := #[] }, { accessFlags := 25, nameIndex := 286, descriptorIndex := 25, attributes := #[] }, { accessFlags := 25, nameIndex := 288, descriptorIndex := 25, attributes := #[] }, { accessFlags := 25, nameIndex := 290, descriptorIndex := 25, attributes := #[] }, { accessFlags := 25, nameIndex := 292, descriptorIndex := 25, attributes := #[] }, { accessFlags := 26, nameIndex := 108, descriptorIndex := 109, attributes := #[] }, { accessFlags := 25, nameIndex := 294, descriptorIndex := 25, attributes := #[] }])
  fields := #[{ name := "U", type := (.object "jdk/internal/misc/Unsafe"), accessFlags := 24, slot := 0, constantValue := 0 }, { name := "BIG_ENDIAN", type := .boolean, accessFlags := 26, slot := 1, constantValue := 0 }, { name := "LOG2_ARRAY_BOOLEAN_INDEX_SCALE", type := .int, accessFlags := 25, slot := 2, constantValue := 0 }, { name := "LOG2_ARRAY_BYTE_INDEX_SCALE", type := .int, accessFlags := 25, slot := 3, constantValue := 0 }, { name := "LOG2_ARRAY_CHAR_INDEX_SCALE", type := .int, accessFlags := 25, slot := 4, constantValue := 0 }, { name := "LOG2_ARRAY_SHORT_INDEX_SCALE", type := .int, accessFlags := 25, slot := 5, constantValue := 0 }, { name := "LOG2_ARRAY_INT_INDEX_SCALE", type := .int, accessFlags := 25, slot := 6, constantValue := 0 }, { name := "LOG2_ARRAY_LONG_INDEX_SCALE", type := .int, accessFlags := 25, slot := 7, constantValue := 0 }, { name := "LOG2_ARRAY_FLOAT_INDEX_SCALE", type := .int, accessFlags := 25, slot := 8, constantValue := 0 }, { name := "LOG2_ARRAY_DOUBLE_INDEX_SCALE", type := .int, accessFlags := 25, slot := 9, constantValue := 0 }, { name := "LOG2_BYTE_BIT_SIZE", type := .int, accessFlags := 26, slot := 10, constantValue := 0 }, { name := "T_BOOLEAN", type := .int, accessFlags := 25, slot := 11, constantValue := 0 }, { name := "T_CHAR", type := .int, accessFlags := 25, slot := 12, constantValue := 0 }, { name := "T_FLOAT", type := .int, accessFlags := 25, slot := 13, constantValue := 0 }, { name := "T_DOUBLE", type := .int, accessFlags := 25, slot := 14, constantValue := 0 }, { name := "T_BYTE", type := .int, accessFlags := 25, slot := 15, constantValue := 0 }, { name := "T_SHORT", type := .int, accessFlags := 25, slot := 16, constantValue := 0 }, { name := "T_INT", type := .int, accessFlags := 25, slot := 17, constantValue := 0 }, { name := "T_LONG", type := .int, accessFlags := 25, slot := 18, constantValue := 0 }, { name := "JLA", type := (.object "jdk/internal/access/JavaLangAccess"), accessFlags := 26, slot := 19, constantValue := 0 }, { name := "SOFT_MAX_ARRAY_LENGTH", type := .int, accessFlags := 25, slot := 20, constantValue := 0 }]
  methods := #[k15m0]
  instanceTypes := #[]
  staticTypes := #[(.object "jdk/internal/misc/Unsafe"), .boolean, .int, .int, .int, .int, .int, .int, .int, .int, .int, .int, .int, .int, .int, .int, .int, .int, .int, (.object "jdk/internal/access/JavaLangAccess"), .int]
  resolved := Array.replicate 378 none
  statics := none }

def pool16 : Array CpInfo := pool [(1, u "java/lang/Cloneable"), (0, .class_ 1), (0, u "java/lang/Object"), (0, .class_ 3)] 3

/-- java/lang/Cloneable -/
def k16 : Class := { plain "java/lang/Cloneable" (some 0) with
  accessFlags := 1537
  interfaces := #[]
  cf := some (fileOf pool16 2 #[] #[] 1537 4 #[] #[])
  fields := #[]
  methods := #[]
  instanceTypes := #[]
  staticTypes := #[]
  resolved := Array.replicate 8 none
  statics := none }

/-- the primitive byte -/
def k17 : Class := { plain "byte" none with kind := .primitive 'B', accessFlags := 0x411 }
/-- [B -/
def k18 : Class := { plain "[B" (some 0) with kind := .array 17 .byte, interfaces := #[16, 2], accessFlags := 1041 }

/-- the primitive char -/
def k19 : Class := { plain "char" none with kind := .primitive 'C', accessFlags := 0x411 }
/-- [C -/
def k20 : Class := { plain "[C" (some 0) with kind := .array 19 .char, interfaces := #[16, 2], accessFlags := 1041 }

def heap : Heap := #[{ cls := 7, slots := #[.long 0, .int 1, .null, .int 0, .null, .int 0, .int 0], vm := .statics 7 },
  { cls := 11, slots := #[.int 0, .int 8, .int 0, .int 1], vm := .statics 11 },
  { cls := 12, slots := #[.null, .null, .null], vm := .statics 12 }]
def classes : Array Class := #[k0, k1, k2, k3, k4, k5, k6, k7, k8, k9, k10, k11, k12, k13, k14, k15, k16, k17, k18, k19, k20]
def interned : List (Array UInt16 × Addr) := []
def slotsUsed : Nat := 14
def theMethod : MethodId := ⟨1, 1⟩
def args0 : Array Value := #[.int 5, .int 6, .int 7, .int 8, .int 9]
def aboutOver (below : List Frame) : State where
  vm := { classes := classes, interned := interned.toArray }
  heap := heap
  slotsUsed := slotsUsed
  threads := #[{ frames := .invoking theMethod args0 :: below }]
def below0 : List Frame := [.native { method := ⟨0, 0⟩, args := #[] }]
def about1 : State := aboutOver below0
def p0 : Program := .bare "" "" ""
def e0 : Env := launch0.env 0 0 0
theorem w_frames : about1.frames = Frame.invoking theMethod args0 :: below0 := rfl
set_option maxRecDepth 65536 in
theorem w_args : argsFit about1.vm theMethod args0 = true := by decide +kernel
set_option maxRecDepth 65536 in
theorem w_heap : heapFits about1 = true := by decide +kernel
set_option maxRecDepth 65536 in
theorem w_runnable : about1.curStatus? = some .runnable := by decide +kernel
set_option maxRecDepth 65536 in
theorem w_alone : about1.alone = true := by decide +kernel
set_option maxRecDepth 65536 in
theorem w_named : about1.methodNamed? x = some theMethod := by decide +kernel
set_option maxRecDepth 65536 in
theorem w_hears : about1.hears theMethod below0 = true := by decide +kernel
set_option maxRecDepth 65536 in
theorem w_ripe : about1.ripe theMethod args0 below0 = true := by decide +kernel
theorem w_running : about1.status = .running := rfl
set_option maxRecDepth 65536 in
theorem w_room : about1.hasRoom e0.platform room_1 = true :=
  launch0.hasRoom_least _ room_1 (by decide +kernel) (by decide +kernel) (by decide +kernel) (by decide +kernel) (by decide +kernel) (by decide +kernel)
theorem allAtoms_all (ts : List Jvm.Cond) (a : Array Jvm.Value) (st : Jvm.State) : (allAtoms ts).before a st = ts.all (fun c => c.before a st) := by
  induction ts with
  | nil => rfl
  | cons c t ih =>
    show (Jvm.Cond.and c (allAtoms t)).before a st = _
    rw [Jvm.Cond.before_and, ih, List.all_cons]
def words1 : List Jvm.Cond := Jvm.Cond.code x code maxLocals ret :: tables_1
/-- a 'code' word, met by the world's own term for the bytes: nothing is compared byte by byte -/
theorem code_word {y : MethodName} {bytes : ByteArray} {mx : Nat} {rt : Option FieldType} {a : Array Value} {s : State} {m : MethodId} {meth : Method} {c : Code} (h1 : s.methodNamed? y = some m) (h2 : s.vm.method? m = some meth) (h3 : meth.code = some c) (h4 : c.code = bytes)
    (h5 : (c.maxLocals == mx && c.exceptionTable.isEmpty && decide (c.maxStack ≤ mostOperands) && decide (meth.sig.returnType = rt) && !meth.locks && decide (parseMethodDescriptor y.desc = some meth.sig)) = true) : (Jvm.Cond.code y bytes mx rt).before a s = true := by
  simp only [Bool.and_eq_true, beq_iff_eq, Bool.not_eq_true', decide_eq_true_eq] at h5
  obtain ⟨⟨⟨⟨⟨g1, g2⟩, g3⟩, g4⟩, g5⟩, g6⟩ := h5
  simp [Cond.before, Cond.holds, Cond.value, h1, h2, h3, h4, g1, g2, g3, g4, g5, g6]
def isCode : Jvm.Cond → Bool
  | .code _ _ _ _ => true
  | _ => false
theorem all_split {L : List Jvm.Cond} {P : Jvm.Cond → Bool} (h1 : L.all (fun c => isCode c || P c) = true) (h2 : ∀ c ∈ L.filter isCode, P c = true) : L.all P = true := by
  refine List.all_eq_true.mpr fun c hc => ?_
  have h := List.all_eq_true.mp h1 c hc
  rcases Bool.eq_false_or_eq_true (isCode c) with hi | hi
  · exact h2 c (List.mem_filter.mpr ⟨hc, hi⟩)
  · simpa [hi] using h
set_option maxRecDepth 65536 in
theorem w_c0 : (Jvm.Cond.code x code maxLocals ret).before args0 about1 = true := code_word (m := ⟨1, 1⟩) (meth := k1m1) (c := k1c1) (by decide +kernel) rfl rfl rfl (by decide +kernel)
set_option maxRecDepth 65536 in
theorem w_c1 : (Jvm.Cond.code ({ cls := "com/example/tiphys/tiphys/CodePointOrderComparePinLaw", name := "draw", desc := "(I)C" } : Jvm.MethodName) method_3_code (3 : Nat) (Option.some Jvm.ClassFile.FieldType.char)).before args0 about1 = true := code_word (m := ⟨1, 2⟩) (meth := k1m2) (c := k1c2) (by decide +kernel) rfl rfl rfl (by decide +kernel)
set_option maxRecDepth 65536 in
theorem w_c2 : (Jvm.Cond.code ({ cls := "com/example/tiphys/tiphys/CodePointOrderComparePinLaw", name := "make", desc := "(ICC)Ljava/lang/String;" } : Jvm.MethodName) method_4_code (3 : Nat) (Option.some (Jvm.ClassFile.FieldType.object "java/lang/String"))).before args0 about1 = true := code_word (m := ⟨1, 3⟩) (meth := k1m3) (c := k1c3) (by decide +kernel) rfl rfl rfl (by decide +kernel)
set_option maxRecDepth 65536 in
theorem w_c3 : (Jvm.Cond.code ({ cls := "java/lang/String", name := "<init>", desc := "([C)V" } : Jvm.MethodName) jdk_42_method_3_code (2 : Nat) (Option.none : Option Jvm.ClassFile.FieldType)).before args0 about1 = true := code_word (m := ⟨7, 1⟩) (meth := k7m1) (c := k7c1) (by decide +kernel) rfl rfl rfl (by decide +kernel)
set_option maxRecDepth 65536 in
theorem w_c4 : (Jvm.Cond.code ({ cls := "java/lang/String", name := "<init>", desc := "([CIILjava/lang/Void;)V" } : Jvm.MethodName) jdk_42_method_149_code (6 : Nat) (Option.none : Option Jvm.ClassFile.FieldType)).before args0 about1 = true := code_word (m := ⟨7, 4⟩) (meth := k7m4) (c := k7c4) (by decide +kernel) rfl rfl rfl (by decide +kernel)
set_option maxRecDepth 65536 in
theorem w_c5 : (Jvm.Cond.code ({ cls := "java/lang/Object", name := "<init>", desc := "()V" } : Jvm.MethodName) object_method_1_code (1 : Nat) (Option.none : Option Jvm.ClassFile.FieldType)).before args0 about1 = true := code_word (m := ⟨0, 0⟩) (meth := k0m0) (c := k0c0) (by decide +kernel) rfl rfl rfl (by decide +kernel)
set_option maxRecDepth 65536 in
theorem w_c6 : (Jvm.Cond.code ({ cls := "com/example/tiphys/tiphys/CodePointOrder", name := "compare", desc := "(Ljava/lang/String;Ljava/lang/String;)I" } : Jvm.MethodName) prog_2_method_2_code (5 : Nat) (Option.some Jvm.ClassFile.FieldType.int)).before args0 about1 = true := code_word (m := ⟨8, 1⟩) (meth := k8m1) (c := k8c1) (by decide +kernel) rfl rfl rfl (by decide +kernel)
set_option maxRecDepth 65536 in
theorem w_c7 : (Jvm.Cond.code ({ cls := "java/lang/String", name := "length", desc := "()I" } : Jvm.MethodName) jdk_42_method_54_code (1 : Nat) (Option.some Jvm.ClassFile.FieldType.int)).before args0 about1 = true := code_word (m := ⟨7, 2⟩) (meth := k7m2) (c := k7c2) (by decide +kernel) rfl rfl rfl (by decide +kernel)
set_option maxRecDepth 65536 in
theorem w_c8 : (Jvm.Cond.code ({ cls := "java/lang/String", name := "coder", desc := "()B" } : Jvm.MethodName) jdk_42_method_152_code (1 : Nat) (Option.some Jvm.ClassFile.FieldType.byte)).before args0 about1 = true := code_word (m := ⟨7, 5⟩) (meth := k7m5) (c := k7c5) (by decide +kernel) rfl rfl rfl (by decide +kernel)
set_option maxRecDepth 65536 in
theorem w_c9 : (Jvm.Cond.code ({ cls := "java/lang/Integer", name := "compare", desc := "(II)I" } : Jvm.MethodName) jdk_33_method_40_code (2 : Nat) (Option.some Jvm.ClassFile.FieldType.int)).before args0 about1 = true := code_word (m := ⟨10, 0⟩) (meth := k10m0) (c := k10c0) (by decide +kernel) rfl rfl rfl (by decide +kernel)
set_option maxRecDepth 65536 in
theorem w_c10 : (Jvm.Cond.code ({ cls := "com/example/tiphys/tiphys/CodePointOrderComparePinLaw", name := "reference", desc := "(ICCICC)I" } : Jvm.MethodName) method_11_code (10 : Nat) (Option.some Jvm.ClassFile.FieldType.int)).before args0 about1 = true := code_word (m := ⟨1, 10⟩) (meth := k1m10) (c := k1c10) (by decide +kernel) rfl rfl rfl (by decide +kernel)
set_option maxRecDepth 65536 in
theorem w_c11 : (Jvm.Cond.code ({ cls := "com/example/tiphys/tiphys/CodePointOrderComparePinLaw", name := "count", desc := "(ICC)I" } : Jvm.MethodName) method_8_code (3 : Nat) (Option.some Jvm.ClassFile.FieldType.int)).before args0 about1 = true := code_word (m := ⟨1, 7⟩) (meth := k1m7) (c := k1c7) (by decide +kernel) rfl rfl rfl (by decide +kernel)
set_option maxRecDepth 65536 in
theorem w_c12 : (Jvm.Cond.code ({ cls := "com/example/tiphys/tiphys/CodePointOrderComparePinLaw", name := "sign", desc := "(I)I" } : Jvm.MethodName) method_10_code (1 : Nat) (Option.some Jvm.ClassFile.FieldType.int)).before args0 about1 = true := code_word (m := ⟨1, 9⟩) (meth := k1m9) (c := k1c9) (by decide +kernel) rfl rfl rfl (by decide +kernel)
set_option maxRecDepth 65536 in
theorem w_c13 : (Jvm.Cond.code ({ cls := "java/lang/StringUTF16", name := "compress", desc := "([CII)[B" } : Jvm.MethodName) jdk_52_method_16_code (6 : Nat) (Option.some (Jvm.ClassFile.FieldType.array Jvm.ClassFile.FieldType.byte))).before args0 about1 = true := code_word (m := ⟨11, 9⟩) (meth := k11m9) (c := k11c9) (by decide +kernel) rfl rfl rfl (by decide +kernel)
set_option maxRecDepth 65536 in
theorem w_c14 : (Jvm.Cond.code ({ cls := "java/lang/StringUTF16", name := "compress", desc := "([CI[BII)I" } : Jvm.MethodName) jdk_52_method_21_code (7 : Nat) (Option.some Jvm.ClassFile.FieldType.int)).before args0 about1 = true := code_word (m := ⟨11, 10⟩) (meth := k11m10) (c := k11c10) (by decide +kernel) rfl rfl rfl (by decide +kernel)
set_option maxRecDepth 65536 in
theorem w_c15 : (Jvm.Cond.code ({ cls := "java/lang/StringUTF16", name := "toBytes", desc := "([CII)[B" } : Jvm.MethodName) jdk_52_method_14_code (5 : Nat) (Option.some (Jvm.ClassFile.FieldType.array Jvm.ClassFile.FieldType.byte))).before args0 about1 = true := code_word (m := ⟨11, 7⟩) (meth := k11m7) (c := k11c7) (by decide +kernel) rfl rfl rfl (by decide +kernel)
set_option maxRecDepth 65536 in
theorem w_c16 : (Jvm.Cond.code ({ cls := "java/lang/StringUTF16", name := "newBytesFor", desc := "(I)[B" } : Jvm.MethodName) jdk_52_method_2_code (1 : Nat) (Option.some (Jvm.ClassFile.FieldType.array Jvm.ClassFile.FieldType.byte))).before args0 about1 = true := code_word (m := ⟨11, 1⟩) (meth := k11m1) (c := k11c1) (by decide +kernel) rfl rfl rfl (by decide +kernel)
set_option maxRecDepth 65536 in
theorem w_c17 : (Jvm.Cond.code ({ cls := "java/lang/StringUTF16", name := "newBytesLength", desc := "(I)I" } : Jvm.MethodName) jdk_52_method_3_code (1 : Nat) (Option.some Jvm.ClassFile.FieldType.int)).before args0 about1 = true := code_word (m := ⟨11, 2⟩) (meth := k11m2) (c := k11c2) (by decide +kernel) rfl rfl rfl (by decide +kernel)
set_option maxRecDepth 65536 in
theorem w_c18 : (Jvm.Cond.code ({ cls := "java/lang/StringUTF16", name := "putChar", desc := "([BII)V" } : Jvm.MethodName) jdk_52_method_4_code (3 : Nat) (Option.none : Option Jvm.ClassFile.FieldType)).before args0 about1 = true := code_word (m := ⟨11, 3⟩) (meth := k11m3) (c := k11c3) (by decide +kernel) rfl rfl rfl (by decide +kernel)
set_option maxRecDepth 65536 in
theorem w_c19 : (Jvm.Cond.code ({ cls := "java/lang/StringUTF16", name := "getChar", desc := "([BI)C" } : Jvm.MethodName) jdk_52_method_5_code (2 : Nat) (Option.some Jvm.ClassFile.FieldType.char)).before args0 about1 = true := code_word (m := ⟨11, 4⟩) (meth := k11m4) (c := k11c4) (by decide +kernel) rfl rfl rfl (by decide +kernel)
set_option maxRecDepth 65536 in
theorem w_c20 : (Jvm.Cond.code ({ cls := "java/lang/StringUTF16", name := "coderFromArrayLen", desc := "([BI)B" } : Jvm.MethodName) jdk_52_method_15_code (2 : Nat) (Option.some Jvm.ClassFile.FieldType.byte)).before args0 about1 = true := code_word (m := ⟨11, 8⟩) (meth := k11m8) (c := k11c8) (by decide +kernel) rfl rfl rfl (by decide +kernel)
set_option maxRecDepth 65536 in
theorem w_c21 : (Jvm.Cond.code ({ cls := "java/lang/String", name := "codePointAt", desc := "(I)I" } : Jvm.MethodName) jdk_42_method_57_code (3 : Nat) (Option.some Jvm.ClassFile.FieldType.int)).before args0 about1 = true := code_word (m := ⟨7, 3⟩) (meth := k7m3) (c := k7c3) (by decide +kernel) rfl rfl rfl (by decide +kernel)
set_option maxRecDepth 65536 in
theorem w_c22 : (Jvm.Cond.code ({ cls := "java/lang/String", name := "isLatin1", desc := "()Z" } : Jvm.MethodName) jdk_42_method_154_code (1 : Nat) (Option.some Jvm.ClassFile.FieldType.boolean)).before args0 about1 = true := code_word (m := ⟨7, 6⟩) (meth := k7m6) (c := k7c6) (by decide +kernel) rfl rfl rfl (by decide +kernel)
set_option maxRecDepth 65536 in
theorem w_c23 : (Jvm.Cond.code ({ cls := "java/lang/String", name := "checkIndex", desc := "(II)V" } : Jvm.MethodName) jdk_42_method_155_code (2 : Nat) (Option.none : Option Jvm.ClassFile.FieldType)).before args0 about1 = true := code_word (m := ⟨7, 7⟩) (meth := k7m7) (c := k7c7) (by decide +kernel) rfl rfl rfl (by decide +kernel)
set_option maxRecDepth 65536 in
theorem w_c24 : (Jvm.Cond.code ({ cls := "jdk/internal/util/Preconditions", name := "checkIndex", desc := "(IILjava/util/function/BiFunction;)I" } : Jvm.MethodName) jdk_41_method_11_code (3 : Nat) (Option.some Jvm.ClassFile.FieldType.int)).before args0 about1 = true := code_word (m := ⟨12, 1⟩) (meth := k12m1) (c := k12c1) (by decide +kernel) rfl rfl rfl (by decide +kernel)
set_option maxRecDepth 65536 in
theorem w_c25 : (Jvm.Cond.code ({ cls := "java/lang/StringUTF16", name := "codePointAt", desc := "([BII)I" } : Jvm.MethodName) jdk_52_method_8_code (3 : Nat) (Option.some Jvm.ClassFile.FieldType.int)).before args0 about1 = true := code_word (m := ⟨11, 6⟩) (meth := k11m6) (c := k11c6) (by decide +kernel) rfl rfl rfl (by decide +kernel)
set_option maxRecDepth 65536 in
theorem w_c26 : (Jvm.Cond.code ({ cls := "java/lang/StringUTF16", name := "codePointAt", desc := "([BIIZ)I" } : Jvm.MethodName) jdk_52_method_7_code (6 : Nat) (Option.some Jvm.ClassFile.FieldType.int)).before args0 about1 = true := code_word (m := ⟨11, 5⟩) (meth := k11m5) (c := k11c5) (by decide +kernel) rfl rfl rfl (by decide +kernel)
set_option maxRecDepth 65536 in
theorem w_c27 : (Jvm.Cond.code ({ cls := "java/lang/Character", name := "isHighSurrogate", desc := "(C)Z" } : Jvm.MethodName) jdk_89_method_14_code (1 : Nat) (Option.some Jvm.ClassFile.FieldType.boolean)).before args0 about1 = true := code_word (m := ⟨13, 0⟩) (meth := k13m0) (c := k13c0) (by decide +kernel) rfl rfl rfl (by decide +kernel)
set_option maxRecDepth 65536 in
theorem w_c28 : (Jvm.Cond.code ({ cls := "java/lang/Character", name := "charCount", desc := "(I)I" } : Jvm.MethodName) jdk_89_method_18_code (1 : Nat) (Option.some Jvm.ClassFile.FieldType.int)).before args0 about1 = true := code_word (m := ⟨13, 2⟩) (meth := k13m2) (c := k13c2) (by decide +kernel) rfl rfl rfl (by decide +kernel)
set_option maxRecDepth 65536 in
theorem w_c29 : (Jvm.Cond.code ({ cls := "com/example/tiphys/tiphys/CodePointOrderComparePinLaw", name := "paired", desc := "(ICC)Z" } : Jvm.MethodName) method_7_code (3 : Nat) (Option.some Jvm.ClassFile.FieldType.boolean)).before args0 about1 = true := code_word (m := ⟨1, 6⟩) (meth := k1m6) (c := k1c6) (by decide +kernel) rfl rfl rfl (by decide +kernel)
set_option maxRecDepth 65536 in
theorem w_c30 : (Jvm.Cond.code ({ cls := "com/example/tiphys/tiphys/CodePointOrderComparePinLaw", name := "isHigh", desc := "(C)Z" } : Jvm.MethodName) method_5_code (1 : Nat) (Option.some Jvm.ClassFile.FieldType.boolean)).before args0 about1 = true := code_word (m := ⟨1, 4⟩) (meth := k1m4) (c := k1c4) (by decide +kernel) rfl rfl rfl (by decide +kernel)
set_option maxRecDepth 65536 in
theorem w_c31 : (Jvm.Cond.code ({ cls := "com/example/tiphys/tiphys/CodePointOrderComparePinLaw", name := "firstPoint", desc := "(ICC)I" } : Jvm.MethodName) method_9_code (3 : Nat) (Option.some Jvm.ClassFile.FieldType.int)).before args0 about1 = true := code_word (m := ⟨1, 8⟩) (meth := k1m8) (c := k1c8) (by decide +kernel) rfl rfl rfl (by decide +kernel)
set_option maxRecDepth 65536 in
theorem w_c32 : (Jvm.Cond.code ({ cls := "com/example/tiphys/tiphys/CodePointOrderComparePinLaw", name := "isLow", desc := "(C)Z" } : Jvm.MethodName) method_6_code (1 : Nat) (Option.some Jvm.ClassFile.FieldType.boolean)).before args0 about1 = true := code_word (m := ⟨1, 5⟩) (meth := k1m5) (c := k1c5) (by decide +kernel) rfl rfl rfl (by decide +kernel)
set_option maxRecDepth 65536 in
theorem w_c33 : (Jvm.Cond.code ({ cls := "java/lang/Character", name := "isLowSurrogate", desc := "(C)Z" } : Jvm.MethodName) jdk_89_method_15_code (1 : Nat) (Option.some Jvm.ClassFile.FieldType.boolean)).before args0 about1 = true := code_word (m := ⟨13, 1⟩) (meth := k13m1) (c := k13c1) (by decide +kernel) rfl rfl rfl (by decide +kernel)
set_option maxRecDepth 65536 in
theorem w_c34 : (Jvm.Cond.code ({ cls := "java/lang/Character", name := "toCodePoint", desc := "(CC)I" } : Jvm.MethodName) jdk_89_method_19_code (2 : Nat) (Option.some Jvm.ClassFile.FieldType.int)).before args0 about1 = true := code_word (m := ⟨13, 3⟩) (meth := k13m3) (c := k13c3) (by decide +kernel) rfl rfl rfl (by decide +kernel)
def codes1 : List Jvm.Cond := [Jvm.Cond.code x code maxLocals ret, Jvm.Cond.code ({ cls := "com/example/tiphys/tiphys/CodePointOrderComparePinLaw", name := "draw", desc := "(I)C" } : Jvm.MethodName) method_3_code (3 : Nat) (Option.some Jvm.ClassFile.FieldType.char), Jvm.Cond.code ({ cls := "com/example/tiphys/tiphys/CodePointOrderComparePinLaw", name := "make", desc := "(ICC)Ljava/lang/String;" } : Jvm.MethodName) method_4_code (3 : Nat) (Option.some (Jvm.ClassFile.FieldType.object "java/lang/String")), Jvm.Cond.code ({ cls := "java/lang/String", name := "<init>", desc := "([C)V" } : Jvm.MethodName) jdk_42_method_3_code (2 : Nat) (Option.none : Option Jvm.ClassFile.FieldType), Jvm.Cond.code ({ cls := "java/lang/String", name := "<init>", desc := "([CIILjava/lang/Void;)V" } : Jvm.MethodName) jdk_42_method_149_code (6 : Nat) (Option.none : Option Jvm.ClassFile.FieldType), Jvm.Cond.code ({ cls := "java/lang/Object", name := "<init>", desc := "()V" } : Jvm.MethodName) object_method_1_code (1 : Nat) (Option.none : Option Jvm.ClassFile.FieldType), Jvm.Cond.code ({ cls := "com/example/tiphys/tiphys/CodePointOrder", name := "compare", desc := "(Ljava/lang/String;Ljava/lang/String;)I" } : Jvm.MethodName) prog_2_method_2_code (5 : Nat) (Option.some Jvm.ClassFile.FieldType.int), Jvm.Cond.code ({ cls := "java/lang/String", name := "length", desc := "()I" } : Jvm.MethodName) jdk_42_method_54_code (1 : Nat) (Option.some Jvm.ClassFile.FieldType.int), Jvm.Cond.code ({ cls := "java/lang/String", name := "coder", desc := "()B" } : Jvm.MethodName) jdk_42_method_152_code (1 : Nat) (Option.some Jvm.ClassFile.FieldType.byte), Jvm.Cond.code ({ cls := "java/lang/Integer", name := "compare", desc := "(II)I" } : Jvm.MethodName) jdk_33_method_40_code (2 : Nat) (Option.some Jvm.ClassFile.FieldType.int), Jvm.Cond.code ({ cls := "com/example/tiphys/tiphys/CodePointOrderComparePinLaw", name := "reference", desc := "(ICCICC)I" } : Jvm.MethodName) method_11_code (10 : Nat) (Option.some Jvm.ClassFile.FieldType.int), Jvm.Cond.code ({ cls := "com/example/tiphys/tiphys/CodePointOrderComparePinLaw", name := "count", desc := "(ICC)I" } : Jvm.MethodName) method_8_code (3 : Nat) (Option.some Jvm.ClassFile.FieldType.int), Jvm.Cond.code ({ cls := "com/example/tiphys/tiphys/CodePointOrderComparePinLaw", name := "sign", desc := "(I)I" } : Jvm.MethodName) method_10_code (1 : Nat) (Option.some Jvm.ClassFile.FieldType.int), Jvm.Cond.code ({ cls := "java/lang/StringUTF16", name := "compress", desc := "([CII)[B" } : Jvm.MethodName) jdk_52_method_16_code (6 : Nat) (Option.some (Jvm.ClassFile.FieldType.array Jvm.ClassFile.FieldType.byte)), Jvm.Cond.code ({ cls := "java/lang/StringUTF16", name := "compress", desc := "([CI[BII)I" } : Jvm.MethodName) jdk_52_method_21_code (7 : Nat) (Option.some Jvm.ClassFile.FieldType.int), Jvm.Cond.code ({ cls := "java/lang/StringUTF16", name := "toBytes", desc := "([CII)[B" } : Jvm.MethodName) jdk_52_method_14_code (5 : Nat) (Option.some (Jvm.ClassFile.FieldType.array Jvm.ClassFile.FieldType.byte)), Jvm.Cond.code ({ cls := "java/lang/StringUTF16", name := "newBytesFor", desc := "(I)[B" } : Jvm.MethodName) jdk_52_method_2_code (1 : Nat) (Option.some (Jvm.ClassFile.FieldType.array Jvm.ClassFile.FieldType.byte)), Jvm.Cond.code ({ cls := "java/lang/StringUTF16", name := "newBytesLength", desc := "(I)I" } : Jvm.MethodName) jdk_52_method_3_code (1 : Nat) (Option.some Jvm.ClassFile.FieldType.int), Jvm.Cond.code ({ cls := "java/lang/StringUTF16", name := "putChar", desc := "([BII)V" } : Jvm.MethodName) jdk_52_method_4_code (3 : Nat) (Option.none : Option Jvm.ClassFile.FieldType), Jvm.Cond.code ({ cls := "java/lang/StringUTF16", name := "getChar", desc := "([BI)C" } : Jvm.MethodName) jdk_52_method_5_code (2 : Nat) (Option.some Jvm.ClassFile.FieldType.char), Jvm.Cond.code ({ cls := "java/lang/StringUTF16", name := "coderFromArrayLen", desc := "([BI)B" } : Jvm.MethodName) jdk_52_method_15_code (2 : Nat) (Option.some Jvm.ClassFile.FieldType.byte), Jvm.Cond.code ({ cls := "java/lang/String", name := "codePointAt", desc := "(I)I" } : Jvm.MethodName) jdk_42_method_57_code (3 : Nat) (Option.some Jvm.ClassFile.FieldType.int), Jvm.Cond.code ({ cls := "java/lang/String", name := "isLatin1", desc := "()Z" } : Jvm.MethodName) jdk_42_method_154_code (1 : Nat) (Option.some Jvm.ClassFile.FieldType.boolean), Jvm.Cond.code ({ cls := "java/lang/String", name := "checkIndex", desc := "(II)V" } : Jvm.MethodName) jdk_42_method_155_code (2 : Nat) (Option.none : Option Jvm.ClassFile.FieldType), Jvm.Cond.code ({ cls := "jdk/internal/util/Preconditions", name := "checkIndex", desc := "(IILjava/util/function/BiFunction;)I" } : Jvm.MethodName) jdk_41_method_11_code (3 : Nat) (Option.some Jvm.ClassFile.FieldType.int), Jvm.Cond.code ({ cls := "java/lang/StringUTF16", name := "codePointAt", desc := "([BII)I" } : Jvm.MethodName) jdk_52_method_8_code (3 : Nat) (Option.some Jvm.ClassFile.FieldType.int), Jvm.Cond.code ({ cls := "java/lang/StringUTF16", name := "codePointAt", desc := "([BIIZ)I" } : Jvm.MethodName) jdk_52_method_7_code (6 : Nat) (Option.some Jvm.ClassFile.FieldType.int), Jvm.Cond.code ({ cls := "java/lang/Character", name := "isHighSurrogate", desc := "(C)Z" } : Jvm.MethodName) jdk_89_method_14_code (1 : Nat) (Option.some Jvm.ClassFile.FieldType.boolean), Jvm.Cond.code ({ cls := "java/lang/Character", name := "charCount", desc := "(I)I" } : Jvm.MethodName) jdk_89_method_18_code (1 : Nat) (Option.some Jvm.ClassFile.FieldType.int), Jvm.Cond.code ({ cls := "com/example/tiphys/tiphys/CodePointOrderComparePinLaw", name := "paired", desc := "(ICC)Z" } : Jvm.MethodName) method_7_code (3 : Nat) (Option.some Jvm.ClassFile.FieldType.boolean), Jvm.Cond.code ({ cls := "com/example/tiphys/tiphys/CodePointOrderComparePinLaw", name := "isHigh", desc := "(C)Z" } : Jvm.MethodName) method_5_code (1 : Nat) (Option.some Jvm.ClassFile.FieldType.boolean), Jvm.Cond.code ({ cls := "com/example/tiphys/tiphys/CodePointOrderComparePinLaw", name := "firstPoint", desc := "(ICC)I" } : Jvm.MethodName) method_9_code (3 : Nat) (Option.some Jvm.ClassFile.FieldType.int), Jvm.Cond.code ({ cls := "com/example/tiphys/tiphys/CodePointOrderComparePinLaw", name := "isLow", desc := "(C)Z" } : Jvm.MethodName) method_6_code (1 : Nat) (Option.some Jvm.ClassFile.FieldType.boolean), Jvm.Cond.code ({ cls := "java/lang/Character", name := "isLowSurrogate", desc := "(C)Z" } : Jvm.MethodName) jdk_89_method_15_code (1 : Nat) (Option.some Jvm.ClassFile.FieldType.boolean), Jvm.Cond.code ({ cls := "java/lang/Character", name := "toCodePoint", desc := "(CC)I" } : Jvm.MethodName) jdk_89_method_19_code (2 : Nat) (Option.some Jvm.ClassFile.FieldType.int)]
set_option maxRecDepth 65536 in
theorem codes_eq : words1.filter isCode = codes1 := rfl
theorem w_codes : ∀ c ∈ words1.filter isCode, c.before args0 about1 = true := by
  rw [codes_eq]
  intro c hc
  simp only [codes1, List.mem_cons, List.not_mem_nil, or_false] at hc
  rcases hc with rfl | rfl | rfl | rfl | rfl | rfl | rfl | rfl | rfl | rfl | rfl | rfl | rfl | rfl | rfl | rfl | rfl | rfl | rfl | rfl | rfl | rfl | rfl | rfl | rfl | rfl | rfl | rfl | rfl | rfl | rfl | rfl | rfl | rfl | rfl
  · exact w_c0
  · exact w_c1
  · exact w_c2
  · exact w_c3
  · exact w_c4
  · exact w_c5
  · exact w_c6
  · exact w_c7
  · exact w_c8
  · exact w_c9
  · exact w_c10
  · exact w_c11
  · exact w_c12
  · exact w_c13
  · exact w_c14
  · exact w_c15
  · exact w_c16
  · exact w_c17
  · exact w_c18
  · exact w_c19
  · exact w_c20
  · exact w_c21
  · exact w_c22
  · exact w_c23
  · exact w_c24
  · exact w_c25
  · exact w_c26
  · exact w_c27
  · exact w_c28
  · exact w_c29
  · exact w_c30
  · exact w_c31
  · exact w_c32
  · exact w_c33
  · exact w_c34
set_option maxRecDepth 65536 in
theorem w_t1 : (words1.take 24).all (fun c => isCode c || c.before args0 about1) = true := by decide +kernel
set_option maxRecDepth 65536 in
theorem w_t2 : ((words1.drop 24).take 24).all (fun c => isCode c || c.before args0 about1) = true := by decide +kernel
set_option maxRecDepth 65536 in
theorem w_t3 : (((words1.drop 24).drop 24).take 24).all (fun c => isCode c || c.before args0 about1) = true := by decide +kernel
set_option maxRecDepth 65536 in
theorem w_t4 : ((((words1.drop 24).drop 24).drop 24).take 24).all (fun c => isCode c || c.before args0 about1) = true := by decide +kernel
set_option maxRecDepth 65536 in
theorem w_t5 : (((((words1.drop 24).drop 24).drop 24).drop 24).take 24).all (fun c => isCode c || c.before args0 about1) = true := by decide +kernel
set_option maxRecDepth 65536 in
theorem w_t6 : ((((((words1.drop 24).drop 24).drop 24).drop 24).drop 24).take 24).all (fun c => isCode c || c.before args0 about1) = true := by decide +kernel
set_option maxRecDepth 65536 in
theorem w_t7 : ((((((words1.drop 24).drop 24).drop 24).drop 24).drop 24).drop 24).all (fun c => isCode c || c.before args0 about1) = true := by decide +kernel
theorem w_tables : (allAtoms (Jvm.Cond.code x code maxLocals ret :: tables_1)).before args0 about1 = true := by
  rw [allAtoms_all]
  show words1.all (fun c => c.before args0 about1) = true
  refine all_split ?_ w_codes
  rw [← List.take_append_drop 24 words1, List.all_append, w_t1, ← List.take_append_drop 24 (words1.drop 24), List.all_append, w_t2, ← List.take_append_drop 24 ((words1.drop 24).drop 24), List.all_append, w_t3, ← List.take_append_drop 24 (((words1.drop 24).drop 24).drop 24), List.all_append, w_t4, ← List.take_append_drop 24 ((((words1.drop 24).drop 24).drop 24).drop 24), List.all_append, w_t5, ← List.take_append_drop 24 (((((words1.drop 24).drop 24).drop 24).drop 24).drop 24), List.all_append, w_t6, w_t7]
  rfl
set_option maxRecDepth 65536 in
theorem w_rest : rest_1_c.before args0 about1 = true := by decide +kernel
set_option maxRecDepth 65536 in
theorem w_case : (Jvm.Cond.and given_1 narrow_1).before args0 about1 = true := by decide +kernel
set_option maxRecDepth 65536 in
theorem w_consts : constsHeld consts_1 about1 := Jvm.Lit.constsHeldB_iff.mp (by decide +kernel)
theorem w_applies : (headSpec (Jvm.Cond.code x code maxLocals ret :: tables_1) room_1).applies x e0.platform about1 = true :=
  (Spec.applies_iff w_frames).mpr ⟨w_running, w_runnable, w_alone, w_named, w_hears, w_ripe, w_room, w_tables⟩
theorem atStart : AtStart classFile x code maxLocals ret World_1 tables_1 room_1 Calls_1 rest_1 Pre_1 launch0 p0 e0 about1 theMethod args0 below0 :=
  ⟨lists_1, trivial, launch0.admits_env _ _ _, launch0.least_env, fairChoices_fair.cas, fairChoices_fair.clock, w_frames, w_args, w_heap, w_applies, ⟨w_consts, trivial⟩, w_rest, w_case⟩
end start1
theorem witness_1 : WitnessClaimed_1 := ⟨start1.p0, start1.e0, start1.about1, start1.theMethod, start1.args0, start1.below0, start1.atStart⟩
end Jvm.Pilot.@@N@@
