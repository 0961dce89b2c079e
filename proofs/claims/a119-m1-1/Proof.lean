import JvmDerived
import JvmDerived.Pilot.@@N@@Statement
import JvmDerived.Pilot.@@N@@Code
set_option linter.unusedVariables false
set_option linter.unusedSimpArgs false
namespace Jvm.RoadKit
open Sem ClassFile Op Lib Jvm.Stand Jvm.Free Jvm.LawKit
section New
variable {p : Program} {l : Launch} {e : Env} {R : Room} {s : State} {m : MethodId} {args : Array Value} {below : List Frame} {meth : Method} {c : Code} {T : State} {locs : List Loc} {cells slots : Nat}
theorem retI (X : Stand p l e R s m args below meth c T locs cells slots) (hx : p.tables.exec = Jvm.exec) {pc : Nat} {Ls : Array Slot} {z : Int32} {rest : List Value} (hret : meth.sig.returnType = some .int) (hd : decode c.code pc = .ok (.ireturn, 1)) {fs : List Frame}
    (hl : ∀ (f : JFrame) (acts : List Action), f.method = m → f.locked = none → f.entered = [] → (doReturn e (T.setTop f) acts (some (.int z))).1 = T.setFrames fs) : Steps p.tables e below (T.setTop (mkF m pc Ls (.int z :: rest))) (T.setFrames fs) :=
  retOut X hx hret rfl (Or.inl ⟨rfl, Or.inl rfl, z, rfl⟩) hd hl
theorem retJ (X : Stand p l e R s m args below meth c T locs cells slots) (hx : p.tables.exec = Jvm.exec) {pc : Nat} {Ls : Array Slot} {z : Int64} {rest : List Value} (hret : meth.sig.returnType = some .long) (hd : decode c.code pc = .ok (.lreturn, 1)) {fs : List Frame}
    (hl : ∀ (f : JFrame) (acts : List Action), f.method = m → f.locked = none → f.entered = [] → (doReturn e (T.setTop f) acts (some (.long z))).1 = T.setFrames fs) : Steps p.tables e below (T.setTop (mkF m pc Ls (.long z :: rest))) (T.setFrames fs) :=
  retOut X hx hret rfl (Or.inr (Or.inl ⟨rfl, rfl, z, rfl⟩)) hd hl
theorem narA {t : FieldType} {w : Value} (ht : t.isReference = true) (hw : w.isRef = true) : narrow t w = w := by
  rcases ref_cases hw with rfl | ⟨z, rfl⟩ <;> cases t <;> first | rfl | (simp [FieldType.isReference] at ht)
theorem retA (X : Stand p l e R s m args below meth c T locs cells slots) (hx : p.tables.exec = Jvm.exec) {pc : Nat} {Ls : Array Slot} {t : FieldType} {w : Value} {rest : List Value} (hret : meth.sig.returnType = some t) (ht : t.isReference = true) (hw : w.isRef = true) (hd : decode c.code pc = .ok (.areturn, 1)) {fs : List Frame}
    (hl : ∀ (f : JFrame) (acts : List Action), f.method = m → f.locked = none → f.entered = [] → (doReturn e (T.setTop f) acts (some w)).1 = T.setFrames fs) : Steps p.tables e below (T.setTop (mkF m pc Ls (w :: rest))) (T.setFrames fs) :=
  retOut X hx hret (narA ht hw) (Or.inr (Or.inr (Or.inr (Or.inr ⟨rfl, ht, hw⟩)))) hd hl
theorem own_pack {n0 : Nat} {L Lc : List Loc} {k n rc rs C S' : Nat} (X : Stand p l e R s m args below meth c T L k n) (hl : L = locs ++ Lc) (hk : k = cells + rc) (hn : n = slots + rs) (N : Fr n0 locs) (Nq : Fr n0 Lc) (hC : cells + rc = C) (hS : slots + rs = S') : ∃ lc, Stand p l e R s m args below meth c T lc C S' ∧ Fr n0 lc := by
  subst hl hk hn hC hS; exact ⟨_, X, N.app Nq⟩
theorem own_pack1 {n0 : Nat} {a : Addr} {sl : Nat} (X : Stand p l e R s m args below meth c T (locs ++ [⟨a, sl⟩]) cells slots) (N : Fr n0 locs) (q : n0 ≤ a) : ∃ lc, Stand p l e R s m args below meth c T lc cells slots ∧ Fr n0 lc := ⟨_, X, Fr.snoc X N q⟩
/-- the run from a comes to an end that Q allows -/
def own_G (tb : Tables) (e : Env) (below : List Frame) (s : State) (Q : Option Value → Heap → List Loc → Prop) (C S : Nat) (a : State) : Prop :=
  ∃ (t : State) (o : Outcome), Steps tb e below a t ∧ t.status = .running ∧ Ended t below o ∧ ∃ v L, o = .returned v ∧ Q v t.heap L ∧ FrameEnd s o t L C S
theorem own_thr {tb : Tables} {Q : Option Value → Heap → List Loc → Prop} {C S : Nat} {a b : State} (h : ∀ t, Steps tb e below a t → Steps tb e below b t) (g : own_G tb e below s Q C S a) : own_G tb e below s Q C S b := by
  obtain ⟨t, o, h1, h2⟩ := g; exact ⟨t, o, h t h1, h2⟩
theorem own_end (X : Stand p l e R s m args below meth c T locs cells slots) (hlk : meth.locks = false) {v : Option Value} (hv : meth.sig.returnType = none → v = none) {g : JFrame} {Q : Option Value → Heap → List Loc → Prop} {C S : Nat}
    (hr : ∀ fs, (∀ (f : JFrame) (acts : List Action), f.method = m → f.locked = none → f.entered = [] → (doReturn e (T.setTop f) acts v).1 = T.setFrames fs) → Steps p.tables e below (T.setTop g) (T.setFrames fs))
    (hQ : Q v T.heap locs) (hC : cells ≤ C) (hS : slots ≤ S) : own_G p.tables e below s Q C S (T.setTop g) := by
  obtain ⟨fs, hr', hrun, hended, hW, hsame⟩ := X.leave (v := v) hv hlk
  exact ⟨_, _, hr fs hr', hrun, hended, _, _, rfl, hQ, ⟨_, rfl⟩, hW, hsame.mono hC hS⟩
def own_GW (tb : Tables) (e : Env) (below : List Frame) (s : State) (Q : Option Value → Heap → List Loc → Prop) (C S : Nat) (a : State) : Prop :=
  ∃ (t : State) (o : Outcome), Steps tb e below a t ∧ t.status = .running ∧ Ended t below o ∧ ∃ v L, o = .returned v ∧ Q v t.heap L ∧ ReturnedEndW s o t L C S
theorem own_thrW {tb : Tables} {Q : Option Value → Heap → List Loc → Prop} {C S : Nat} {a b : State} (h : ∀ t, Steps tb e below a t → Steps tb e below b t) (g : own_GW tb e below s Q C S a) : own_GW tb e below s Q C S b := by
  obtain ⟨t, o, h1, h2⟩ := g; exact ⟨t, o, h t h1, h2⟩
theorem own_endW {vm₁ : Vm} {k : Nat} (X : Stand p l e R (s.setVm vm₁) m args below meth c T locs cells slots) (hS : s.Since vm₁ k) (hk : k ≤ T.heap.size) (hlk : meth.locks = false) {v : Option Value} (hv : meth.sig.returnType = none → v = none) {g : JFrame} {Q : Option Value → Heap → List Loc → Prop} {C S : Nat}
    (hr : ∀ fs, (∀ (f : JFrame) (acts : List Action), f.method = m → f.locked = none → f.entered = [] → (doReturn e (T.setTop f) acts v).1 = T.setFrames fs) → Steps p.tables e below (T.setTop g) (T.setFrames fs))
    (hQ : Q v T.heap locs) (hC : cells ≤ C) (hSl : slots ≤ S) : own_GW p.tables e below s Q C S (T.setTop g) := by
  obtain ⟨fs, hr', hrun, hended, hret, hW, hint, hsame⟩ := X.leaveW hS hk (v := v) hv hlk
  exact ⟨_, _, hr fs hr', hrun, hended, _, _, rfl, hQ, ⟨_, rfl⟩, hW, hint, hsame.mono hC hSl⟩
end New
end Jvm.RoadKit
namespace Jvm.Pilot.@@N@@
open Jvm Jvm.ClassFile Sem Op Lib Jvm.Free Jvm.Stand Jvm.LawKit Jvm.RoadKit Bundle Jvm.Pilot.@@N@@.Jvm.D
theorem own_succ (i : Nat) : i.toInt32 + (1 : Int32) = (i + 1).toInt32 := by
  show Int32.ofNat i + Int32.ofNat 1 = Int32.ofNat (i + 1)
  rw [← Int32.ofNat_add]
theorem own_ix {i n : Nat} (hi : i < n) (hn : n < 2 ^ 31) : ¬ i.toInt32 < 0 ∧ i.toInt32 < n.toInt32 := by
  have h1 : i.toInt32.toInt = i := len_toInt (by omega)
  have h2 : n.toInt32.toInt = n := len_toInt hn
  have h0 : (0 : Int32).toInt = 0 := rfl
  constructor <;> rw [Int32.lt_iff_toInt_lt] <;> omega
theorem own_nx {i n : Nat} (hi : n ≤ i) (hn : i < 2 ^ 31) : ¬ i.toInt32 < n.toInt32 := by
  have h1 : i.toInt32.toInt = i := len_toInt hn
  have h2 : n.toInt32.toInt = n := len_toInt (by omega)
  rw [Int32.lt_iff_toInt_lt]; omega
theorem own_nat {i : Nat} (hi : i < 2 ^ 31) : i.toInt32.toNatClampNeg = i := by
  have h1 : i.toInt32.toInt = i := len_toInt hi
  show i.toInt32.toInt.toNat = i
  omega
theorem own_len {s : State} {args : Array Value} {ca : Addr} {cl : Cell} {t : Term} {ty : FieldType} {n : Int32} (ev : t.eval args s none [] s = some (.ref ca)) (A : Arr s s.heap ca cl ty) (h : (Jvm.Cond.eq (Term.length t) (Term.int n)).value args s none s [] = some true) : cl.slots.size.toInt32 = n ∧ cl.slots.size < 2 ^ 31 := by
  have hA : s.arrayAt? ca = some cl := Arr.fin (Vm.Alike.refl _) A
  simp only [Cond.value, Term.eval, ev, Option.bind_eq_bind, Option.bind_some, hA] at h
  by_cases hl : cl.slots.size < 2147483648
  · simp [hl] at h; exact ⟨h, hl⟩
  · simp [hl] at h
theorem own_lenN {s : State} {args : Array Value} {ca : Addr} {cl : Cell} {t : Term} {ty : FieldType} {n : Int32} (ev : t.eval args s none [] s = some (.ref ca)) (A : Arr s s.heap ca cl ty) (h : (Jvm.Cond.eq (Term.length t) (Term.int n)).value args s none s [] = some true) (N : Nat) (hN : n.toInt = N) : cl.slots.size = N := by
  obtain ⟨h1, h2⟩ := own_len ev A h
  have h3 := len_toInt h2
  rw [h1] at h3
  omega
theorem own_eqI {args : Array Value} {s : State} {idx : List Nat} {a b : Term} {k : Int32} (h : (Jvm.Cond.eq a b).value args s none s idx = some true) (hb : b.eval args s none idx s = some (.int k)) : a.eval args s none idx s = some (.int k) := by
  obtain ⟨x, y, h1, h2, k1, k2⟩ := cmp_v (Or.inl h)
  cases hb.symm.trans h2
  obtain ⟨z, rfl⟩ := k2
  simp [Cond.value, h1, h2] at h
  subst h; exact h1
theorem own_eqJ {args : Array Value} {s : State} {idx : List Nat} {a b : Term} {k : Int64} (h : (Jvm.Cond.eq a b).value args s none s idx = some true) (hb : b.eval args s none idx s = some (.long k)) : a.eval args s none idx s = some (.long k) := by
  obtain ⟨x, y, h1, h2, k1, k2⟩ := cmp_v (Or.inl h)
  cases hb.symm.trans h2
  obtain ⟨z, rfl⟩ := k2
  simp [Cond.value, h1, h2] at h
  subst h; exact h1
theorem own_eqR {args : Array Value} {s : State} {idx : List Nat} {a b : Term} {k : Addr} (h : (Jvm.Cond.eq a b).value args s none s idx = some true) (hb : b.eval args s none idx s = some (.ref k)) : a.eval args s none idx s = some (.ref k) := by
  obtain ⟨x, y, h1, h2, k1, k2⟩ := cmp_v (Or.inl h)
  cases hb.symm.trans h2
  have hx : x.isRef = true := k2.2
  have q := gotT (eq_R h1 h2 hx rfl) h
  subst q; exact h1
theorem own_elR {args : Array Value} {s : State} {t u : Term} {a r : Addr} {cl : Cell} {ty : FieldType} {j : Int32} (h : (Jvm.Cond.eq (.elem t (.int j)) u).value args s none s [] = some true) (ht : t.eval args s none [] s = some (.ref a)) (A : Arr s s.heap a cl ty) (hu : u.eval args s none [] s = some (.ref r)) : cl.slots[j.toNatClampNeg]? = some (.ref r) :=
  (elem_in (own_eqR h hu) ht rfl A.1).2
theorem own_elJ {args : Array Value} {s : State} {t : Term} {a : Addr} {cl : Cell} {ty : FieldType} {j : Int32} {k : Int64} (h : (Jvm.Cond.eq (.elem t (.int j)) (.long k)).value args s none s [] = some true) (ht : t.eval args s none [] s = some (.ref a)) (A : Arr s s.heap a cl ty) : cl.slots[j.toNatClampNeg]? = some (.long k) :=
  (elem_in (own_eqJ h rfl) ht rfl A.1).2
theorem own_fldI {args : Array Value} {s : State} {t : Term} {C n d : String} {x : Addr} {k : Int32} (h : (Jvm.Cond.eq (.field t C n d) (.int k)).value args s none s [] = some true) (ht : t.eval args s none [] s = some (.ref x)) : Fld s s.heap x C n d (.int k) :=
  Fld.start ((fld_at ht).symm.trans (own_eqI h rfl))
def own_rt (b : Int32) (r1 : Addr) (r2 : Addr) (r3 : Addr) (r4 : Addr) (r5 : Addr) (r6 : Addr) (r7 : Addr) : Value := if b = (1 : Int32) then .ref r1 else if b = (2 : Int32) then .ref r2 else if b = (3 : Int32) then .ref r3 else if b = (4 : Int32) then .ref r4 else if b = (5 : Int32) then .ref r5 else if b = (6 : Int32) then .ref r6 else if b = (7 : Int32) then .ref r7 else .null
theorem d2_0 : decode prog_35_method_1_code 0 = .ok (.getstatic 25, 3) := by decide +kernel
theorem d2_3 : decode prog_35_method_1_code 3 = .ok (.invokevirtual 29, 3) := by decide +kernel
theorem d2_6 : decode prog_35_method_1_code 6 = .ok (.checkcast 30, 3) := by decide +kernel
theorem d2_9 : decode prog_35_method_1_code 9 = .ok (.areturn, 1) := by decide +kernel
theorem pn_com_example_logward_logward_log_RecordType : plainName "com/example/logward/logward/log/RecordType" = true := by first | (simp [plainName, overriddenIn]; done) | decide +kernel
theorem ef_rmV (m : MethodId)   : entryFrame m #[] 0 = mkF m 0 #[] [] := by first |  (simp [entryFrame, mkF, argsToLocals, Value.category]; done) | rfl
def Q_rmV (Z : State)  (va : Addr) (kv : ClassId) (r1 : Addr) (r2 : Addr) (r3 : Addr) (r4 : Addr) (r5 : Addr) (r6 : Addr) (r7 : Addr) (h0 : Heap) (n0 : Nat) (v : Option Value) (h : Heap) (L : List Loc) : Prop := ∃ b : Addr, v = some (.ref b) ∧ Fr n0 L ∧ Keep h0 h [] ∧ Arv Z h b kv (.object "com/example/logward/logward/log/RecordType") (7 : Int32) [(.ref r1), (.ref r2), (.ref r3), (.ref r4), (.ref r5), (.ref r6), (.ref r7)] .null
set_option maxRecDepth 65536 in
set_option maxHeartbeats 40000000 in
theorem rmV (l : Launch) (Z : State) (a0 : Array Value) (hw : ∀ d ∈ tables_1, d.before a0 Z = true) (ws : List Jvm.Cond)  (va : Addr) (kv : ClassId) (r1 : Addr) (r2 : Addr) (r3 : Addr) (r4 : Addr) (r5 : Addr) (r6 : Addr) (r7 : Addr) (h0 : Heap) (n0 : Nat) (Z0 : n0 ≤ h0.size) (S_V : Sta Z h0 "com/example/logward/logward/log/RecordType" "$VALUES" "[Lcom/example/logward/logward/log/RecordType;" (.ref va)) (V_va : Arv Z Z.heap va kv (.object "com/example/logward/logward/log/RecordType") (7 : Int32) [(.ref r1), (.ref r2), (.ref r3), (.ref r4), (.ref r5), (.ref r6), (.ref r7)] .null) (E_va : Exa Z h0 va "[Lcom/example/logward/logward/log/RecordType;") (hfit : Fit Z) (hO : Old Z n0 h0) :
    MetFree l (⟨"com/example/logward/logward/log/RecordType", "values", "()[Lcom/example/logward/logward/log/RecordType;"⟩ : MethodName) (head1 (Jvm.Cond.code (⟨"com/example/logward/logward/log/RecordType", "values", "()[Lcom/example/logward/logward/log/RecordType;"⟩ : MethodName) prog_35_method_1_code 0 (some (.array (.object "com/example/logward/logward/log/RecordType"))) :: ws) ({ frames := 1, cells := 1, slots := 7, locals := 14 } : Room)) (fun a U => a = #[] ∧ Z.Warmed39 U.vm ∧ U.heap = h0) (fun _ _ _ _ _ => True) (fun _ U o U' => ∃ v L, o = .returned v ∧ Q_rmV Z  va kv r1 r2 r3 r4 r5 r6 r7 h0 n0 v U'.heap L ∧ FrameEnd U o U' L ({ frames := 1, cells := 1, slots := 7, locals := 14 } : Room).cells ({ frames := 1, cells := 1, slots := 7, locals := 14 } : Room).slots) := by
  refine MetFree.of_bodySF (plainFor_of_name pn_com_example_logward_logward_log_RecordType) hisR ?_
  intro p e s m args below meth c s₁ Bd hml0 hP hK
  obtain ⟨rfl, hZ, hh⟩ := hP
  have hx := Bd.exec
  have hby := Bd.bytes
  have hml : c.maxLocals = 0 := hml0
  have hown : s.vm.findClass "com/example/logward/logward/log/RecordType" = some m.cls := findClass_of_methodNamed Bd.named
  have hnm := (name_of_methodNamed Bd.named Bd.method).1
  have hlk := Bd.notSynchronized
  have X0 : Stand p l e ({ frames := 1, cells := 1, slots := 7, locals := 14 } : Room) s m #[] below meth c s₁ [] 0 0 := Stand.of_body Bd
  have e0 : s₁.heap = h0 := by rw [← hh, Bd.state]; rfl
  have N0 := Fr.nil n0
  show own_G p.tables e below s (Q_rmV Z  va kv r1 r2 r3 r4 r5 r6 r7 h0 n0) ({ frames := 1, cells := 1, slots := 7, locals := 14 } : Room).cells ({ frames := 1, cells := 1, slots := 7, locals := 14 } : Room).slots _
  refine own_thr (a := s₁.setTop (mkF m 0 #[] [])) (fun t kt => castTop (ef_rmV m ) kt) ?_
  obtain ⟨T1, X1, e1, st1⟩ := getS2 X0 hx hZ hown (host := "") (Or.inl (hw _ (List.mem_of_getElem? (i := 7) rfl))) Via.refl e0 S_V (g := (mkF m 0 #[] [])) rfl (hb hby d2_0)
  refine own_thr (a := T1.setTop (mkF m 3 #[] [(.ref va)])) (fun t kt => st1 t kt) ?_
  obtain ⟨cl, A0, qk, S0, M0, H0, G0⟩ := id V_va
  have A1 := A0.ext hO.2
  obtain ⟨T2, h2, X2, e2, E2, A2, Ec2, st2⟩ := cloneA X1 hx hZ hown (hw _ (List.mem_of_getElem? (i := 9) rfl)) (hw _ (List.mem_of_getElem? (i := 10) rfl)) (hw _ (List.mem_of_getElem? (i := 14) rfl)) (hw _ (List.mem_of_getElem? (i := 12) rfl)) (hw _ (List.mem_of_getElem? (i := 13) rfl)) (hw _ (List.mem_of_getElem? (i := 15) rfl)) e1 A1 E_va (FitC.start hfit A0) (g := (mkF m 3 #[] [(.ref va)])) rfl (by rw [hml]; rfl) rfl (hb hby d2_3) (by decide) (W := 0) (cap := 7) (by show 2 * 0 + _ ≤ _; exact Nat.le_of_eq rfl) (by decide) (by rw [S0]; decide) (by decide : 0 + 1 ≤ _) (by decide : 0 + 7 ≤ _)
  obtain ⟨b2, g2⟩ : ∃ z, z = h0.size := ⟨_, rfl⟩
  rw [← g2] at A2 Ec2 st2
  have g_b2 : n0 ≤ b2 := Nat.le_trans Z0 (Nat.le_of_eq g2.symm)
  have sz_b2 : h0.size ≤ b2 := Nat.le_trans (Nat.le_refl h0.size) (Nat.le_of_eq g2.symm)
  have Z3 : n0 ≤ h2.size := Nat.le_trans Z0 E2.1
  have Z3h : h0.size ≤ h2.size := Nat.le_trans (Nat.le_refl h0.size) E2.1
  have V_b2 : Arv Z h2 b2 kv (.object "com/example/logward/logward/log/RecordType") (7 : Int32) [(.ref r1), (.ref r2), (.ref r3), (.ref r4), (.ref r5), (.ref r6), (.ref r7)] .null := ⟨cloneOf cl, A2, qk, S0, M0, H0, G0⟩
  refine own_thr (a := T2.setTop (mkF m 6 #[] [(.ref b2)])) (fun t kt => st2 t kt) ?_
  obtain ⟨T4, X4, e4, st4⟩ := castY X2 hx hZ hown (hw _ (List.mem_of_getElem? (i := 24) rfl)) e2 (Ins.self Ec2) (g := (mkF m 6 #[] [(.ref b2)])) rfl rfl (hb hby d2_6)
  refine own_thr (a := T4.setTop (mkF m 9 #[] [(.ref b2)])) (fun t kt => st4 t kt) ?_
  exact own_end X4 hlk (v := some (.ref b2)) (fun h => by rw [Bd.returns] at h; cases h) (fun fs hr => retA X4 hx Bd.returns rfl rfl (hb hby d2_9) hr) (by rw [e4]; exact ⟨b2, rfl, N0, ((Keep.refl h0 []).ext E2), V_b2⟩) (by decide : 1 ≤ _) (by decide : 7 ≤ _)
theorem pd__28_29_5bLcom_2fexample_2flogward_2flogward_2flog_2fRecordType_3b : parseMethodDescriptor "()[Lcom/example/logward/logward/log/RecordType;" = some ⟨[], some (.array (.object "com/example/logward/logward/log/RecordType"))⟩ := by decide +kernel
theorem d1_0 : decode prog_35_method_7_code 0 = .ok (.invokestatic 84, 3) := by decide +kernel
theorem d1_3 : decode prog_35_method_7_code 3 = .ok (.astore_n 1, 1) := by decide +kernel
theorem d1_4 : decode prog_35_method_7_code 4 = .ok (.aload_n 1, 1) := by decide +kernel
theorem d1_5 : decode prog_35_method_7_code 5 = .ok (.arraylength, 1) := by decide +kernel
theorem d1_6 : decode prog_35_method_7_code 6 = .ok (.istore_n 2, 1) := by decide +kernel
theorem d1_7 : decode prog_35_method_7_code 7 = .ok (.iconst 0, 1) := by decide +kernel
theorem d1_8 : decode prog_35_method_7_code 8 = .ok (.istore_n 3, 1) := by decide +kernel
theorem d1_9 : decode prog_35_method_7_code 9 = .ok (.iload_n 3, 1) := by decide +kernel
theorem d1_10 : decode prog_35_method_7_code 10 = .ok (.iload_n 2, 1) := by decide +kernel
theorem d1_11 : decode prog_35_method_7_code 11 = .ok (.if_icmp .ge 26, 3) := by decide +kernel
theorem d1_14 : decode prog_35_method_7_code 14 = .ok (.aload_n 1, 1) := by decide +kernel
theorem d1_15 : decode prog_35_method_7_code 15 = .ok (.iload_n 3, 1) := by decide +kernel
theorem d1_16 : decode prog_35_method_7_code 16 = .ok (.aaload, 1) := by decide +kernel
theorem d1_17 : decode prog_35_method_7_code 17 = .ok (.astore 4, 2) := by decide +kernel
theorem d1_19 : decode prog_35_method_7_code 19 = .ok (.aload 4, 2) := by decide +kernel
theorem d1_21 : decode prog_35_method_7_code 21 = .ok (.getfield 44, 3) := by decide +kernel
theorem d1_24 : decode prog_35_method_7_code 24 = .ok (.iload_n 0, 1) := by decide +kernel
theorem d1_25 : decode prog_35_method_7_code 25 = .ok (.if_icmp .ne 6, 3) := by decide +kernel
theorem d1_28 : decode prog_35_method_7_code 28 = .ok (.aload 4, 2) := by decide +kernel
theorem d1_30 : decode prog_35_method_7_code 30 = .ok (.areturn, 1) := by decide +kernel
theorem d1_31 : decode prog_35_method_7_code 31 = .ok (.iinc 3 1, 3) := by decide +kernel
theorem d1_34 : decode prog_35_method_7_code 34 = .ok (.goto (-25), 3) := by decide +kernel
theorem d1_37 : decode prog_35_method_7_code 37 = .ok (.aconst_null, 1) := by decide +kernel
theorem d1_38 : decode prog_35_method_7_code 38 = .ok (.areturn, 1) := by decide +kernel
theorem ef_rmO (m : MethodId) (p0 : Int32)  : entryFrame m #[(.int p0)] 5 = mkF m 0 #[.val (.int p0), .unset, .unset, .unset, .unset] [] := by first |  (simp [entryFrame, mkF, argsToLocals, Value.category]; done) | rfl
def Q_rmO (Z : State) (p0 : Int32) (va : Addr) (kv : ClassId) (r1 : Addr) (r2 : Addr) (r3 : Addr) (r4 : Addr) (r5 : Addr) (r6 : Addr) (r7 : Addr) (rv : Value) (h0 : Heap) (n0 : Nat) (v : Option Value) (h : Heap) (L : List Loc) : Prop := v = some rv ∧ Fr n0 L ∧ Keep h0 h []
set_option maxRecDepth 65536 in
set_option maxHeartbeats 40000000 in
theorem rmO (l : Launch) (Z : State) (a0 : Array Value) (hw : ∀ d ∈ tables_1, d.before a0 Z = true) (ws : List Jvm.Cond) (p0 : Int32) (va : Addr) (kv : ClassId) (r1 : Addr) (r2 : Addr) (r3 : Addr) (r4 : Addr) (r5 : Addr) (r6 : Addr) (r7 : Addr) (rv : Value) (h0 : Heap) (n0 : Nat) (Z0 : n0 ≤ h0.size) (S_V : Sta Z h0 "com/example/logward/logward/log/RecordType" "$VALUES" "[Lcom/example/logward/logward/log/RecordType;" (.ref va)) (V_va : Arv Z Z.heap va kv (.object "com/example/logward/logward/log/RecordType") (7 : Int32) [(.ref r1), (.ref r2), (.ref r3), (.ref r4), (.ref r5), (.ref r6), (.ref r7)] .null) (E_va : Exa Z h0 va "[Lcom/example/logward/logward/log/RecordType;") (hfit : Fit Z) (hO : Old Z n0 h0) (F_r1 : Fld Z h0 r1 "com/example/logward/logward/log/RecordType" "code" "B" (.int (1 : Int32))) (F_r2 : Fld Z h0 r2 "com/example/logward/logward/log/RecordType" "code" "B" (.int (2 : Int32))) (F_r3 : Fld Z h0 r3 "com/example/logward/logward/log/RecordType" "code" "B" (.int (3 : Int32))) (F_r4 : Fld Z h0 r4 "com/example/logward/logward/log/RecordType" "code" "B" (.int (4 : Int32))) (F_r5 : Fld Z h0 r5 "com/example/logward/logward/log/RecordType" "code" "B" (.int (5 : Int32))) (F_r6 : Fld Z h0 r6 "com/example/logward/logward/log/RecordType" "code" "B" (.int (6 : Int32))) (F_r7 : Fld Z h0 r7 "com/example/logward/logward/log/RecordType" "code" "B" (.int (7 : Int32))) (hrv : own_rt p0 r1 r2 r3 r4 r5 r6 r7 = rv) :
    MetFree l (⟨"com/example/logward/logward/log/RecordType", "ofCode", "(B)Lcom/example/logward/logward/log/RecordType;"⟩ : MethodName) (head1 (Jvm.Cond.code (⟨"com/example/logward/logward/log/RecordType", "ofCode", "(B)Lcom/example/logward/logward/log/RecordType;"⟩ : MethodName) prog_35_method_7_code 5 (some (.object "com/example/logward/logward/log/RecordType")) :: ws) ({ frames := 2, cells := 1, slots := 7, locals := 25 } : Room)) (fun a U => a = #[(.int p0)] ∧ Z.Warmed39 U.vm ∧ U.heap = h0) (fun _ _ _ _ _ => True) (fun _ U o U' => ∃ v L, o = .returned v ∧ Q_rmO Z p0 va kv r1 r2 r3 r4 r5 r6 r7 rv h0 n0 v U'.heap L ∧ FrameEnd U o U' L ({ frames := 2, cells := 1, slots := 7, locals := 25 } : Room).cells ({ frames := 2, cells := 1, slots := 7, locals := 25 } : Room).slots) := by
  refine MetFree.of_bodySF (plainFor_of_name pn_com_example_logward_logward_log_RecordType) hisR ?_
  intro p e s m args below meth c s₁ Bd hml0 hP hK
  obtain ⟨rfl, hZ, hh⟩ := hP
  have hx := Bd.exec
  have hby := Bd.bytes
  have hml : c.maxLocals = 5 := hml0
  have hown : s.vm.findClass "com/example/logward/logward/log/RecordType" = some m.cls := findClass_of_methodNamed Bd.named
  have hnm := (name_of_methodNamed Bd.named Bd.method).1
  have hlk := Bd.notSynchronized
  have X0 : Stand p l e ({ frames := 2, cells := 1, slots := 7, locals := 25 } : Room) s m #[(.int p0)] below meth c s₁ [] 0 0 := Stand.of_body Bd
  have e0 : s₁.heap = h0 := by rw [← hh, Bd.state]; rfl
  have N0 := Fr.nil n0
  show own_G p.tables e below s (Q_rmO Z p0 va kv r1 r2 r3 r4 r5 r6 r7 rv h0 n0) ({ frames := 2, cells := 1, slots := 7, locals := 25 } : Room).cells ({ frames := 2, cells := 1, slots := 7, locals := 25 } : Room).slots _
  refine own_thr (a := s₁.setTop (mkF m 0 #[.val (.int p0), .unset, .unset, .unset, .unset] [])) (fun t kt => castTop (ef_rmO m p0) kt) ?_
  obtain ⟨_, _, ⟨T1, L1, k1, n1⟩, -, X1, ⟨Lc1, hQ1, l1, y1, z1⟩, st1⟩ := Jvm.LawKit.callS X0 hx (y := (⟨"com/example/logward/logward/log/RecordType", "values", "()[Lcom/example/logward/logward/log/RecordType;"⟩ : MethodName)) hown (mvT hZ (hw _ (List.mem_of_getElem? (i := 4) rfl))) (mvT hZ (hw _ (List.mem_of_getElem? (i := 5) rfl))) (mvT hZ (hw _ (List.mem_of_getElem? (i := 2) rfl))) (mvT hZ (hw _ (List.mem_of_getElem? (i := 6) rfl))) (by decide) (backOf (W := 0) (rmV l Z a0 hw [] va kv r1 r2 r3 r4 r5 r6 r7 h0 n0 Z0 S_V V_va E_va hfit hO) hZ (hw _ (List.mem_of_getElem? (i := 6) rfl)) (hw _ (List.mem_of_getElem? (i := 2) rfl)) (by decide) (by decide)) (g := (mkF m 0 #[.val (.int p0), .unset, .unset, .unset, .unset] [])) rfl (by rw [hml]; rfl) (argsL := []) (rest := []) (lenOf pd__28_29_5bLcom_2fexample_2flogward_2flogward_2flog_2fRecordType_3b rfl) rfl (by show 2 * 0 + _ ≤ _; exact Nat.le_of_eq rfl) (hb hby d1_0) (fun _ _ => ⟨rfl, e0, (by decide : 0 + 1 ≤ _), (by decide : 0 + 7 ≤ _)⟩)
  dsimp only [Pt.U, Pt.locs, Pt.cells, Pt.slots] at X1 l1 y1 z1 st1 hQ1
  obtain ⟨b1, rfl, N1q, K1, V_b1⟩ := hQ1
  have Z2 : n0 ≤ T1.heap.size := Nat.le_trans Z0 K1.1
  have Z2h : h0.size ≤ T1.heap.size := Nat.le_trans (Nat.le_refl h0.size) K1.1
  obtain ⟨lc1, X1, N1⟩ := own_pack X1 l1 y1 z1 N0 N1q (C := 1) (S' := 7) rfl rfl
  refine own_thr (a := T1.setTop (mkF m 3 #[.val (.int p0), .unset, .unset, .unset, .unset] [(.ref b1)])) (fun t kt => st1 t kt) ?_
  refine own_thr (a := T1.setTop (mkF m 5 #[.val (.int p0), .val (.ref b1), .unset, .unset, .unset] [(.ref b1)])) (fun t kt => ?_) ?_
  · show Steps p.tables e below (T1.setTop (mkF m 3 #[.val (.int p0), .unset, .unset, .unset, .unset] [(.ref b1)])) _
    refine XS.astoreN X1.here hx rfl (hb hby d1_3) rfl rfl (l' := #[.val (.int p0), .val (.ref b1), .unset, .unset, .unset]) rfl ?_
    show Steps p.tables e below (T1.setTop (mkF m 4 #[.val (.int p0), .val (.ref b1), .unset, .unset, .unset] [])) _
    refine XS.aloadN X1.here hx rfl (hb hby d1_4) rfl rfl ?_
    exact kt
  obtain ⟨cl3, Ar3, -, S3, M3, -, -⟩ := id V_b1
  refine own_thr (a := T1.setTop (mkF m 16 #[.val (.int p0), .val (.ref b1), .val (.int (7 : Int32)), .val (.int (0 : Int32)), .unset] [(.int (0 : Int32)), (.ref b1)])) (fun t kt => ?_) ?_
  · show Steps p.tables e below (T1.setTop (mkF m 5 #[.val (.int p0), .val (.ref b1), .unset, .unset, .unset] [(.ref b1)])) _
    refine X1.arraylength hx Ar3.1 (State.isArrayOf_alike hZ.alike Ar3.2.1) (g := (mkF m 5 #[.val (.int p0), .val (.ref b1), .unset, .unset, .unset] [(.ref b1)])) rfl rfl (hb hby d1_5) _ ?_
    rw [len_of S3 M3]
    show Steps p.tables e below (T1.setTop (mkF m 6 #[.val (.int p0), .val (.ref b1), .unset, .unset, .unset] [(.int (7 : Int32))])) _
    refine XS.istoreN X1.here hx rfl (hb hby d1_6) rfl (l' := #[.val (.int p0), .val (.ref b1), .val (.int (7 : Int32)), .unset, .unset]) rfl ?_
    show Steps p.tables e below (T1.setTop (mkF m 7 #[.val (.int p0), .val (.ref b1), .val (.int (7 : Int32)), .unset, .unset] [])) _
    refine XS.iconst X1.here hx rfl (hb hby d1_7) ?_
    show Steps p.tables e below (T1.setTop (mkF m 8 #[.val (.int p0), .val (.ref b1), .val (.int (7 : Int32)), .unset, .unset] [(.int (0 : Int32))])) _
    refine XS.istoreN X1.here hx rfl (hb hby d1_8) rfl (l' := #[.val (.int p0), .val (.ref b1), .val (.int (7 : Int32)), .val (.int (0 : Int32)), .unset]) rfl ?_
    show Steps p.tables e below (T1.setTop (mkF m 9 #[.val (.int p0), .val (.ref b1), .val (.int (7 : Int32)), .val (.int (0 : Int32)), .unset] [])) _
    refine XS.iloadN X1.here hx rfl (hb hby d1_9) rfl ?_
    show Steps p.tables e below (T1.setTop (mkF m 10 #[.val (.int p0), .val (.ref b1), .val (.int (7 : Int32)), .val (.int (0 : Int32)), .unset] [(.int (0 : Int32))])) _
    refine XS.iloadN X1.here hx rfl (hb hby d1_10) rfl ?_
    show Steps p.tables e below (T1.setTop (mkF m 11 #[.val (.int p0), .val (.ref b1), .val (.int (7 : Int32)), .val (.int (0 : Int32)), .unset] [(.int (7 : Int32)), (.int (0 : Int32))])) _
    refine XS.icmpNo X1.here hx rfl (hb hby d1_11) rfl (tlt (by decide)).2.1 ?_
    show Steps p.tables e below (T1.setTop (mkF m 14 #[.val (.int p0), .val (.ref b1), .val (.int (7 : Int32)), .val (.int (0 : Int32)), .unset] [])) _
    refine XS.aloadN X1.here hx rfl (hb hby d1_14) rfl rfl ?_
    show Steps p.tables e below (T1.setTop (mkF m 15 #[.val (.int p0), .val (.ref b1), .val (.int (7 : Int32)), .val (.int (0 : Int32)), .unset] [(.ref b1)])) _
    refine XS.iloadN X1.here hx rfl (hb hby d1_15) rfl ?_
    exact kt
  obtain ⟨cl4, Ar4, -, S4, M4, H4, -⟩ := id V_b1
  have hin4 : ¬ ((0 : Int32) < 0 ∨ cl4.slots.size ≤ ((0 : Int32)).toNatClampNeg) := inb_of S4 ⟨by decide, by decide⟩
  have hat4 : cl4.slots[((0 : Int32)).toNatClampNeg]? = some (.ref r1) := Has.at H4 hin4 rfl
  refine own_thr (a := T1.setTop (mkF m 21 #[.val (.int p0), .val (.ref b1), .val (.int (7 : Int32)), .val (.int (0 : Int32)), .val (.ref r1)] [(.ref r1)])) (fun t kt => ?_) ?_
  · show Steps p.tables e below (T1.setTop (mkF m 16 #[.val (.int p0), .val (.ref b1), .val (.int (7 : Int32)), .val (.int (0 : Int32)), .unset] [(.int (0 : Int32)), (.ref b1)])) _
    refine X1.aaload hx (j := (0 : Int32)) (v := (.ref r1)) Ar4.1 (State.isArrayOf_alike hZ.alike Ar4.2.1) rfl Ar4.2.2 hin4 hat4 (g := (mkF m 16 #[.val (.int p0), .val (.ref b1), .val (.int (7 : Int32)), .val (.int (0 : Int32)), .unset] [(.int (0 : Int32)), (.ref b1)])) rfl rfl (hb hby d1_16) _ ?_
    show Steps p.tables e below (T1.setTop (mkF m 17 #[.val (.int p0), .val (.ref b1), .val (.int (7 : Int32)), .val (.int (0 : Int32)), .unset] [(.ref r1)])) _
    refine XS.astore X1.here hx rfl (hb hby d1_17) rfl rfl (l' := #[.val (.int p0), .val (.ref b1), .val (.int (7 : Int32)), .val (.int (0 : Int32)), .val (.ref r1)]) rfl ?_
    show Steps p.tables e below (T1.setTop (mkF m 19 #[.val (.int p0), .val (.ref b1), .val (.int (7 : Int32)), .val (.int (0 : Int32)), .val (.ref r1)] [])) _
    refine XS.aload X1.here hx rfl (hb hby d1_19) rfl rfl ?_
    exact kt
  obtain ⟨T5, X5, e5, st5⟩ := getF X1 hx hZ hown (host := "") (Or.inl (hw _ (List.mem_of_getElem? (i := 26) rfl))) Via.refl rfl (F_r1.keep K1 nin0) (g := (mkF m 21 #[.val (.int p0), .val (.ref b1), .val (.int (7 : Int32)), .val (.int (0 : Int32)), .val (.ref r1)] [(.ref r1)])) rfl rfl (hb hby d1_21)
  refine own_thr (a := T5.setTop (mkF m 24 #[.val (.int p0), .val (.ref b1), .val (.int (7 : Int32)), .val (.int (0 : Int32)), .val (.ref r1)] [(.int (1 : Int32))])) (fun t kt => st5 t kt) ?_
  refine own_thr (a := T5.setTop (mkF m 25 #[.val (.int p0), .val (.ref b1), .val (.int (7 : Int32)), .val (.int (0 : Int32)), .val (.ref r1)] [(.int p0), (.int (1 : Int32))])) (fun t kt => ?_) ?_
  · show Steps p.tables e below (T5.setTop (mkF m 24 #[.val (.int p0), .val (.ref b1), .val (.int (7 : Int32)), .val (.int (0 : Int32)), .val (.ref r1)] [(.int (1 : Int32))])) _
    refine XS.iloadN X5.here hx rfl (hb hby d1_24) rfl ?_
    exact kt
  by_cases hc6 : (1 : Int32) = p0
  · refine own_thr (a := T5.setTop (mkF m 30 #[.val (.int p0), .val (.ref b1), .val (.int (7 : Int32)), .val (.int (0 : Int32)), .val (.ref r1)] [(.ref r1)])) (fun t kt => ?_) ?_
    · show Steps p.tables e below (T5.setTop (mkF m 25 #[.val (.int p0), .val (.ref b1), .val (.int (7 : Int32)), .val (.int (0 : Int32)), .val (.ref r1)] [(.int p0), (.int (1 : Int32))])) _
      refine XS.icmpNo X5.here hx rfl (hb hby d1_25) rfl (teq hc6).2 ?_
      show Steps p.tables e below (T5.setTop (mkF m 28 #[.val (.int p0), .val (.ref b1), .val (.int (7 : Int32)), .val (.int (0 : Int32)), .val (.ref r1)] [])) _
      refine XS.aload X5.here hx rfl (hb hby d1_28) rfl rfl ?_
      exact kt
    exact own_end X5 hlk (v := some (.ref r1)) (fun h => by rw [Bd.returns] at h; cases h) (fun fs hr => retA X5 hx Bd.returns rfl rfl (hb hby d1_30) hr) (by rw [e5]; exact ⟨by rw [own_rt, if_pos hc6.symm] at hrv; rw [hrv], N1, ((Keep.refl h0 []).trans K1 all0)⟩) (by decide : 1 ≤ _) (by decide : 7 ≤ _)
  · refine own_thr (a := T5.setTop (mkF m 16 #[.val (.int p0), .val (.ref b1), .val (.int (7 : Int32)), .val (.int (1 : Int32)), .val (.ref r1)] [(.int (1 : Int32)), (.ref b1)])) (fun t kt => ?_) ?_
    · show Steps p.tables e below (T5.setTop (mkF m 25 #[.val (.int p0), .val (.ref b1), .val (.int (7 : Int32)), .val (.int (0 : Int32)), .val (.ref r1)] [(.int p0), (.int (1 : Int32))])) _
      refine XS.icmpYes X5.here hx rfl (pc0 := 25) (pc' := 31) rfl (hb hby d1_25) rfl (feq hc6).2 (by decide) (by decide) ?_
      show Steps p.tables e below (T5.setTop (mkF m 31 #[.val (.int p0), .val (.ref b1), .val (.int (7 : Int32)), .val (.int (0 : Int32)), .val (.ref r1)] [])) _
      refine XS.iinc X5.here hx rfl (hb hby d1_31) rfl (l' := #[.val (.int p0), .val (.ref b1), .val (.int (7 : Int32)), .val (.int (1 : Int32)), .val (.ref r1)]) rfl ?_
      show Steps p.tables e below (T5.setTop (mkF m 34 #[.val (.int p0), .val (.ref b1), .val (.int (7 : Int32)), .val (.int (1 : Int32)), .val (.ref r1)] [])) _
      refine XS.goto X5.here hx rfl (pc0 := 34) (pc' := 9) rfl (hb hby d1_34) (by decide) (by decide) ?_
      show Steps p.tables e below (T5.setTop (mkF m 9 #[.val (.int p0), .val (.ref b1), .val (.int (7 : Int32)), .val (.int (1 : Int32)), .val (.ref r1)] [])) _
      refine XS.iloadN X5.here hx rfl (hb hby d1_9) rfl ?_
      show Steps p.tables e below (T5.setTop (mkF m 10 #[.val (.int p0), .val (.ref b1), .val (.int (7 : Int32)), .val (.int (1 : Int32)), .val (.ref r1)] [(.int (1 : Int32))])) _
      refine XS.iloadN X5.here hx rfl (hb hby d1_10) rfl ?_
      show Steps p.tables e below (T5.setTop (mkF m 11 #[.val (.int p0), .val (.ref b1), .val (.int (7 : Int32)), .val (.int (1 : Int32)), .val (.ref r1)] [(.int (7 : Int32)), (.int (1 : Int32))])) _
      refine XS.icmpNo X5.here hx rfl (hb hby d1_11) rfl (tlt (by decide)).2.1 ?_
      show Steps p.tables e below (T5.setTop (mkF m 14 #[.val (.int p0), .val (.ref b1), .val (.int (7 : Int32)), .val (.int (1 : Int32)), .val (.ref r1)] [])) _
      refine XS.aloadN X5.here hx rfl (hb hby d1_14) rfl rfl ?_
      show Steps p.tables e below (T5.setTop (mkF m 15 #[.val (.int p0), .val (.ref b1), .val (.int (7 : Int32)), .val (.int (1 : Int32)), .val (.ref r1)] [(.ref b1)])) _
      refine XS.iloadN X5.here hx rfl (hb hby d1_15) rfl ?_
      exact kt
    obtain ⟨cl7, Ar7, -, S7, M7, H7, -⟩ := id V_b1
    have hin7 : ¬ ((1 : Int32) < 0 ∨ cl7.slots.size ≤ ((1 : Int32)).toNatClampNeg) := inb_of S7 ⟨by decide, by decide⟩
    have hat7 : cl7.slots[((1 : Int32)).toNatClampNeg]? = some (.ref r2) := Has.at H7 hin7 rfl
    refine own_thr (a := T5.setTop (mkF m 21 #[.val (.int p0), .val (.ref b1), .val (.int (7 : Int32)), .val (.int (1 : Int32)), .val (.ref r2)] [(.ref r2)])) (fun t kt => ?_) ?_
    · show Steps p.tables e below (T5.setTop (mkF m 16 #[.val (.int p0), .val (.ref b1), .val (.int (7 : Int32)), .val (.int (1 : Int32)), .val (.ref r1)] [(.int (1 : Int32)), (.ref b1)])) _
      refine X5.aaload hx (j := (1 : Int32)) (v := (.ref r2)) (by rw [e5]; exact Ar7.1) (State.isArrayOf_alike hZ.alike Ar7.2.1) rfl Ar7.2.2 hin7 hat7 (g := (mkF m 16 #[.val (.int p0), .val (.ref b1), .val (.int (7 : Int32)), .val (.int (1 : Int32)), .val (.ref r1)] [(.int (1 : Int32)), (.ref b1)])) rfl rfl (hb hby d1_16) _ ?_
      show Steps p.tables e below (T5.setTop (mkF m 17 #[.val (.int p0), .val (.ref b1), .val (.int (7 : Int32)), .val (.int (1 : Int32)), .val (.ref r1)] [(.ref r2)])) _
      refine XS.astore X5.here hx rfl (hb hby d1_17) rfl rfl (l' := #[.val (.int p0), .val (.ref b1), .val (.int (7 : Int32)), .val (.int (1 : Int32)), .val (.ref r2)]) rfl ?_
      show Steps p.tables e below (T5.setTop (mkF m 19 #[.val (.int p0), .val (.ref b1), .val (.int (7 : Int32)), .val (.int (1 : Int32)), .val (.ref r2)] [])) _
      refine XS.aload X5.here hx rfl (hb hby d1_19) rfl rfl ?_
      exact kt
    obtain ⟨T8, X8, e8, st8⟩ := getF X5 hx hZ hown (host := "") (Or.inl (hw _ (List.mem_of_getElem? (i := 26) rfl))) Via.refl e5 (F_r2.keep K1 nin0) (g := (mkF m 21 #[.val (.int p0), .val (.ref b1), .val (.int (7 : Int32)), .val (.int (1 : Int32)), .val (.ref r2)] [(.ref r2)])) rfl rfl (hb hby d1_21)
    refine own_thr (a := T8.setTop (mkF m 24 #[.val (.int p0), .val (.ref b1), .val (.int (7 : Int32)), .val (.int (1 : Int32)), .val (.ref r2)] [(.int (2 : Int32))])) (fun t kt => st8 t kt) ?_
    refine own_thr (a := T8.setTop (mkF m 25 #[.val (.int p0), .val (.ref b1), .val (.int (7 : Int32)), .val (.int (1 : Int32)), .val (.ref r2)] [(.int p0), (.int (2 : Int32))])) (fun t kt => ?_) ?_
    · show Steps p.tables e below (T8.setTop (mkF m 24 #[.val (.int p0), .val (.ref b1), .val (.int (7 : Int32)), .val (.int (1 : Int32)), .val (.ref r2)] [(.int (2 : Int32))])) _
      refine XS.iloadN X8.here hx rfl (hb hby d1_24) rfl ?_
      exact kt
    by_cases hc9 : (2 : Int32) = p0
    · refine own_thr (a := T8.setTop (mkF m 30 #[.val (.int p0), .val (.ref b1), .val (.int (7 : Int32)), .val (.int (1 : Int32)), .val (.ref r2)] [(.ref r2)])) (fun t kt => ?_) ?_
      · show Steps p.tables e below (T8.setTop (mkF m 25 #[.val (.int p0), .val (.ref b1), .val (.int (7 : Int32)), .val (.int (1 : Int32)), .val (.ref r2)] [(.int p0), (.int (2 : Int32))])) _
        refine XS.icmpNo X8.here hx rfl (hb hby d1_25) rfl (teq hc9).2 ?_
        show Steps p.tables e below (T8.setTop (mkF m 28 #[.val (.int p0), .val (.ref b1), .val (.int (7 : Int32)), .val (.int (1 : Int32)), .val (.ref r2)] [])) _
        refine XS.aload X8.here hx rfl (hb hby d1_28) rfl rfl ?_
        exact kt
      exact own_end X8 hlk (v := some (.ref r2)) (fun h => by rw [Bd.returns] at h; cases h) (fun fs hr => retA X8 hx Bd.returns rfl rfl (hb hby d1_30) hr) (by rw [e8]; exact ⟨by rw [own_rt, if_neg (fun q => hc6 q.symm), if_pos hc9.symm] at hrv; rw [hrv], N1, ((Keep.refl h0 []).trans K1 all0)⟩) (by decide : 1 ≤ _) (by decide : 7 ≤ _)
    · refine own_thr (a := T8.setTop (mkF m 16 #[.val (.int p0), .val (.ref b1), .val (.int (7 : Int32)), .val (.int (2 : Int32)), .val (.ref r2)] [(.int (2 : Int32)), (.ref b1)])) (fun t kt => ?_) ?_
      · show Steps p.tables e below (T8.setTop (mkF m 25 #[.val (.int p0), .val (.ref b1), .val (.int (7 : Int32)), .val (.int (1 : Int32)), .val (.ref r2)] [(.int p0), (.int (2 : Int32))])) _
        refine XS.icmpYes X8.here hx rfl (pc0 := 25) (pc' := 31) rfl (hb hby d1_25) rfl (feq hc9).2 (by decide) (by decide) ?_
        show Steps p.tables e below (T8.setTop (mkF m 31 #[.val (.int p0), .val (.ref b1), .val (.int (7 : Int32)), .val (.int (1 : Int32)), .val (.ref r2)] [])) _
        refine XS.iinc X8.here hx rfl (hb hby d1_31) rfl (l' := #[.val (.int p0), .val (.ref b1), .val (.int (7 : Int32)), .val (.int (2 : Int32)), .val (.ref r2)]) rfl ?_
        show Steps p.tables e below (T8.setTop (mkF m 34 #[.val (.int p0), .val (.ref b1), .val (.int (7 : Int32)), .val (.int (2 : Int32)), .val (.ref r2)] [])) _
        refine XS.goto X8.here hx rfl (pc0 := 34) (pc' := 9) rfl (hb hby d1_34) (by decide) (by decide) ?_
        show Steps p.tables e below (T8.setTop (mkF m 9 #[.val (.int p0), .val (.ref b1), .val (.int (7 : Int32)), .val (.int (2 : Int32)), .val (.ref r2)] [])) _
        refine XS.iloadN X8.here hx rfl (hb hby d1_9) rfl ?_
        show Steps p.tables e below (T8.setTop (mkF m 10 #[.val (.int p0), .val (.ref b1), .val (.int (7 : Int32)), .val (.int (2 : Int32)), .val (.ref r2)] [(.int (2 : Int32))])) _
        refine XS.iloadN X8.here hx rfl (hb hby d1_10) rfl ?_
        show Steps p.tables e below (T8.setTop (mkF m 11 #[.val (.int p0), .val (.ref b1), .val (.int (7 : Int32)), .val (.int (2 : Int32)), .val (.ref r2)] [(.int (7 : Int32)), (.int (2 : Int32))])) _
        refine XS.icmpNo X8.here hx rfl (hb hby d1_11) rfl (tlt (by decide)).2.1 ?_
        show Steps p.tables e below (T8.setTop (mkF m 14 #[.val (.int p0), .val (.ref b1), .val (.int (7 : Int32)), .val (.int (2 : Int32)), .val (.ref r2)] [])) _
        refine XS.aloadN X8.here hx rfl (hb hby d1_14) rfl rfl ?_
        show Steps p.tables e below (T8.setTop (mkF m 15 #[.val (.int p0), .val (.ref b1), .val (.int (7 : Int32)), .val (.int (2 : Int32)), .val (.ref r2)] [(.ref b1)])) _
        refine XS.iloadN X8.here hx rfl (hb hby d1_15) rfl ?_
        exact kt
      obtain ⟨cl10, Ar10, -, S10, M10, H10, -⟩ := id V_b1
      have hin10 : ¬ ((2 : Int32) < 0 ∨ cl10.slots.size ≤ ((2 : Int32)).toNatClampNeg) := inb_of S10 ⟨by decide, by decide⟩
      have hat10 : cl10.slots[((2 : Int32)).toNatClampNeg]? = some (.ref r3) := Has.at H10 hin10 rfl
      refine own_thr (a := T8.setTop (mkF m 21 #[.val (.int p0), .val (.ref b1), .val (.int (7 : Int32)), .val (.int (2 : Int32)), .val (.ref r3)] [(.ref r3)])) (fun t kt => ?_) ?_
      · show Steps p.tables e below (T8.setTop (mkF m 16 #[.val (.int p0), .val (.ref b1), .val (.int (7 : Int32)), .val (.int (2 : Int32)), .val (.ref r2)] [(.int (2 : Int32)), (.ref b1)])) _
        refine X8.aaload hx (j := (2 : Int32)) (v := (.ref r3)) (by rw [e8]; exact Ar10.1) (State.isArrayOf_alike hZ.alike Ar10.2.1) rfl Ar10.2.2 hin10 hat10 (g := (mkF m 16 #[.val (.int p0), .val (.ref b1), .val (.int (7 : Int32)), .val (.int (2 : Int32)), .val (.ref r2)] [(.int (2 : Int32)), (.ref b1)])) rfl rfl (hb hby d1_16) _ ?_
        show Steps p.tables e below (T8.setTop (mkF m 17 #[.val (.int p0), .val (.ref b1), .val (.int (7 : Int32)), .val (.int (2 : Int32)), .val (.ref r2)] [(.ref r3)])) _
        refine XS.astore X8.here hx rfl (hb hby d1_17) rfl rfl (l' := #[.val (.int p0), .val (.ref b1), .val (.int (7 : Int32)), .val (.int (2 : Int32)), .val (.ref r3)]) rfl ?_
        show Steps p.tables e below (T8.setTop (mkF m 19 #[.val (.int p0), .val (.ref b1), .val (.int (7 : Int32)), .val (.int (2 : Int32)), .val (.ref r3)] [])) _
        refine XS.aload X8.here hx rfl (hb hby d1_19) rfl rfl ?_
        exact kt
      obtain ⟨T11, X11, e11, st11⟩ := getF X8 hx hZ hown (host := "") (Or.inl (hw _ (List.mem_of_getElem? (i := 26) rfl))) Via.refl e8 (F_r3.keep K1 nin0) (g := (mkF m 21 #[.val (.int p0), .val (.ref b1), .val (.int (7 : Int32)), .val (.int (2 : Int32)), .val (.ref r3)] [(.ref r3)])) rfl rfl (hb hby d1_21)
      refine own_thr (a := T11.setTop (mkF m 24 #[.val (.int p0), .val (.ref b1), .val (.int (7 : Int32)), .val (.int (2 : Int32)), .val (.ref r3)] [(.int (3 : Int32))])) (fun t kt => st11 t kt) ?_
      refine own_thr (a := T11.setTop (mkF m 25 #[.val (.int p0), .val (.ref b1), .val (.int (7 : Int32)), .val (.int (2 : Int32)), .val (.ref r3)] [(.int p0), (.int (3 : Int32))])) (fun t kt => ?_) ?_
      · show Steps p.tables e below (T11.setTop (mkF m 24 #[.val (.int p0), .val (.ref b1), .val (.int (7 : Int32)), .val (.int (2 : Int32)), .val (.ref r3)] [(.int (3 : Int32))])) _
        refine XS.iloadN X11.here hx rfl (hb hby d1_24) rfl ?_
        exact kt
      by_cases hc12 : (3 : Int32) = p0
      · refine own_thr (a := T11.setTop (mkF m 30 #[.val (.int p0), .val (.ref b1), .val (.int (7 : Int32)), .val (.int (2 : Int32)), .val (.ref r3)] [(.ref r3)])) (fun t kt => ?_) ?_
        · show Steps p.tables e below (T11.setTop (mkF m 25 #[.val (.int p0), .val (.ref b1), .val (.int (7 : Int32)), .val (.int (2 : Int32)), .val (.ref r3)] [(.int p0), (.int (3 : Int32))])) _
          refine XS.icmpNo X11.here hx rfl (hb hby d1_25) rfl (teq hc12).2 ?_
          show Steps p.tables e below (T11.setTop (mkF m 28 #[.val (.int p0), .val (.ref b1), .val (.int (7 : Int32)), .val (.int (2 : Int32)), .val (.ref r3)] [])) _
          refine XS.aload X11.here hx rfl (hb hby d1_28) rfl rfl ?_
          exact kt
        exact own_end X11 hlk (v := some (.ref r3)) (fun h => by rw [Bd.returns] at h; cases h) (fun fs hr => retA X11 hx Bd.returns rfl rfl (hb hby d1_30) hr) (by rw [e11]; exact ⟨by rw [own_rt, if_neg (fun q => hc6 q.symm), if_neg (fun q => hc9 q.symm), if_pos hc12.symm] at hrv; rw [hrv], N1, ((Keep.refl h0 []).trans K1 all0)⟩) (by decide : 1 ≤ _) (by decide : 7 ≤ _)
      · refine own_thr (a := T11.setTop (mkF m 16 #[.val (.int p0), .val (.ref b1), .val (.int (7 : Int32)), .val (.int (3 : Int32)), .val (.ref r3)] [(.int (3 : Int32)), (.ref b1)])) (fun t kt => ?_) ?_
        · show Steps p.tables e below (T11.setTop (mkF m 25 #[.val (.int p0), .val (.ref b1), .val (.int (7 : Int32)), .val (.int (2 : Int32)), .val (.ref r3)] [(.int p0), (.int (3 : Int32))])) _
          refine XS.icmpYes X11.here hx rfl (pc0 := 25) (pc' := 31) rfl (hb hby d1_25) rfl (feq hc12).2 (by decide) (by decide) ?_
          show Steps p.tables e below (T11.setTop (mkF m 31 #[.val (.int p0), .val (.ref b1), .val (.int (7 : Int32)), .val (.int (2 : Int32)), .val (.ref r3)] [])) _
          refine XS.iinc X11.here hx rfl (hb hby d1_31) rfl (l' := #[.val (.int p0), .val (.ref b1), .val (.int (7 : Int32)), .val (.int (3 : Int32)), .val (.ref r3)]) rfl ?_
          show Steps p.tables e below (T11.setTop (mkF m 34 #[.val (.int p0), .val (.ref b1), .val (.int (7 : Int32)), .val (.int (3 : Int32)), .val (.ref r3)] [])) _
          refine XS.goto X11.here hx rfl (pc0 := 34) (pc' := 9) rfl (hb hby d1_34) (by decide) (by decide) ?_
          show Steps p.tables e below (T11.setTop (mkF m 9 #[.val (.int p0), .val (.ref b1), .val (.int (7 : Int32)), .val (.int (3 : Int32)), .val (.ref r3)] [])) _
          refine XS.iloadN X11.here hx rfl (hb hby d1_9) rfl ?_
          show Steps p.tables e below (T11.setTop (mkF m 10 #[.val (.int p0), .val (.ref b1), .val (.int (7 : Int32)), .val (.int (3 : Int32)), .val (.ref r3)] [(.int (3 : Int32))])) _
          refine XS.iloadN X11.here hx rfl (hb hby d1_10) rfl ?_
          show Steps p.tables e below (T11.setTop (mkF m 11 #[.val (.int p0), .val (.ref b1), .val (.int (7 : Int32)), .val (.int (3 : Int32)), .val (.ref r3)] [(.int (7 : Int32)), (.int (3 : Int32))])) _
          refine XS.icmpNo X11.here hx rfl (hb hby d1_11) rfl (tlt (by decide)).2.1 ?_
          show Steps p.tables e below (T11.setTop (mkF m 14 #[.val (.int p0), .val (.ref b1), .val (.int (7 : Int32)), .val (.int (3 : Int32)), .val (.ref r3)] [])) _
          refine XS.aloadN X11.here hx rfl (hb hby d1_14) rfl rfl ?_
          show Steps p.tables e below (T11.setTop (mkF m 15 #[.val (.int p0), .val (.ref b1), .val (.int (7 : Int32)), .val (.int (3 : Int32)), .val (.ref r3)] [(.ref b1)])) _
          refine XS.iloadN X11.here hx rfl (hb hby d1_15) rfl ?_
          exact kt
        obtain ⟨cl13, Ar13, -, S13, M13, H13, -⟩ := id V_b1
        have hin13 : ¬ ((3 : Int32) < 0 ∨ cl13.slots.size ≤ ((3 : Int32)).toNatClampNeg) := inb_of S13 ⟨by decide, by decide⟩
        have hat13 : cl13.slots[((3 : Int32)).toNatClampNeg]? = some (.ref r4) := Has.at H13 hin13 rfl
        refine own_thr (a := T11.setTop (mkF m 21 #[.val (.int p0), .val (.ref b1), .val (.int (7 : Int32)), .val (.int (3 : Int32)), .val (.ref r4)] [(.ref r4)])) (fun t kt => ?_) ?_
        · show Steps p.tables e below (T11.setTop (mkF m 16 #[.val (.int p0), .val (.ref b1), .val (.int (7 : Int32)), .val (.int (3 : Int32)), .val (.ref r3)] [(.int (3 : Int32)), (.ref b1)])) _
          refine X11.aaload hx (j := (3 : Int32)) (v := (.ref r4)) (by rw [e11]; exact Ar13.1) (State.isArrayOf_alike hZ.alike Ar13.2.1) rfl Ar13.2.2 hin13 hat13 (g := (mkF m 16 #[.val (.int p0), .val (.ref b1), .val (.int (7 : Int32)), .val (.int (3 : Int32)), .val (.ref r3)] [(.int (3 : Int32)), (.ref b1)])) rfl rfl (hb hby d1_16) _ ?_
          show Steps p.tables e below (T11.setTop (mkF m 17 #[.val (.int p0), .val (.ref b1), .val (.int (7 : Int32)), .val (.int (3 : Int32)), .val (.ref r3)] [(.ref r4)])) _
          refine XS.astore X11.here hx rfl (hb hby d1_17) rfl rfl (l' := #[.val (.int p0), .val (.ref b1), .val (.int (7 : Int32)), .val (.int (3 : Int32)), .val (.ref r4)]) rfl ?_
          show Steps p.tables e below (T11.setTop (mkF m 19 #[.val (.int p0), .val (.ref b1), .val (.int (7 : Int32)), .val (.int (3 : Int32)), .val (.ref r4)] [])) _
          refine XS.aload X11.here hx rfl (hb hby d1_19) rfl rfl ?_
          exact kt
        obtain ⟨T14, X14, e14, st14⟩ := getF X11 hx hZ hown (host := "") (Or.inl (hw _ (List.mem_of_getElem? (i := 26) rfl))) Via.refl e11 (F_r4.keep K1 nin0) (g := (mkF m 21 #[.val (.int p0), .val (.ref b1), .val (.int (7 : Int32)), .val (.int (3 : Int32)), .val (.ref r4)] [(.ref r4)])) rfl rfl (hb hby d1_21)
        refine own_thr (a := T14.setTop (mkF m 24 #[.val (.int p0), .val (.ref b1), .val (.int (7 : Int32)), .val (.int (3 : Int32)), .val (.ref r4)] [(.int (4 : Int32))])) (fun t kt => st14 t kt) ?_
        refine own_thr (a := T14.setTop (mkF m 25 #[.val (.int p0), .val (.ref b1), .val (.int (7 : Int32)), .val (.int (3 : Int32)), .val (.ref r4)] [(.int p0), (.int (4 : Int32))])) (fun t kt => ?_) ?_
        · show Steps p.tables e below (T14.setTop (mkF m 24 #[.val (.int p0), .val (.ref b1), .val (.int (7 : Int32)), .val (.int (3 : Int32)), .val (.ref r4)] [(.int (4 : Int32))])) _
          refine XS.iloadN X14.here hx rfl (hb hby d1_24) rfl ?_
          exact kt
        by_cases hc15 : (4 : Int32) = p0
        · refine own_thr (a := T14.setTop (mkF m 30 #[.val (.int p0), .val (.ref b1), .val (.int (7 : Int32)), .val (.int (3 : Int32)), .val (.ref r4)] [(.ref r4)])) (fun t kt => ?_) ?_
          · show Steps p.tables e below (T14.setTop (mkF m 25 #[.val (.int p0), .val (.ref b1), .val (.int (7 : Int32)), .val (.int (3 : Int32)), .val (.ref r4)] [(.int p0), (.int (4 : Int32))])) _
            refine XS.icmpNo X14.here hx rfl (hb hby d1_25) rfl (teq hc15).2 ?_
            show Steps p.tables e below (T14.setTop (mkF m 28 #[.val (.int p0), .val (.ref b1), .val (.int (7 : Int32)), .val (.int (3 : Int32)), .val (.ref r4)] [])) _
            refine XS.aload X14.here hx rfl (hb hby d1_28) rfl rfl ?_
            exact kt
          exact own_end X14 hlk (v := some (.ref r4)) (fun h => by rw [Bd.returns] at h; cases h) (fun fs hr => retA X14 hx Bd.returns rfl rfl (hb hby d1_30) hr) (by rw [e14]; exact ⟨by rw [own_rt, if_neg (fun q => hc6 q.symm), if_neg (fun q => hc9 q.symm), if_neg (fun q => hc12 q.symm), if_pos hc15.symm] at hrv; rw [hrv], N1, ((Keep.refl h0 []).trans K1 all0)⟩) (by decide : 1 ≤ _) (by decide : 7 ≤ _)
        · refine own_thr (a := T14.setTop (mkF m 16 #[.val (.int p0), .val (.ref b1), .val (.int (7 : Int32)), .val (.int (4 : Int32)), .val (.ref r4)] [(.int (4 : Int32)), (.ref b1)])) (fun t kt => ?_) ?_
          · show Steps p.tables e below (T14.setTop (mkF m 25 #[.val (.int p0), .val (.ref b1), .val (.int (7 : Int32)), .val (.int (3 : Int32)), .val (.ref r4)] [(.int p0), (.int (4 : Int32))])) _
            refine XS.icmpYes X14.here hx rfl (pc0 := 25) (pc' := 31) rfl (hb hby d1_25) rfl (feq hc15).2 (by decide) (by decide) ?_
            show Steps p.tables e below (T14.setTop (mkF m 31 #[.val (.int p0), .val (.ref b1), .val (.int (7 : Int32)), .val (.int (3 : Int32)), .val (.ref r4)] [])) _
            refine XS.iinc X14.here hx rfl (hb hby d1_31) rfl (l' := #[.val (.int p0), .val (.ref b1), .val (.int (7 : Int32)), .val (.int (4 : Int32)), .val (.ref r4)]) rfl ?_
            show Steps p.tables e below (T14.setTop (mkF m 34 #[.val (.int p0), .val (.ref b1), .val (.int (7 : Int32)), .val (.int (4 : Int32)), .val (.ref r4)] [])) _
            refine XS.goto X14.here hx rfl (pc0 := 34) (pc' := 9) rfl (hb hby d1_34) (by decide) (by decide) ?_
            show Steps p.tables e below (T14.setTop (mkF m 9 #[.val (.int p0), .val (.ref b1), .val (.int (7 : Int32)), .val (.int (4 : Int32)), .val (.ref r4)] [])) _
            refine XS.iloadN X14.here hx rfl (hb hby d1_9) rfl ?_
            show Steps p.tables e below (T14.setTop (mkF m 10 #[.val (.int p0), .val (.ref b1), .val (.int (7 : Int32)), .val (.int (4 : Int32)), .val (.ref r4)] [(.int (4 : Int32))])) _
            refine XS.iloadN X14.here hx rfl (hb hby d1_10) rfl ?_
            show Steps p.tables e below (T14.setTop (mkF m 11 #[.val (.int p0), .val (.ref b1), .val (.int (7 : Int32)), .val (.int (4 : Int32)), .val (.ref r4)] [(.int (7 : Int32)), (.int (4 : Int32))])) _
            refine XS.icmpNo X14.here hx rfl (hb hby d1_11) rfl (tlt (by decide)).2.1 ?_
            show Steps p.tables e below (T14.setTop (mkF m 14 #[.val (.int p0), .val (.ref b1), .val (.int (7 : Int32)), .val (.int (4 : Int32)), .val (.ref r4)] [])) _
            refine XS.aloadN X14.here hx rfl (hb hby d1_14) rfl rfl ?_
            show Steps p.tables e below (T14.setTop (mkF m 15 #[.val (.int p0), .val (.ref b1), .val (.int (7 : Int32)), .val (.int (4 : Int32)), .val (.ref r4)] [(.ref b1)])) _
            refine XS.iloadN X14.here hx rfl (hb hby d1_15) rfl ?_
            exact kt
          obtain ⟨cl16, Ar16, -, S16, M16, H16, -⟩ := id V_b1
          have hin16 : ¬ ((4 : Int32) < 0 ∨ cl16.slots.size ≤ ((4 : Int32)).toNatClampNeg) := inb_of S16 ⟨by decide, by decide⟩
          have hat16 : cl16.slots[((4 : Int32)).toNatClampNeg]? = some (.ref r5) := Has.at H16 hin16 rfl
          refine own_thr (a := T14.setTop (mkF m 21 #[.val (.int p0), .val (.ref b1), .val (.int (7 : Int32)), .val (.int (4 : Int32)), .val (.ref r5)] [(.ref r5)])) (fun t kt => ?_) ?_
          · show Steps p.tables e below (T14.setTop (mkF m 16 #[.val (.int p0), .val (.ref b1), .val (.int (7 : Int32)), .val (.int (4 : Int32)), .val (.ref r4)] [(.int (4 : Int32)), (.ref b1)])) _
            refine X14.aaload hx (j := (4 : Int32)) (v := (.ref r5)) (by rw [e14]; exact Ar16.1) (State.isArrayOf_alike hZ.alike Ar16.2.1) rfl Ar16.2.2 hin16 hat16 (g := (mkF m 16 #[.val (.int p0), .val (.ref b1), .val (.int (7 : Int32)), .val (.int (4 : Int32)), .val (.ref r4)] [(.int (4 : Int32)), (.ref b1)])) rfl rfl (hb hby d1_16) _ ?_
            show Steps p.tables e below (T14.setTop (mkF m 17 #[.val (.int p0), .val (.ref b1), .val (.int (7 : Int32)), .val (.int (4 : Int32)), .val (.ref r4)] [(.ref r5)])) _
            refine XS.astore X14.here hx rfl (hb hby d1_17) rfl rfl (l' := #[.val (.int p0), .val (.ref b1), .val (.int (7 : Int32)), .val (.int (4 : Int32)), .val (.ref r5)]) rfl ?_
            show Steps p.tables e below (T14.setTop (mkF m 19 #[.val (.int p0), .val (.ref b1), .val (.int (7 : Int32)), .val (.int (4 : Int32)), .val (.ref r5)] [])) _
            refine XS.aload X14.here hx rfl (hb hby d1_19) rfl rfl ?_
            exact kt
          obtain ⟨T17, X17, e17, st17⟩ := getF X14 hx hZ hown (host := "") (Or.inl (hw _ (List.mem_of_getElem? (i := 26) rfl))) Via.refl e14 (F_r5.keep K1 nin0) (g := (mkF m 21 #[.val (.int p0), .val (.ref b1), .val (.int (7 : Int32)), .val (.int (4 : Int32)), .val (.ref r5)] [(.ref r5)])) rfl rfl (hb hby d1_21)
          refine own_thr (a := T17.setTop (mkF m 24 #[.val (.int p0), .val (.ref b1), .val (.int (7 : Int32)), .val (.int (4 : Int32)), .val (.ref r5)] [(.int (5 : Int32))])) (fun t kt => st17 t kt) ?_
          refine own_thr (a := T17.setTop (mkF m 25 #[.val (.int p0), .val (.ref b1), .val (.int (7 : Int32)), .val (.int (4 : Int32)), .val (.ref r5)] [(.int p0), (.int (5 : Int32))])) (fun t kt => ?_) ?_
          · show Steps p.tables e below (T17.setTop (mkF m 24 #[.val (.int p0), .val (.ref b1), .val (.int (7 : Int32)), .val (.int (4 : Int32)), .val (.ref r5)] [(.int (5 : Int32))])) _
            refine XS.iloadN X17.here hx rfl (hb hby d1_24) rfl ?_
            exact kt
          by_cases hc18 : (5 : Int32) = p0
          · refine own_thr (a := T17.setTop (mkF m 30 #[.val (.int p0), .val (.ref b1), .val (.int (7 : Int32)), .val (.int (4 : Int32)), .val (.ref r5)] [(.ref r5)])) (fun t kt => ?_) ?_
            · show Steps p.tables e below (T17.setTop (mkF m 25 #[.val (.int p0), .val (.ref b1), .val (.int (7 : Int32)), .val (.int (4 : Int32)), .val (.ref r5)] [(.int p0), (.int (5 : Int32))])) _
              refine XS.icmpNo X17.here hx rfl (hb hby d1_25) rfl (teq hc18).2 ?_
              show Steps p.tables e below (T17.setTop (mkF m 28 #[.val (.int p0), .val (.ref b1), .val (.int (7 : Int32)), .val (.int (4 : Int32)), .val (.ref r5)] [])) _
              refine XS.aload X17.here hx rfl (hb hby d1_28) rfl rfl ?_
              exact kt
            exact own_end X17 hlk (v := some (.ref r5)) (fun h => by rw [Bd.returns] at h; cases h) (fun fs hr => retA X17 hx Bd.returns rfl rfl (hb hby d1_30) hr) (by rw [e17]; exact ⟨by rw [own_rt, if_neg (fun q => hc6 q.symm), if_neg (fun q => hc9 q.symm), if_neg (fun q => hc12 q.symm), if_neg (fun q => hc15 q.symm), if_pos hc18.symm] at hrv; rw [hrv], N1, ((Keep.refl h0 []).trans K1 all0)⟩) (by decide : 1 ≤ _) (by decide : 7 ≤ _)
          · refine own_thr (a := T17.setTop (mkF m 16 #[.val (.int p0), .val (.ref b1), .val (.int (7 : Int32)), .val (.int (5 : Int32)), .val (.ref r5)] [(.int (5 : Int32)), (.ref b1)])) (fun t kt => ?_) ?_
            · show Steps p.tables e below (T17.setTop (mkF m 25 #[.val (.int p0), .val (.ref b1), .val (.int (7 : Int32)), .val (.int (4 : Int32)), .val (.ref r5)] [(.int p0), (.int (5 : Int32))])) _
              refine XS.icmpYes X17.here hx rfl (pc0 := 25) (pc' := 31) rfl (hb hby d1_25) rfl (feq hc18).2 (by decide) (by decide) ?_
              show Steps p.tables e below (T17.setTop (mkF m 31 #[.val (.int p0), .val (.ref b1), .val (.int (7 : Int32)), .val (.int (4 : Int32)), .val (.ref r5)] [])) _
              refine XS.iinc X17.here hx rfl (hb hby d1_31) rfl (l' := #[.val (.int p0), .val (.ref b1), .val (.int (7 : Int32)), .val (.int (5 : Int32)), .val (.ref r5)]) rfl ?_
              show Steps p.tables e below (T17.setTop (mkF m 34 #[.val (.int p0), .val (.ref b1), .val (.int (7 : Int32)), .val (.int (5 : Int32)), .val (.ref r5)] [])) _
              refine XS.goto X17.here hx rfl (pc0 := 34) (pc' := 9) rfl (hb hby d1_34) (by decide) (by decide) ?_
              show Steps p.tables e below (T17.setTop (mkF m 9 #[.val (.int p0), .val (.ref b1), .val (.int (7 : Int32)), .val (.int (5 : Int32)), .val (.ref r5)] [])) _
              refine XS.iloadN X17.here hx rfl (hb hby d1_9) rfl ?_
              show Steps p.tables e below (T17.setTop (mkF m 10 #[.val (.int p0), .val (.ref b1), .val (.int (7 : Int32)), .val (.int (5 : Int32)), .val (.ref r5)] [(.int (5 : Int32))])) _
              refine XS.iloadN X17.here hx rfl (hb hby d1_10) rfl ?_
              show Steps p.tables e below (T17.setTop (mkF m 11 #[.val (.int p0), .val (.ref b1), .val (.int (7 : Int32)), .val (.int (5 : Int32)), .val (.ref r5)] [(.int (7 : Int32)), (.int (5 : Int32))])) _
              refine XS.icmpNo X17.here hx rfl (hb hby d1_11) rfl (tlt (by decide)).2.1 ?_
              show Steps p.tables e below (T17.setTop (mkF m 14 #[.val (.int p0), .val (.ref b1), .val (.int (7 : Int32)), .val (.int (5 : Int32)), .val (.ref r5)] [])) _
              refine XS.aloadN X17.here hx rfl (hb hby d1_14) rfl rfl ?_
              show Steps p.tables e below (T17.setTop (mkF m 15 #[.val (.int p0), .val (.ref b1), .val (.int (7 : Int32)), .val (.int (5 : Int32)), .val (.ref r5)] [(.ref b1)])) _
              refine XS.iloadN X17.here hx rfl (hb hby d1_15) rfl ?_
              exact kt
            obtain ⟨cl19, Ar19, -, S19, M19, H19, -⟩ := id V_b1
            have hin19 : ¬ ((5 : Int32) < 0 ∨ cl19.slots.size ≤ ((5 : Int32)).toNatClampNeg) := inb_of S19 ⟨by decide, by decide⟩
            have hat19 : cl19.slots[((5 : Int32)).toNatClampNeg]? = some (.ref r6) := Has.at H19 hin19 rfl
            refine own_thr (a := T17.setTop (mkF m 21 #[.val (.int p0), .val (.ref b1), .val (.int (7 : Int32)), .val (.int (5 : Int32)), .val (.ref r6)] [(.ref r6)])) (fun t kt => ?_) ?_
            · show Steps p.tables e below (T17.setTop (mkF m 16 #[.val (.int p0), .val (.ref b1), .val (.int (7 : Int32)), .val (.int (5 : Int32)), .val (.ref r5)] [(.int (5 : Int32)), (.ref b1)])) _
              refine X17.aaload hx (j := (5 : Int32)) (v := (.ref r6)) (by rw [e17]; exact Ar19.1) (State.isArrayOf_alike hZ.alike Ar19.2.1) rfl Ar19.2.2 hin19 hat19 (g := (mkF m 16 #[.val (.int p0), .val (.ref b1), .val (.int (7 : Int32)), .val (.int (5 : Int32)), .val (.ref r5)] [(.int (5 : Int32)), (.ref b1)])) rfl rfl (hb hby d1_16) _ ?_
              show Steps p.tables e below (T17.setTop (mkF m 17 #[.val (.int p0), .val (.ref b1), .val (.int (7 : Int32)), .val (.int (5 : Int32)), .val (.ref r5)] [(.ref r6)])) _
              refine XS.astore X17.here hx rfl (hb hby d1_17) rfl rfl (l' := #[.val (.int p0), .val (.ref b1), .val (.int (7 : Int32)), .val (.int (5 : Int32)), .val (.ref r6)]) rfl ?_
              show Steps p.tables e below (T17.setTop (mkF m 19 #[.val (.int p0), .val (.ref b1), .val (.int (7 : Int32)), .val (.int (5 : Int32)), .val (.ref r6)] [])) _
              refine XS.aload X17.here hx rfl (hb hby d1_19) rfl rfl ?_
              exact kt
            obtain ⟨T20, X20, e20, st20⟩ := getF X17 hx hZ hown (host := "") (Or.inl (hw _ (List.mem_of_getElem? (i := 26) rfl))) Via.refl e17 (F_r6.keep K1 nin0) (g := (mkF m 21 #[.val (.int p0), .val (.ref b1), .val (.int (7 : Int32)), .val (.int (5 : Int32)), .val (.ref r6)] [(.ref r6)])) rfl rfl (hb hby d1_21)
            refine own_thr (a := T20.setTop (mkF m 24 #[.val (.int p0), .val (.ref b1), .val (.int (7 : Int32)), .val (.int (5 : Int32)), .val (.ref r6)] [(.int (6 : Int32))])) (fun t kt => st20 t kt) ?_
            refine own_thr (a := T20.setTop (mkF m 25 #[.val (.int p0), .val (.ref b1), .val (.int (7 : Int32)), .val (.int (5 : Int32)), .val (.ref r6)] [(.int p0), (.int (6 : Int32))])) (fun t kt => ?_) ?_
            · show Steps p.tables e below (T20.setTop (mkF m 24 #[.val (.int p0), .val (.ref b1), .val (.int (7 : Int32)), .val (.int (5 : Int32)), .val (.ref r6)] [(.int (6 : Int32))])) _
              refine XS.iloadN X20.here hx rfl (hb hby d1_24) rfl ?_
              exact kt
            by_cases hc21 : (6 : Int32) = p0
            · refine own_thr (a := T20.setTop (mkF m 30 #[.val (.int p0), .val (.ref b1), .val (.int (7 : Int32)), .val (.int (5 : Int32)), .val (.ref r6)] [(.ref r6)])) (fun t kt => ?_) ?_
              · show Steps p.tables e below (T20.setTop (mkF m 25 #[.val (.int p0), .val (.ref b1), .val (.int (7 : Int32)), .val (.int (5 : Int32)), .val (.ref r6)] [(.int p0), (.int (6 : Int32))])) _
                refine XS.icmpNo X20.here hx rfl (hb hby d1_25) rfl (teq hc21).2 ?_
                show Steps p.tables e below (T20.setTop (mkF m 28 #[.val (.int p0), .val (.ref b1), .val (.int (7 : Int32)), .val (.int (5 : Int32)), .val (.ref r6)] [])) _
                refine XS.aload X20.here hx rfl (hb hby d1_28) rfl rfl ?_
                exact kt
              exact own_end X20 hlk (v := some (.ref r6)) (fun h => by rw [Bd.returns] at h; cases h) (fun fs hr => retA X20 hx Bd.returns rfl rfl (hb hby d1_30) hr) (by rw [e20]; exact ⟨by rw [own_rt, if_neg (fun q => hc6 q.symm), if_neg (fun q => hc9 q.symm), if_neg (fun q => hc12 q.symm), if_neg (fun q => hc15 q.symm), if_neg (fun q => hc18 q.symm), if_pos hc21.symm] at hrv; rw [hrv], N1, ((Keep.refl h0 []).trans K1 all0)⟩) (by decide : 1 ≤ _) (by decide : 7 ≤ _)
            · refine own_thr (a := T20.setTop (mkF m 16 #[.val (.int p0), .val (.ref b1), .val (.int (7 : Int32)), .val (.int (6 : Int32)), .val (.ref r6)] [(.int (6 : Int32)), (.ref b1)])) (fun t kt => ?_) ?_
              · show Steps p.tables e below (T20.setTop (mkF m 25 #[.val (.int p0), .val (.ref b1), .val (.int (7 : Int32)), .val (.int (5 : Int32)), .val (.ref r6)] [(.int p0), (.int (6 : Int32))])) _
                refine XS.icmpYes X20.here hx rfl (pc0 := 25) (pc' := 31) rfl (hb hby d1_25) rfl (feq hc21).2 (by decide) (by decide) ?_
                show Steps p.tables e below (T20.setTop (mkF m 31 #[.val (.int p0), .val (.ref b1), .val (.int (7 : Int32)), .val (.int (5 : Int32)), .val (.ref r6)] [])) _
                refine XS.iinc X20.here hx rfl (hb hby d1_31) rfl (l' := #[.val (.int p0), .val (.ref b1), .val (.int (7 : Int32)), .val (.int (6 : Int32)), .val (.ref r6)]) rfl ?_
                show Steps p.tables e below (T20.setTop (mkF m 34 #[.val (.int p0), .val (.ref b1), .val (.int (7 : Int32)), .val (.int (6 : Int32)), .val (.ref r6)] [])) _
                refine XS.goto X20.here hx rfl (pc0 := 34) (pc' := 9) rfl (hb hby d1_34) (by decide) (by decide) ?_
                show Steps p.tables e below (T20.setTop (mkF m 9 #[.val (.int p0), .val (.ref b1), .val (.int (7 : Int32)), .val (.int (6 : Int32)), .val (.ref r6)] [])) _
                refine XS.iloadN X20.here hx rfl (hb hby d1_9) rfl ?_
                show Steps p.tables e below (T20.setTop (mkF m 10 #[.val (.int p0), .val (.ref b1), .val (.int (7 : Int32)), .val (.int (6 : Int32)), .val (.ref r6)] [(.int (6 : Int32))])) _
                refine XS.iloadN X20.here hx rfl (hb hby d1_10) rfl ?_
                show Steps p.tables e below (T20.setTop (mkF m 11 #[.val (.int p0), .val (.ref b1), .val (.int (7 : Int32)), .val (.int (6 : Int32)), .val (.ref r6)] [(.int (7 : Int32)), (.int (6 : Int32))])) _
                refine XS.icmpNo X20.here hx rfl (hb hby d1_11) rfl (tlt (by decide)).2.1 ?_
                show Steps p.tables e below (T20.setTop (mkF m 14 #[.val (.int p0), .val (.ref b1), .val (.int (7 : Int32)), .val (.int (6 : Int32)), .val (.ref r6)] [])) _
                refine XS.aloadN X20.here hx rfl (hb hby d1_14) rfl rfl ?_
                show Steps p.tables e below (T20.setTop (mkF m 15 #[.val (.int p0), .val (.ref b1), .val (.int (7 : Int32)), .val (.int (6 : Int32)), .val (.ref r6)] [(.ref b1)])) _
                refine XS.iloadN X20.here hx rfl (hb hby d1_15) rfl ?_
                exact kt
              obtain ⟨cl22, Ar22, -, S22, M22, H22, -⟩ := id V_b1
              have hin22 : ¬ ((6 : Int32) < 0 ∨ cl22.slots.size ≤ ((6 : Int32)).toNatClampNeg) := inb_of S22 ⟨by decide, by decide⟩
              have hat22 : cl22.slots[((6 : Int32)).toNatClampNeg]? = some (.ref r7) := Has.at H22 hin22 rfl
              refine own_thr (a := T20.setTop (mkF m 21 #[.val (.int p0), .val (.ref b1), .val (.int (7 : Int32)), .val (.int (6 : Int32)), .val (.ref r7)] [(.ref r7)])) (fun t kt => ?_) ?_
              · show Steps p.tables e below (T20.setTop (mkF m 16 #[.val (.int p0), .val (.ref b1), .val (.int (7 : Int32)), .val (.int (6 : Int32)), .val (.ref r6)] [(.int (6 : Int32)), (.ref b1)])) _
                refine X20.aaload hx (j := (6 : Int32)) (v := (.ref r7)) (by rw [e20]; exact Ar22.1) (State.isArrayOf_alike hZ.alike Ar22.2.1) rfl Ar22.2.2 hin22 hat22 (g := (mkF m 16 #[.val (.int p0), .val (.ref b1), .val (.int (7 : Int32)), .val (.int (6 : Int32)), .val (.ref r6)] [(.int (6 : Int32)), (.ref b1)])) rfl rfl (hb hby d1_16) _ ?_
                show Steps p.tables e below (T20.setTop (mkF m 17 #[.val (.int p0), .val (.ref b1), .val (.int (7 : Int32)), .val (.int (6 : Int32)), .val (.ref r6)] [(.ref r7)])) _
                refine XS.astore X20.here hx rfl (hb hby d1_17) rfl rfl (l' := #[.val (.int p0), .val (.ref b1), .val (.int (7 : Int32)), .val (.int (6 : Int32)), .val (.ref r7)]) rfl ?_
                show Steps p.tables e below (T20.setTop (mkF m 19 #[.val (.int p0), .val (.ref b1), .val (.int (7 : Int32)), .val (.int (6 : Int32)), .val (.ref r7)] [])) _
                refine XS.aload X20.here hx rfl (hb hby d1_19) rfl rfl ?_
                exact kt
              obtain ⟨T23, X23, e23, st23⟩ := getF X20 hx hZ hown (host := "") (Or.inl (hw _ (List.mem_of_getElem? (i := 26) rfl))) Via.refl e20 (F_r7.keep K1 nin0) (g := (mkF m 21 #[.val (.int p0), .val (.ref b1), .val (.int (7 : Int32)), .val (.int (6 : Int32)), .val (.ref r7)] [(.ref r7)])) rfl rfl (hb hby d1_21)
              refine own_thr (a := T23.setTop (mkF m 24 #[.val (.int p0), .val (.ref b1), .val (.int (7 : Int32)), .val (.int (6 : Int32)), .val (.ref r7)] [(.int (7 : Int32))])) (fun t kt => st23 t kt) ?_
              refine own_thr (a := T23.setTop (mkF m 25 #[.val (.int p0), .val (.ref b1), .val (.int (7 : Int32)), .val (.int (6 : Int32)), .val (.ref r7)] [(.int p0), (.int (7 : Int32))])) (fun t kt => ?_) ?_
              · show Steps p.tables e below (T23.setTop (mkF m 24 #[.val (.int p0), .val (.ref b1), .val (.int (7 : Int32)), .val (.int (6 : Int32)), .val (.ref r7)] [(.int (7 : Int32))])) _
                refine XS.iloadN X23.here hx rfl (hb hby d1_24) rfl ?_
                exact kt
              by_cases hc24 : (7 : Int32) = p0
              · refine own_thr (a := T23.setTop (mkF m 30 #[.val (.int p0), .val (.ref b1), .val (.int (7 : Int32)), .val (.int (6 : Int32)), .val (.ref r7)] [(.ref r7)])) (fun t kt => ?_) ?_
                · show Steps p.tables e below (T23.setTop (mkF m 25 #[.val (.int p0), .val (.ref b1), .val (.int (7 : Int32)), .val (.int (6 : Int32)), .val (.ref r7)] [(.int p0), (.int (7 : Int32))])) _
                  refine XS.icmpNo X23.here hx rfl (hb hby d1_25) rfl (teq hc24).2 ?_
                  show Steps p.tables e below (T23.setTop (mkF m 28 #[.val (.int p0), .val (.ref b1), .val (.int (7 : Int32)), .val (.int (6 : Int32)), .val (.ref r7)] [])) _
                  refine XS.aload X23.here hx rfl (hb hby d1_28) rfl rfl ?_
                  exact kt
                exact own_end X23 hlk (v := some (.ref r7)) (fun h => by rw [Bd.returns] at h; cases h) (fun fs hr => retA X23 hx Bd.returns rfl rfl (hb hby d1_30) hr) (by rw [e23]; exact ⟨by rw [own_rt, if_neg (fun q => hc6 q.symm), if_neg (fun q => hc9 q.symm), if_neg (fun q => hc12 q.symm), if_neg (fun q => hc15 q.symm), if_neg (fun q => hc18 q.symm), if_neg (fun q => hc21 q.symm), if_pos hc24.symm] at hrv; rw [hrv], N1, ((Keep.refl h0 []).trans K1 all0)⟩) (by decide : 1 ≤ _) (by decide : 7 ≤ _)
              · refine own_thr (a := T23.setTop (mkF m 38 #[.val (.int p0), .val (.ref b1), .val (.int (7 : Int32)), .val (.int (7 : Int32)), .val (.ref r7)] [.null])) (fun t kt => ?_) ?_
                · show Steps p.tables e below (T23.setTop (mkF m 25 #[.val (.int p0), .val (.ref b1), .val (.int (7 : Int32)), .val (.int (6 : Int32)), .val (.ref r7)] [(.int p0), (.int (7 : Int32))])) _
                  refine XS.icmpYes X23.here hx rfl (pc0 := 25) (pc' := 31) rfl (hb hby d1_25) rfl (feq hc24).2 (by decide) (by decide) ?_
                  show Steps p.tables e below (T23.setTop (mkF m 31 #[.val (.int p0), .val (.ref b1), .val (.int (7 : Int32)), .val (.int (6 : Int32)), .val (.ref r7)] [])) _
                  refine XS.iinc X23.here hx rfl (hb hby d1_31) rfl (l' := #[.val (.int p0), .val (.ref b1), .val (.int (7 : Int32)), .val (.int (7 : Int32)), .val (.ref r7)]) rfl ?_
                  show Steps p.tables e below (T23.setTop (mkF m 34 #[.val (.int p0), .val (.ref b1), .val (.int (7 : Int32)), .val (.int (7 : Int32)), .val (.ref r7)] [])) _
                  refine XS.goto X23.here hx rfl (pc0 := 34) (pc' := 9) rfl (hb hby d1_34) (by decide) (by decide) ?_
                  show Steps p.tables e below (T23.setTop (mkF m 9 #[.val (.int p0), .val (.ref b1), .val (.int (7 : Int32)), .val (.int (7 : Int32)), .val (.ref r7)] [])) _
                  refine XS.iloadN X23.here hx rfl (hb hby d1_9) rfl ?_
                  show Steps p.tables e below (T23.setTop (mkF m 10 #[.val (.int p0), .val (.ref b1), .val (.int (7 : Int32)), .val (.int (7 : Int32)), .val (.ref r7)] [(.int (7 : Int32))])) _
                  refine XS.iloadN X23.here hx rfl (hb hby d1_10) rfl ?_
                  show Steps p.tables e below (T23.setTop (mkF m 11 #[.val (.int p0), .val (.ref b1), .val (.int (7 : Int32)), .val (.int (7 : Int32)), .val (.ref r7)] [(.int (7 : Int32)), (.int (7 : Int32))])) _
                  refine XS.icmpYes X23.here hx rfl (pc0 := 11) (pc' := 37) rfl (hb hby d1_11) rfl (flt (by decide)).2.1 (by decide) (by decide) ?_
                  show Steps p.tables e below (T23.setTop (mkF m 37 #[.val (.int p0), .val (.ref b1), .val (.int (7 : Int32)), .val (.int (7 : Int32)), .val (.ref r7)] [])) _
                  refine XS.aconstNull X23.here hx rfl (hb hby d1_37) ?_
                  exact kt
                exact own_end X23 hlk (v := some .null) (fun h => by rw [Bd.returns] at h; cases h) (fun fs hr => retA X23 hx Bd.returns rfl rfl (hb hby d1_38) hr) (by rw [e23]; exact ⟨by rw [own_rt, if_neg (fun q => hc6 q.symm), if_neg (fun q => hc9 q.symm), if_neg (fun q => hc12 q.symm), if_neg (fun q => hc15 q.symm), if_neg (fun q => hc18 q.symm), if_neg (fun q => hc21 q.symm), if_neg (fun q => hc24 q.symm)] at hrv; rw [hrv], N1, ((Keep.refl h0 []).trans K1 all0)⟩) (by decide : 1 ≤ _) (by decide : 7 ≤ _)
theorem d3_0 : decode method_2_code 0 = .ok (.iload_n 0, 1) := by decide +kernel
theorem d3_1 : decode method_2_code 1 = .ok (.iconst 1, 1) := by decide +kernel
theorem d3_2 : decode method_2_code 2 = .ok (.if_icmp .ne 7, 3) := by decide +kernel
theorem d3_5 : decode method_2_code 5 = .ok (.getstatic 7, 3) := by decide +kernel
theorem d3_8 : decode method_2_code 8 = .ok (.areturn, 1) := by decide +kernel
theorem d3_9 : decode method_2_code 9 = .ok (.iload_n 0, 1) := by decide +kernel
theorem d3_10 : decode method_2_code 10 = .ok (.iconst 2, 1) := by decide +kernel
theorem d3_11 : decode method_2_code 11 = .ok (.if_icmp .ne 7, 3) := by decide +kernel
theorem d3_14 : decode method_2_code 14 = .ok (.getstatic 13, 3) := by decide +kernel
theorem d3_17 : decode method_2_code 17 = .ok (.areturn, 1) := by decide +kernel
theorem d3_18 : decode method_2_code 18 = .ok (.iload_n 0, 1) := by decide +kernel
theorem d3_19 : decode method_2_code 19 = .ok (.iconst 3, 1) := by decide +kernel
theorem d3_20 : decode method_2_code 20 = .ok (.if_icmp .ne 7, 3) := by decide +kernel
theorem d3_23 : decode method_2_code 23 = .ok (.getstatic 16, 3) := by decide +kernel
theorem d3_26 : decode method_2_code 26 = .ok (.areturn, 1) := by decide +kernel
theorem d3_27 : decode method_2_code 27 = .ok (.iload_n 0, 1) := by decide +kernel
theorem d3_28 : decode method_2_code 28 = .ok (.iconst 4, 1) := by decide +kernel
theorem d3_29 : decode method_2_code 29 = .ok (.if_icmp .ne 7, 3) := by decide +kernel
theorem d3_32 : decode method_2_code 32 = .ok (.getstatic 19, 3) := by decide +kernel
theorem d3_35 : decode method_2_code 35 = .ok (.areturn, 1) := by decide +kernel
theorem d3_36 : decode method_2_code 36 = .ok (.iload_n 0, 1) := by decide +kernel
theorem d3_37 : decode method_2_code 37 = .ok (.iconst 5, 1) := by decide +kernel
theorem d3_38 : decode method_2_code 38 = .ok (.if_icmp .ne 7, 3) := by decide +kernel
theorem d3_41 : decode method_2_code 41 = .ok (.getstatic 22, 3) := by decide +kernel
theorem d3_44 : decode method_2_code 44 = .ok (.areturn, 1) := by decide +kernel
theorem d3_45 : decode method_2_code 45 = .ok (.iload_n 0, 1) := by decide +kernel
theorem d3_46 : decode method_2_code 46 = .ok (.bipush 6, 2) := by decide +kernel
theorem d3_48 : decode method_2_code 48 = .ok (.if_icmp .ne 7, 3) := by decide +kernel
theorem d3_51 : decode method_2_code 51 = .ok (.getstatic 25, 3) := by decide +kernel
theorem d3_54 : decode method_2_code 54 = .ok (.areturn, 1) := by decide +kernel
theorem d3_55 : decode method_2_code 55 = .ok (.iload_n 0, 1) := by decide +kernel
theorem d3_56 : decode method_2_code 56 = .ok (.bipush 7, 2) := by decide +kernel
theorem d3_58 : decode method_2_code 58 = .ok (.if_icmp .ne 7, 3) := by decide +kernel
theorem d3_61 : decode method_2_code 61 = .ok (.getstatic 28, 3) := by decide +kernel
theorem d3_64 : decode method_2_code 64 = .ok (.areturn, 1) := by decide +kernel
theorem d3_65 : decode method_2_code 65 = .ok (.aconst_null, 1) := by decide +kernel
theorem d3_66 : decode method_2_code 66 = .ok (.areturn, 1) := by decide +kernel
theorem pn_com_example_logward_logward_log_RecordTypeOfCodePinLaw : plainName "com/example/logward/logward/log/RecordTypeOfCodePinLaw" = true := by first | (simp [plainName, overriddenIn]; done) | decide +kernel
theorem ef_rmX (m : MethodId) (p0 : Int32)  : entryFrame m #[(.int p0)] 1 = mkF m 0 #[.val (.int p0)] [] := by first |  (simp [entryFrame, mkF, argsToLocals, Value.category]; done) | rfl
def Q_rmX (Z : State) (p0 : Int32) (r1 : Addr) (r2 : Addr) (r3 : Addr) (r4 : Addr) (r5 : Addr) (r6 : Addr) (r7 : Addr) (rv : Value) (h0 : Heap) (n0 : Nat) (v : Option Value) (h : Heap) (L : List Loc) : Prop := v = some rv ∧ Fr n0 L ∧ h = h0
set_option maxRecDepth 65536 in
set_option maxHeartbeats 40000000 in
theorem rmX (l : Launch) (Z : State) (a0 : Array Value) (hw : ∀ d ∈ tables_1, d.before a0 Z = true) (ws : List Jvm.Cond) (p0 : Int32) (r1 : Addr) (r2 : Addr) (r3 : Addr) (r4 : Addr) (r5 : Addr) (r6 : Addr) (r7 : Addr) (rv : Value) (h0 : Heap) (n0 : Nat) (Z0 : n0 ≤ h0.size) (S_r1 : Sta Z h0 "com/example/logward/logward/log/RecordType" "BEGIN" "Lcom/example/logward/logward/log/RecordType;" (.ref r1)) (S_r2 : Sta Z h0 "com/example/logward/logward/log/RecordType" "UPDATE" "Lcom/example/logward/logward/log/RecordType;" (.ref r2)) (S_r3 : Sta Z h0 "com/example/logward/logward/log/RecordType" "COMMIT" "Lcom/example/logward/logward/log/RecordType;" (.ref r3)) (S_r4 : Sta Z h0 "com/example/logward/logward/log/RecordType" "ABORT" "Lcom/example/logward/logward/log/RecordType;" (.ref r4)) (S_r5 : Sta Z h0 "com/example/logward/logward/log/RecordType" "COMPENSATION" "Lcom/example/logward/logward/log/RecordType;" (.ref r5)) (S_r6 : Sta Z h0 "com/example/logward/logward/log/RecordType" "CLOSE" "Lcom/example/logward/logward/log/RecordType;" (.ref r6)) (S_r7 : Sta Z h0 "com/example/logward/logward/log/RecordType" "CHECKPOINT" "Lcom/example/logward/logward/log/RecordType;" (.ref r7)) (hrv : own_rt p0 r1 r2 r3 r4 r5 r6 r7 = rv) :
    MetFree l (⟨"com/example/logward/logward/log/RecordTypeOfCodePinLaw", "expected", "(B)Lcom/example/logward/logward/log/RecordType;"⟩ : MethodName) (head1 (Jvm.Cond.code (⟨"com/example/logward/logward/log/RecordTypeOfCodePinLaw", "expected", "(B)Lcom/example/logward/logward/log/RecordType;"⟩ : MethodName) method_2_code 1 (some (.object "com/example/logward/logward/log/RecordType")) :: ws) ({ frames := 0, cells := 0, slots := 0, locals := 0 } : Room)) (fun a U => a = #[(.int p0)] ∧ Z.Warmed39 U.vm ∧ U.heap = h0) (fun _ _ _ _ _ => True) (fun _ U o U' => ∃ v L, o = .returned v ∧ Q_rmX Z p0 r1 r2 r3 r4 r5 r6 r7 rv h0 n0 v U'.heap L ∧ FrameEnd U o U' L ({ frames := 0, cells := 0, slots := 0, locals := 0 } : Room).cells ({ frames := 0, cells := 0, slots := 0, locals := 0 } : Room).slots) := by
  refine MetFree.of_bodySF (plainFor_of_name pn_com_example_logward_logward_log_RecordTypeOfCodePinLaw) hisR ?_
  intro p e s m args below meth c s₁ Bd hml0 hP hK
  obtain ⟨rfl, hZ, hh⟩ := hP
  have hx := Bd.exec
  have hby := Bd.bytes
  have hml : c.maxLocals = 1 := hml0
  have hown : s.vm.findClass "com/example/logward/logward/log/RecordTypeOfCodePinLaw" = some m.cls := findClass_of_methodNamed Bd.named
  have hnm := (name_of_methodNamed Bd.named Bd.method).1
  have hlk := Bd.notSynchronized
  have X0 : Stand p l e ({ frames := 0, cells := 0, slots := 0, locals := 0 } : Room) s m #[(.int p0)] below meth c s₁ [] 0 0 := Stand.of_body Bd
  have e0 : s₁.heap = h0 := by rw [← hh, Bd.state]; rfl
  have N0 := Fr.nil n0
  show own_G p.tables e below s (Q_rmX Z p0 r1 r2 r3 r4 r5 r6 r7 rv h0 n0) ({ frames := 0, cells := 0, slots := 0, locals := 0 } : Room).cells ({ frames := 0, cells := 0, slots := 0, locals := 0 } : Room).slots _
  refine own_thr (a := s₁.setTop (mkF m 0 #[.val (.int p0)] [])) (fun t kt => castTop (ef_rmX m p0) kt) ?_
  refine own_thr (a := s₁.setTop (mkF m 2 #[.val (.int p0)] [(.int (1 : Int32)), (.int p0)])) (fun t kt => ?_) ?_
  · show Steps p.tables e below (s₁.setTop (mkF m 0 #[.val (.int p0)] [])) _
    refine XS.iloadN X0.here hx rfl (hb hby d3_0) rfl ?_
    show Steps p.tables e below (s₁.setTop (mkF m 1 #[.val (.int p0)] [(.int p0)])) _
    refine XS.iconst X0.here hx rfl (hb hby d3_1) ?_
    exact kt
  by_cases hc1 : p0 = (1 : Int32)
  · refine own_thr (a := s₁.setTop (mkF m 5 #[.val (.int p0)] [])) (fun t kt => ?_) ?_
    · show Steps p.tables e below (s₁.setTop (mkF m 2 #[.val (.int p0)] [(.int (1 : Int32)), (.int p0)])) _
      refine XS.icmpNo X0.here hx rfl (hb hby d3_2) rfl (teq hc1).2 ?_
      exact kt
    obtain ⟨T2, X2, e2, st2⟩ := getS2 X0 hx hZ hown (host := "") (Or.inl (hw _ (List.mem_of_getElem? (i := 40) rfl))) Via.refl e0 S_r1 (g := (mkF m 5 #[.val (.int p0)] [])) rfl (hb hby d3_5)
    refine own_thr (a := T2.setTop (mkF m 8 #[.val (.int p0)] [(.ref r1)])) (fun t kt => st2 t kt) ?_
    exact own_end X2 hlk (v := some (.ref r1)) (fun h => by rw [Bd.returns] at h; cases h) (fun fs hr => retA X2 hx Bd.returns rfl rfl (hb hby d3_8) hr) (by rw [e2]; exact ⟨by rw [own_rt, if_pos hc1] at hrv; rw [hrv], N0, rfl⟩) (by decide : 0 ≤ _) (by decide : 0 ≤ _)
  · refine own_thr (a := s₁.setTop (mkF m 11 #[.val (.int p0)] [(.int (2 : Int32)), (.int p0)])) (fun t kt => ?_) ?_
    · show Steps p.tables e below (s₁.setTop (mkF m 2 #[.val (.int p0)] [(.int (1 : Int32)), (.int p0)])) _
      refine XS.icmpYes X0.here hx rfl (pc0 := 2) (pc' := 9) rfl (hb hby d3_2) rfl (feq hc1).2 (by decide) (by decide) ?_
      show Steps p.tables e below (s₁.setTop (mkF m 9 #[.val (.int p0)] [])) _
      refine XS.iloadN X0.here hx rfl (hb hby d3_9) rfl ?_
      show Steps p.tables e below (s₁.setTop (mkF m 10 #[.val (.int p0)] [(.int p0)])) _
      refine XS.iconst X0.here hx rfl (hb hby d3_10) ?_
      exact kt
    by_cases hc3 : p0 = (2 : Int32)
    · refine own_thr (a := s₁.setTop (mkF m 14 #[.val (.int p0)] [])) (fun t kt => ?_) ?_
      · show Steps p.tables e below (s₁.setTop (mkF m 11 #[.val (.int p0)] [(.int (2 : Int32)), (.int p0)])) _
        refine XS.icmpNo X0.here hx rfl (hb hby d3_11) rfl (teq hc3).2 ?_
        exact kt
      obtain ⟨T4, X4, e4, st4⟩ := getS2 X0 hx hZ hown (host := "") (Or.inl (hw _ (List.mem_of_getElem? (i := 39) rfl))) Via.refl e0 S_r2 (g := (mkF m 14 #[.val (.int p0)] [])) rfl (hb hby d3_14)
      refine own_thr (a := T4.setTop (mkF m 17 #[.val (.int p0)] [(.ref r2)])) (fun t kt => st4 t kt) ?_
      exact own_end X4 hlk (v := some (.ref r2)) (fun h => by rw [Bd.returns] at h; cases h) (fun fs hr => retA X4 hx Bd.returns rfl rfl (hb hby d3_17) hr) (by rw [e4]; exact ⟨by rw [own_rt, if_neg hc1, if_pos hc3] at hrv; rw [hrv], N0, rfl⟩) (by decide : 0 ≤ _) (by decide : 0 ≤ _)
    · refine own_thr (a := s₁.setTop (mkF m 20 #[.val (.int p0)] [(.int (3 : Int32)), (.int p0)])) (fun t kt => ?_) ?_
      · show Steps p.tables e below (s₁.setTop (mkF m 11 #[.val (.int p0)] [(.int (2 : Int32)), (.int p0)])) _
        refine XS.icmpYes X0.here hx rfl (pc0 := 11) (pc' := 18) rfl (hb hby d3_11) rfl (feq hc3).2 (by decide) (by decide) ?_
        show Steps p.tables e below (s₁.setTop (mkF m 18 #[.val (.int p0)] [])) _
        refine XS.iloadN X0.here hx rfl (hb hby d3_18) rfl ?_
        show Steps p.tables e below (s₁.setTop (mkF m 19 #[.val (.int p0)] [(.int p0)])) _
        refine XS.iconst X0.here hx rfl (hb hby d3_19) ?_
        exact kt
      by_cases hc5 : p0 = (3 : Int32)
      · refine own_thr (a := s₁.setTop (mkF m 23 #[.val (.int p0)] [])) (fun t kt => ?_) ?_
        · show Steps p.tables e below (s₁.setTop (mkF m 20 #[.val (.int p0)] [(.int (3 : Int32)), (.int p0)])) _
          refine XS.icmpNo X0.here hx rfl (hb hby d3_20) rfl (teq hc5).2 ?_
          exact kt
        obtain ⟨T6, X6, e6, st6⟩ := getS2 X0 hx hZ hown (host := "") (Or.inl (hw _ (List.mem_of_getElem? (i := 32) rfl))) Via.refl e0 S_r3 (g := (mkF m 23 #[.val (.int p0)] [])) rfl (hb hby d3_23)
        refine own_thr (a := T6.setTop (mkF m 26 #[.val (.int p0)] [(.ref r3)])) (fun t kt => st6 t kt) ?_
        exact own_end X6 hlk (v := some (.ref r3)) (fun h => by rw [Bd.returns] at h; cases h) (fun fs hr => retA X6 hx Bd.returns rfl rfl (hb hby d3_26) hr) (by rw [e6]; exact ⟨by rw [own_rt, if_neg hc1, if_neg hc3, if_pos hc5] at hrv; rw [hrv], N0, rfl⟩) (by decide : 0 ≤ _) (by decide : 0 ≤ _)
      · refine own_thr (a := s₁.setTop (mkF m 29 #[.val (.int p0)] [(.int (4 : Int32)), (.int p0)])) (fun t kt => ?_) ?_
        · show Steps p.tables e below (s₁.setTop (mkF m 20 #[.val (.int p0)] [(.int (3 : Int32)), (.int p0)])) _
          refine XS.icmpYes X0.here hx rfl (pc0 := 20) (pc' := 27) rfl (hb hby d3_20) rfl (feq hc5).2 (by decide) (by decide) ?_
          show Steps p.tables e below (s₁.setTop (mkF m 27 #[.val (.int p0)] [])) _
          refine XS.iloadN X0.here hx rfl (hb hby d3_27) rfl ?_
          show Steps p.tables e below (s₁.setTop (mkF m 28 #[.val (.int p0)] [(.int p0)])) _
          refine XS.iconst X0.here hx rfl (hb hby d3_28) ?_
          exact kt
        by_cases hc7 : p0 = (4 : Int32)
        · refine own_thr (a := s₁.setTop (mkF m 32 #[.val (.int p0)] [])) (fun t kt => ?_) ?_
          · show Steps p.tables e below (s₁.setTop (mkF m 29 #[.val (.int p0)] [(.int (4 : Int32)), (.int p0)])) _
            refine XS.icmpNo X0.here hx rfl (hb hby d3_29) rfl (teq hc7).2 ?_
            exact kt
          obtain ⟨T8, X8, e8, st8⟩ := getS2 X0 hx hZ hown (host := "") (Or.inl (hw _ (List.mem_of_getElem? (i := 43) rfl))) Via.refl e0 S_r4 (g := (mkF m 32 #[.val (.int p0)] [])) rfl (hb hby d3_32)
          refine own_thr (a := T8.setTop (mkF m 35 #[.val (.int p0)] [(.ref r4)])) (fun t kt => st8 t kt) ?_
          exact own_end X8 hlk (v := some (.ref r4)) (fun h => by rw [Bd.returns] at h; cases h) (fun fs hr => retA X8 hx Bd.returns rfl rfl (hb hby d3_35) hr) (by rw [e8]; exact ⟨by rw [own_rt, if_neg hc1, if_neg hc3, if_neg hc5, if_pos hc7] at hrv; rw [hrv], N0, rfl⟩) (by decide : 0 ≤ _) (by decide : 0 ≤ _)
        · refine own_thr (a := s₁.setTop (mkF m 38 #[.val (.int p0)] [(.int (5 : Int32)), (.int p0)])) (fun t kt => ?_) ?_
          · show Steps p.tables e below (s₁.setTop (mkF m 29 #[.val (.int p0)] [(.int (4 : Int32)), (.int p0)])) _
            refine XS.icmpYes X0.here hx rfl (pc0 := 29) (pc' := 36) rfl (hb hby d3_29) rfl (feq hc7).2 (by decide) (by decide) ?_
            show Steps p.tables e below (s₁.setTop (mkF m 36 #[.val (.int p0)] [])) _
            refine XS.iloadN X0.here hx rfl (hb hby d3_36) rfl ?_
            show Steps p.tables e below (s₁.setTop (mkF m 37 #[.val (.int p0)] [(.int p0)])) _
            refine XS.iconst X0.here hx rfl (hb hby d3_37) ?_
            exact kt
          by_cases hc9 : p0 = (5 : Int32)
          · refine own_thr (a := s₁.setTop (mkF m 41 #[.val (.int p0)] [])) (fun t kt => ?_) ?_
            · show Steps p.tables e below (s₁.setTop (mkF m 38 #[.val (.int p0)] [(.int (5 : Int32)), (.int p0)])) _
              refine XS.icmpNo X0.here hx rfl (hb hby d3_38) rfl (teq hc9).2 ?_
              exact kt
            obtain ⟨T10, X10, e10, st10⟩ := getS2 X0 hx hZ hown (host := "") (Or.inl (hw _ (List.mem_of_getElem? (i := 42) rfl))) Via.refl e0 S_r5 (g := (mkF m 41 #[.val (.int p0)] [])) rfl (hb hby d3_41)
            refine own_thr (a := T10.setTop (mkF m 44 #[.val (.int p0)] [(.ref r5)])) (fun t kt => st10 t kt) ?_
            exact own_end X10 hlk (v := some (.ref r5)) (fun h => by rw [Bd.returns] at h; cases h) (fun fs hr => retA X10 hx Bd.returns rfl rfl (hb hby d3_44) hr) (by rw [e10]; exact ⟨by rw [own_rt, if_neg hc1, if_neg hc3, if_neg hc5, if_neg hc7, if_pos hc9] at hrv; rw [hrv], N0, rfl⟩) (by decide : 0 ≤ _) (by decide : 0 ≤ _)
          · refine own_thr (a := s₁.setTop (mkF m 48 #[.val (.int p0)] [(.int (6 : Int32)), (.int p0)])) (fun t kt => ?_) ?_
            · show Steps p.tables e below (s₁.setTop (mkF m 38 #[.val (.int p0)] [(.int (5 : Int32)), (.int p0)])) _
              refine XS.icmpYes X0.here hx rfl (pc0 := 38) (pc' := 45) rfl (hb hby d3_38) rfl (feq hc9).2 (by decide) (by decide) ?_
              show Steps p.tables e below (s₁.setTop (mkF m 45 #[.val (.int p0)] [])) _
              refine XS.iloadN X0.here hx rfl (hb hby d3_45) rfl ?_
              show Steps p.tables e below (s₁.setTop (mkF m 46 #[.val (.int p0)] [(.int p0)])) _
              refine XS.bipush X0.here hx rfl (hb hby d3_46) ?_
              exact kt
            by_cases hc11 : p0 = (6 : Int32)
            · refine own_thr (a := s₁.setTop (mkF m 51 #[.val (.int p0)] [])) (fun t kt => ?_) ?_
              · show Steps p.tables e below (s₁.setTop (mkF m 48 #[.val (.int p0)] [(.int (6 : Int32)), (.int p0)])) _
                refine XS.icmpNo X0.here hx rfl (hb hby d3_48) rfl (teq hc11).2 ?_
                exact kt
              obtain ⟨T12, X12, e12, st12⟩ := getS2 X0 hx hZ hown (host := "") (Or.inl (hw _ (List.mem_of_getElem? (i := 41) rfl))) Via.refl e0 S_r6 (g := (mkF m 51 #[.val (.int p0)] [])) rfl (hb hby d3_51)
              refine own_thr (a := T12.setTop (mkF m 54 #[.val (.int p0)] [(.ref r6)])) (fun t kt => st12 t kt) ?_
              exact own_end X12 hlk (v := some (.ref r6)) (fun h => by rw [Bd.returns] at h; cases h) (fun fs hr => retA X12 hx Bd.returns rfl rfl (hb hby d3_54) hr) (by rw [e12]; exact ⟨by rw [own_rt, if_neg hc1, if_neg hc3, if_neg hc5, if_neg hc7, if_neg hc9, if_pos hc11] at hrv; rw [hrv], N0, rfl⟩) (by decide : 0 ≤ _) (by decide : 0 ≤ _)
            · refine own_thr (a := s₁.setTop (mkF m 58 #[.val (.int p0)] [(.int (7 : Int32)), (.int p0)])) (fun t kt => ?_) ?_
              · show Steps p.tables e below (s₁.setTop (mkF m 48 #[.val (.int p0)] [(.int (6 : Int32)), (.int p0)])) _
                refine XS.icmpYes X0.here hx rfl (pc0 := 48) (pc' := 55) rfl (hb hby d3_48) rfl (feq hc11).2 (by decide) (by decide) ?_
                show Steps p.tables e below (s₁.setTop (mkF m 55 #[.val (.int p0)] [])) _
                refine XS.iloadN X0.here hx rfl (hb hby d3_55) rfl ?_
                show Steps p.tables e below (s₁.setTop (mkF m 56 #[.val (.int p0)] [(.int p0)])) _
                refine XS.bipush X0.here hx rfl (hb hby d3_56) ?_
                exact kt
              by_cases hc13 : p0 = (7 : Int32)
              · refine own_thr (a := s₁.setTop (mkF m 61 #[.val (.int p0)] [])) (fun t kt => ?_) ?_
                · show Steps p.tables e below (s₁.setTop (mkF m 58 #[.val (.int p0)] [(.int (7 : Int32)), (.int p0)])) _
                  refine XS.icmpNo X0.here hx rfl (hb hby d3_58) rfl (teq hc13).2 ?_
                  exact kt
                obtain ⟨T14, X14, e14, st14⟩ := getS2 X0 hx hZ hown (host := "") (Or.inl (hw _ (List.mem_of_getElem? (i := 38) rfl))) Via.refl e0 S_r7 (g := (mkF m 61 #[.val (.int p0)] [])) rfl (hb hby d3_61)
                refine own_thr (a := T14.setTop (mkF m 64 #[.val (.int p0)] [(.ref r7)])) (fun t kt => st14 t kt) ?_
                exact own_end X14 hlk (v := some (.ref r7)) (fun h => by rw [Bd.returns] at h; cases h) (fun fs hr => retA X14 hx Bd.returns rfl rfl (hb hby d3_64) hr) (by rw [e14]; exact ⟨by rw [own_rt, if_neg hc1, if_neg hc3, if_neg hc5, if_neg hc7, if_neg hc9, if_neg hc11, if_pos hc13] at hrv; rw [hrv], N0, rfl⟩) (by decide : 0 ≤ _) (by decide : 0 ≤ _)
              · refine own_thr (a := s₁.setTop (mkF m 66 #[.val (.int p0)] [.null])) (fun t kt => ?_) ?_
                · show Steps p.tables e below (s₁.setTop (mkF m 58 #[.val (.int p0)] [(.int (7 : Int32)), (.int p0)])) _
                  refine XS.icmpYes X0.here hx rfl (pc0 := 58) (pc' := 65) rfl (hb hby d3_58) rfl (feq hc13).2 (by decide) (by decide) ?_
                  show Steps p.tables e below (s₁.setTop (mkF m 65 #[.val (.int p0)] [])) _
                  refine XS.aconstNull X0.here hx rfl (hb hby d3_65) ?_
                  exact kt
                exact own_end X0 hlk (v := some .null) (fun h => by rw [Bd.returns] at h; cases h) (fun fs hr => retA X0 hx Bd.returns rfl rfl (hb hby d3_66) hr) (by rw [e0]; exact ⟨by rw [own_rt, if_neg hc1, if_neg hc3, if_neg hc5, if_neg hc7, if_neg hc9, if_neg hc11, if_neg hc13] at hrv; rw [hrv], N0, rfl⟩) (by decide : 0 ≤ _) (by decide : 0 ≤ _)
theorem d4_0 : decode prog_35_method_6_code 0 = .ok (.aload_n 0, 1) := by decide +kernel
theorem d4_1 : decode prog_35_method_6_code 1 = .ok (.getfield 44, 3) := by decide +kernel
theorem d4_4 : decode prog_35_method_6_code 4 = .ok (.ireturn, 1) := by decide +kernel
theorem ef_rmC (m : MethodId) (o0 : Addr)  : entryFrame m #[(.ref o0)] 1 = mkF m 0 #[.val (.ref o0)] [] := by first |  (simp [entryFrame, mkF, argsToLocals, Value.category]; done) | rfl
def Q_rmC (Z : State) (o0 : Addr) (u : Int32) (h0 : Heap) (n0 : Nat) (v : Option Value) (h : Heap) (L : List Loc) : Prop := v = some (.int (nar .byte u)) ∧ Fr n0 L ∧ h = h0
set_option maxRecDepth 65536 in
set_option maxHeartbeats 40000000 in
theorem rmC (l : Launch) (Z : State) (a0 : Array Value) (hw : ∀ d ∈ tables_1, d.before a0 Z = true) (ws : List Jvm.Cond) (o0 : Addr) (u : Int32) (h0 : Heap) (n0 : Nat) (Z0 : n0 ≤ h0.size) (F_code_o0 : Fld Z h0 o0 "com/example/logward/logward/log/RecordType" "code" "B" (.int u)) :
    MetFree l (⟨"com/example/logward/logward/log/RecordType", "code", "()B"⟩ : MethodName) (head1 (Jvm.Cond.code (⟨"com/example/logward/logward/log/RecordType", "code", "()B"⟩ : MethodName) prog_35_method_6_code 1 (some .byte) :: ws) ({ frames := 0, cells := 0, slots := 0, locals := 0 } : Room)) (fun a U => a = #[(.ref o0)] ∧ Z.Warmed39 U.vm ∧ U.heap = h0) (fun _ _ _ _ _ => True) (fun _ U o U' => ∃ v L, o = .returned v ∧ Q_rmC Z o0 u h0 n0 v U'.heap L ∧ FrameEnd U o U' L ({ frames := 0, cells := 0, slots := 0, locals := 0 } : Room).cells ({ frames := 0, cells := 0, slots := 0, locals := 0 } : Room).slots) := by
  refine MetFree.of_bodySF (plainFor_of_name pn_com_example_logward_logward_log_RecordType) hisR ?_
  intro p e s m args below meth c s₁ Bd hml0 hP hK
  obtain ⟨rfl, hZ, hh⟩ := hP
  have hx := Bd.exec
  have hby := Bd.bytes
  have hml : c.maxLocals = 1 := hml0
  have hown : s.vm.findClass "com/example/logward/logward/log/RecordType" = some m.cls := findClass_of_methodNamed Bd.named
  have hnm := (name_of_methodNamed Bd.named Bd.method).1
  have hlk := Bd.notSynchronized
  have X0 : Stand p l e ({ frames := 0, cells := 0, slots := 0, locals := 0 } : Room) s m #[(.ref o0)] below meth c s₁ [] 0 0 := Stand.of_body Bd
  have e0 : s₁.heap = h0 := by rw [← hh, Bd.state]; rfl
  have N0 := Fr.nil n0
  show own_G p.tables e below s (Q_rmC Z o0 u h0 n0) ({ frames := 0, cells := 0, slots := 0, locals := 0 } : Room).cells ({ frames := 0, cells := 0, slots := 0, locals := 0 } : Room).slots _
  refine own_thr (a := s₁.setTop (mkF m 0 #[.val (.ref o0)] [])) (fun t kt => castTop (ef_rmC m o0) kt) ?_
  refine own_thr (a := s₁.setTop (mkF m 1 #[.val (.ref o0)] [(.ref o0)])) (fun t kt => ?_) ?_
  · show Steps p.tables e below (s₁.setTop (mkF m 0 #[.val (.ref o0)] [])) _
    refine XS.aloadN X0.here hx rfl (hb hby d4_0) rfl rfl ?_
    exact kt
  obtain ⟨T1, X1, e1, st1⟩ := getF X0 hx hZ hown (host := "") (Or.inl (hw _ (List.mem_of_getElem? (i := 26) rfl))) Via.refl e0 F_code_o0 (g := (mkF m 1 #[.val (.ref o0)] [(.ref o0)])) rfl rfl (hb hby d4_1)
  refine own_thr (a := T1.setTop (mkF m 4 #[.val (.ref o0)] [(.int u)])) (fun t kt => st1 t kt) ?_
  exact own_end X1 hlk (v := some (.int (nar .byte u))) (fun h => by rw [Bd.returns] at h; cases h) (fun fs hr => retN X1 hx (t := .byte) Bd.returns (by simp) (hb hby d4_4) hr) (by rw [e1]; exact ⟨rfl, N0, rfl⟩) (by decide : 0 ≤ _) (by decide : 0 ≤ _)
theorem own_split (b : Int32) (r1 : Addr) (r2 : Addr) (r3 : Addr) (r4 : Addr) (r5 : Addr) (r6 : Addr) (r7 : Addr) : (b = (1 : Int32) ∧ own_rt b r1 r2 r3 r4 r5 r6 r7 = .ref r1) ∨ (b = (2 : Int32) ∧ own_rt b r1 r2 r3 r4 r5 r6 r7 = .ref r2) ∨ (b = (3 : Int32) ∧ own_rt b r1 r2 r3 r4 r5 r6 r7 = .ref r3) ∨ (b = (4 : Int32) ∧ own_rt b r1 r2 r3 r4 r5 r6 r7 = .ref r4) ∨ (b = (5 : Int32) ∧ own_rt b r1 r2 r3 r4 r5 r6 r7 = .ref r5) ∨ (b = (6 : Int32) ∧ own_rt b r1 r2 r3 r4 r5 r6 r7 = .ref r6) ∨ (b = (7 : Int32) ∧ own_rt b r1 r2 r3 r4 r5 r6 r7 = .ref r7) ∨ own_rt b r1 r2 r3 r4 r5 r6 r7 = .null := by
  by_cases h1 : b = (1 : Int32)
  · subst h1; exact Or.inl ⟨rfl, by simp [own_rt]⟩
  by_cases h2 : b = (2 : Int32)
  · subst h2; exact Or.inr (Or.inl ⟨rfl, by simp [own_rt]⟩)
  by_cases h3 : b = (3 : Int32)
  · subst h3; exact Or.inr (Or.inr (Or.inl ⟨rfl, by simp [own_rt]⟩))
  by_cases h4 : b = (4 : Int32)
  · subst h4; exact Or.inr (Or.inr (Or.inr (Or.inl ⟨rfl, by simp [own_rt]⟩)))
  by_cases h5 : b = (5 : Int32)
  · subst h5; exact Or.inr (Or.inr (Or.inr (Or.inr (Or.inl ⟨rfl, by simp [own_rt]⟩))))
  by_cases h6 : b = (6 : Int32)
  · subst h6; exact Or.inr (Or.inr (Or.inr (Or.inr (Or.inr (Or.inl ⟨rfl, by simp [own_rt]⟩)))))
  by_cases h7 : b = (7 : Int32)
  · subst h7; exact Or.inr (Or.inr (Or.inr (Or.inr (Or.inr (Or.inr (Or.inl ⟨rfl, by simp [own_rt]⟩))))))
  exact Or.inr (Or.inr (Or.inr (Or.inr (Or.inr (Or.inr (Or.inr (by simp [own_rt, h1, h2, h3, h4, h5, h6, h7])))))))
theorem pd__28B_29Lcom_2fexample_2flogward_2flogward_2flog_2fRecordType_3b : parseMethodDescriptor "(B)Lcom/example/logward/logward/log/RecordType;" = some ⟨[.byte], some (.object "com/example/logward/logward/log/RecordType")⟩ := by decide +kernel
theorem pd__28_29B : parseMethodDescriptor "()B" = some ⟨[], some .byte⟩ := by decide +kernel
theorem ef_rm0 (m : MethodId) (p0 : Int32)  : entryFrame m #[(.int p0)] maxLocals = mkF m 0 #[.val (.int p0), .unset, .unset, .unset] [] := by first |  (simp [entryFrame, mkF, argsToLocals, Value.category, maxLocals]; done) | rfl
def Q0 (Z : State) (p0 : Int32) (va : Addr) (kv : ClassId) (r1 : Addr) (r2 : Addr) (r3 : Addr) (r4 : Addr) (r5 : Addr) (r6 : Addr) (r7 : Addr) (h0 : Heap) (n0 : Nat) (v : Option Value) (h : Heap) (L : List Loc) : Prop := v = some (.int (1 : Int32)) ∧ Fr n0 L
set_option maxRecDepth 65536 in
set_option maxHeartbeats 40000000 in
theorem rm0 (l : Launch) (Z : State) (a0 : Array Value) (hw : ∀ d ∈ tables_1, d.before a0 Z = true) (ws : List Jvm.Cond) (p0 : Int32) (va : Addr) (kv : ClassId) (r1 : Addr) (r2 : Addr) (r3 : Addr) (r4 : Addr) (r5 : Addr) (r6 : Addr) (r7 : Addr) (h0 : Heap) (n0 : Nat) (Z0 : n0 ≤ h0.size) (S_V : Sta Z h0 "com/example/logward/logward/log/RecordType" "$VALUES" "[Lcom/example/logward/logward/log/RecordType;" (.ref va)) (V_va : Arv Z Z.heap va kv (.object "com/example/logward/logward/log/RecordType") (7 : Int32) [(.ref r1), (.ref r2), (.ref r3), (.ref r4), (.ref r5), (.ref r6), (.ref r7)] .null) (E_va : Exa Z h0 va "[Lcom/example/logward/logward/log/RecordType;") (hfit : Fit Z) (hO : Old Z n0 h0) (F_r1 : Fld Z h0 r1 "com/example/logward/logward/log/RecordType" "code" "B" (.int (1 : Int32))) (F_r2 : Fld Z h0 r2 "com/example/logward/logward/log/RecordType" "code" "B" (.int (2 : Int32))) (F_r3 : Fld Z h0 r3 "com/example/logward/logward/log/RecordType" "code" "B" (.int (3 : Int32))) (F_r4 : Fld Z h0 r4 "com/example/logward/logward/log/RecordType" "code" "B" (.int (4 : Int32))) (F_r5 : Fld Z h0 r5 "com/example/logward/logward/log/RecordType" "code" "B" (.int (5 : Int32))) (F_r6 : Fld Z h0 r6 "com/example/logward/logward/log/RecordType" "code" "B" (.int (6 : Int32))) (F_r7 : Fld Z h0 r7 "com/example/logward/logward/log/RecordType" "code" "B" (.int (7 : Int32))) (S_r1 : Sta Z Z.heap "com/example/logward/logward/log/RecordType" "BEGIN" "Lcom/example/logward/logward/log/RecordType;" (.ref r1)) (S_r2 : Sta Z Z.heap "com/example/logward/logward/log/RecordType" "UPDATE" "Lcom/example/logward/logward/log/RecordType;" (.ref r2)) (S_r3 : Sta Z Z.heap "com/example/logward/logward/log/RecordType" "COMMIT" "Lcom/example/logward/logward/log/RecordType;" (.ref r3)) (S_r4 : Sta Z Z.heap "com/example/logward/logward/log/RecordType" "ABORT" "Lcom/example/logward/logward/log/RecordType;" (.ref r4)) (S_r5 : Sta Z Z.heap "com/example/logward/logward/log/RecordType" "COMPENSATION" "Lcom/example/logward/logward/log/RecordType;" (.ref r5)) (S_r6 : Sta Z Z.heap "com/example/logward/logward/log/RecordType" "CLOSE" "Lcom/example/logward/logward/log/RecordType;" (.ref r6)) (S_r7 : Sta Z Z.heap "com/example/logward/logward/log/RecordType" "CHECKPOINT" "Lcom/example/logward/logward/log/RecordType;" (.ref r7)) (E_r1 : Exa Z h0 r1 "com/example/logward/logward/log/RecordType") (E_r2 : Exa Z h0 r2 "com/example/logward/logward/log/RecordType") (E_r3 : Exa Z h0 r3 "com/example/logward/logward/log/RecordType") (E_r4 : Exa Z h0 r4 "com/example/logward/logward/log/RecordType") (E_r5 : Exa Z h0 r5 "com/example/logward/logward/log/RecordType") (E_r6 : Exa Z h0 r6 "com/example/logward/logward/log/RecordType") (E_r7 : Exa Z h0 r7 "com/example/logward/logward/log/RecordType") :
    MetFree l x (head1 (Jvm.Cond.code x code maxLocals ret :: ws) room_1) (fun a U => a = #[(.int p0)] ∧ Z.Warmed39 U.vm ∧ U.heap = h0) (fun _ _ _ _ _ => True) (fun _ U o U' => ∃ v L, o = .returned v ∧ Q0 Z p0 va kv r1 r2 r3 r4 r5 r6 r7 h0 n0 v U'.heap L ∧ FrameEnd U o U' L room_1.cells room_1.slots) := by
  refine MetFree.of_bodySF (plainFor_of_name pn_com_example_logward_logward_log_RecordTypeOfCodePinLaw) hisR ?_
  intro p e s m args below meth c s₁ Bd hml0 hP hK
  obtain ⟨rfl, hZ, hh⟩ := hP
  have hx := Bd.exec
  have hby := Bd.bytes
  have hml : c.maxLocals = 4 := hml0
  have hown : s.vm.findClass "com/example/logward/logward/log/RecordTypeOfCodePinLaw" = some m.cls := findClass_of_methodNamed Bd.named
  have hnm := (name_of_methodNamed Bd.named Bd.method).1
  have hlk := Bd.notSynchronized
  have X0 : Stand p l e room_1 s m #[(.int p0)] below meth c s₁ [] 0 0 := Stand.of_body Bd
  have e0 : s₁.heap = h0 := by rw [← hh, Bd.state]; rfl
  have N0 := Fr.nil n0
  show own_G p.tables e below s (Q0 Z p0 va kv r1 r2 r3 r4 r5 r6 r7 h0 n0) room_1.cells room_1.slots _
  refine own_thr (a := s₁.setTop (mkF m 0 #[.val (.int p0), .unset, .unset, .unset] [])) (fun t kt => castTop (ef_rm0 m p0) kt) ?_
  refine own_thr (a := s₁.setTop (mkF m 4 #[.val (.int p0), .val (.int (p0.toInt8.toInt32)), .unset, .unset] [(.int (p0.toInt8.toInt32))])) (fun t kt => ?_) ?_
  · show Steps p.tables e below (s₁.setTop (mkF m 0 #[.val (.int p0), .unset, .unset, .unset] [])) _
    refine XS.iloadN X0.here hx rfl (hb hby at_0) rfl ?_
    show Steps p.tables e below (s₁.setTop (mkF m 1 #[.val (.int p0), .unset, .unset, .unset] [(.int p0)])) _
    refine XS.i2b X0.here hx rfl (hb hby at_1) rfl ?_
    show Steps p.tables e below (s₁.setTop (mkF m 2 #[.val (.int p0), .unset, .unset, .unset] [(.int (p0.toInt8.toInt32))])) _
    refine XS.istoreN X0.here hx rfl (hb hby at_2) rfl (l' := #[.val (.int p0), .val (.int (p0.toInt8.toInt32)), .unset, .unset]) rfl ?_
    show Steps p.tables e below (s₁.setTop (mkF m 3 #[.val (.int p0), .val (.int (p0.toInt8.toInt32)), .unset, .unset] [])) _
    refine XS.iloadN X0.here hx rfl (hb hby at_3) rfl ?_
    exact kt
  rcases own_split (p0.toInt8.toInt32) r1 r2 r3 r4 r5 r6 r7 with ⟨hbb, hrv⟩ | ⟨hbb, hrv⟩ | ⟨hbb, hrv⟩ | ⟨hbb, hrv⟩ | ⟨hbb, hrv⟩ | ⟨hbb, hrv⟩ | ⟨hbb, hrv⟩ | hrv
  · obtain ⟨_, _, ⟨T1, L1, k1, n1⟩, -, X1, ⟨Lc1, hQ1, l1, y1, z1⟩, st1⟩ := Jvm.LawKit.callS X0 hx (y := (⟨"com/example/logward/logward/log/RecordType", "ofCode", "(B)Lcom/example/logward/logward/log/RecordType;"⟩ : MethodName)) hown (mvT hZ (hw _ (List.mem_of_getElem? (i := 0) rfl))) (mvT hZ (hw _ (List.mem_of_getElem? (i := 1) rfl))) (mvT hZ (hw _ (List.mem_of_getElem? (i := 2) rfl))) (mvT hZ (hw _ (List.mem_of_getElem? (i := 3) rfl))) (by decide) (backOf (W := 0) (rmO l Z a0 hw [] (p0.toInt8.toInt32) va kv r1 r2 r3 r4 r5 r6 r7 (.ref r1) h0 n0 Z0 S_V V_va E_va hfit hO F_r1 F_r2 F_r3 F_r4 F_r5 F_r6 F_r7 hrv) hZ (hw _ (List.mem_of_getElem? (i := 3) rfl)) (hw _ (List.mem_of_getElem? (i := 2) rfl)) (by decide) (by decide)) (g := (mkF m 4 #[.val (.int p0), .val (.int (p0.toInt8.toInt32)), .unset, .unset] [(.int (p0.toInt8.toInt32))])) rfl (by rw [hml]; rfl) (argsL := [(.int (p0.toInt8.toInt32))]) (rest := []) (lenOf pd__28B_29Lcom_2fexample_2flogward_2flogward_2flog_2fRecordType_3b rfl) rfl (by show 2 * 0 + _ ≤ _; exact Nat.le_of_eq rfl) (hb hby at_4) (fun _ _ => ⟨rfl, e0, (by decide : 0 + 1 ≤ _), (by decide : 0 + 7 ≤ _)⟩)
    dsimp only [Pt.U, Pt.locs, Pt.cells, Pt.slots] at X1 l1 y1 z1 st1 hQ1
    obtain ⟨rfl, N1q, K1⟩ := hQ1
    have Z2 : n0 ≤ T1.heap.size := Nat.le_trans Z0 K1.1
    have Z2h : h0.size ≤ T1.heap.size := Nat.le_trans (Nat.le_refl h0.size) K1.1
    obtain ⟨lc1, X1, N1⟩ := own_pack X1 l1 y1 z1 N0 N1q (C := 1) (S' := 7) rfl rfl
    refine own_thr (a := T1.setTop (mkF m 7 #[.val (.int p0), .val (.int (p0.toInt8.toInt32)), .unset, .unset] [(.ref r1)])) (fun t kt => st1 t kt) ?_
    refine own_thr (a := T1.setTop (mkF m 9 #[.val (.int p0), .val (.int (p0.toInt8.toInt32)), .val (.ref r1), .unset] [(.int (p0.toInt8.toInt32))])) (fun t kt => ?_) ?_
    · show Steps p.tables e below (T1.setTop (mkF m 7 #[.val (.int p0), .val (.int (p0.toInt8.toInt32)), .unset, .unset] [(.ref r1)])) _
      refine XS.astoreN X1.here hx rfl (hb hby at_7) rfl rfl (l' := #[.val (.int p0), .val (.int (p0.toInt8.toInt32)), .val (.ref r1), .unset]) rfl ?_
      show Steps p.tables e below (T1.setTop (mkF m 8 #[.val (.int p0), .val (.int (p0.toInt8.toInt32)), .val (.ref r1), .unset] [])) _
      refine XS.iloadN X1.here hx rfl (hb hby at_8) rfl ?_
      exact kt
    obtain ⟨_, _, ⟨T3, L3, k3, n3⟩, -, X3, ⟨Lc3, hQ3, l3, y3, z3⟩, st3⟩ := Jvm.LawKit.callS X1 hx (y := (⟨"com/example/logward/logward/log/RecordTypeOfCodePinLaw", "expected", "(B)Lcom/example/logward/logward/log/RecordType;"⟩ : MethodName)) hown (mvT hZ (hw _ (List.mem_of_getElem? (i := 28) rfl))) (mvT hZ (hw _ (List.mem_of_getElem? (i := 29) rfl))) (mvT hZ (hw _ (List.mem_of_getElem? (i := 30) rfl))) (mvT hZ (hw _ (List.mem_of_getElem? (i := 31) rfl))) (by decide) (backOf (W := 0) (rmX l Z a0 hw [] (p0.toInt8.toInt32) r1 r2 r3 r4 r5 r6 r7 (.ref r1) T1.heap n0 Z2 (S_r1.ext (hO.keep K1 all0).2) (S_r2.ext (hO.keep K1 all0).2) (S_r3.ext (hO.keep K1 all0).2) (S_r4.ext (hO.keep K1 all0).2) (S_r5.ext (hO.keep K1 all0).2) (S_r6.ext (hO.keep K1 all0).2) (S_r7.ext (hO.keep K1 all0).2) hrv) hZ (hw _ (List.mem_of_getElem? (i := 31) rfl)) (hw _ (List.mem_of_getElem? (i := 30) rfl)) (by decide) (by decide)) (g := (mkF m 9 #[.val (.int p0), .val (.int (p0.toInt8.toInt32)), .val (.ref r1), .unset] [(.int (p0.toInt8.toInt32))])) rfl (by rw [hml]; rfl) (argsL := [(.int (p0.toInt8.toInt32))]) (rest := []) (lenOf pd__28B_29Lcom_2fexample_2flogward_2flogward_2flog_2fRecordType_3b rfl) rfl (by show 2 * 0 + _ ≤ _; exact Nat.le_of_eq rfl) (hb hby at_9) (fun _ _ => ⟨rfl, rfl, (by decide : 1 + 0 ≤ _), (by decide : 7 + 0 ≤ _)⟩)
    dsimp only [Pt.U, Pt.locs, Pt.cells, Pt.slots] at X3 l3 y3 z3 st3 hQ3
    obtain ⟨rfl, N3q, e3⟩ := hQ3
    obtain ⟨lc3, X3, N3⟩ := own_pack X3 l3 y3 z3 N1 N3q (C := 1) (S' := 7) rfl rfl
    refine own_thr (a := T3.setTop (mkF m 12 #[.val (.int p0), .val (.int (p0.toInt8.toInt32)), .val (.ref r1), .unset] [(.ref r1)])) (fun t kt => st3 t kt) ?_
    refine own_thr (a := T3.setTop (mkF m 15 #[.val (.int p0), .val (.int (p0.toInt8.toInt32)), .val (.ref r1), .val (.ref r1)] [(.ref r1), (.ref r1)])) (fun t kt => ?_) ?_
    · show Steps p.tables e below (T3.setTop (mkF m 12 #[.val (.int p0), .val (.int (p0.toInt8.toInt32)), .val (.ref r1), .unset] [(.ref r1)])) _
      refine XS.astoreN X3.here hx rfl (hb hby at_12) rfl rfl (l' := #[.val (.int p0), .val (.int (p0.toInt8.toInt32)), .val (.ref r1), .val (.ref r1)]) rfl ?_
      show Steps p.tables e below (T3.setTop (mkF m 13 #[.val (.int p0), .val (.int (p0.toInt8.toInt32)), .val (.ref r1), .val (.ref r1)] [])) _
      refine XS.aloadN X3.here hx rfl (hb hby at_13) rfl rfl ?_
      show Steps p.tables e below (T3.setTop (mkF m 14 #[.val (.int p0), .val (.int (p0.toInt8.toInt32)), .val (.ref r1), .val (.ref r1)] [(.ref r1)])) _
      refine XS.aloadN X3.here hx rfl (hb hby at_14) rfl rfl ?_
      exact kt
    refine own_thr (a := T3.setTop (mkF m 25 #[.val (.int p0), .val (.int (p0.toInt8.toInt32)), .val (.ref r1), .val (.ref r1)] [(.ref r1)])) (fun t kt => ?_) ?_
    · show Steps p.tables e below (T3.setTop (mkF m 15 #[.val (.int p0), .val (.int (p0.toInt8.toInt32)), .val (.ref r1), .val (.ref r1)] [(.ref r1), (.ref r1)])) _
      refine Jvm.RoadKit.acmp (g := (mkF m 15 #[.val (.int p0), .val (.int (p0.toInt8.toInt32)), .val (.ref r1), .val (.ref r1)] [(.ref r1), (.ref r1)])) X3 hx rfl rfl rfl (pc0 := 15) (pc' := 20) (same := true) rfl (hb hby at_15) rfl (decide_eq_true rfl) (by decide) (by decide) ?_
      show Steps p.tables e below (T3.setTop (mkF m 20 #[.val (.int p0), .val (.int (p0.toInt8.toInt32)), .val (.ref r1), .val (.ref r1)] [])) _
      refine XS.aloadN X3.here hx rfl (hb hby at_20) rfl rfl ?_
      show Steps p.tables e below (T3.setTop (mkF m 21 #[.val (.int p0), .val (.int (p0.toInt8.toInt32)), .val (.ref r1), .val (.ref r1)] [(.ref r1)])) _
      refine XS.ifnullNo X3.here hx rfl (hb hby at_21) rfl ?_
      show Steps p.tables e below (T3.setTop (mkF m 24 #[.val (.int p0), .val (.int (p0.toInt8.toInt32)), .val (.ref r1), .val (.ref r1)] [])) _
      refine XS.aloadN X3.here hx rfl (hb hby at_24) rfl rfl ?_
      exact kt
    obtain ⟨cq4, kq4, q4a, q4b, q4c⟩ := isOf hZ e3 (E_r1.keep K1)
    obtain ⟨_, _, ⟨T4, L4, k4, n4⟩, -, X4, ⟨Lc4, hQ4, l4, y4, z4⟩, st4⟩ := X3.virtualBack hx (y := (⟨"com/example/logward/logward/log/RecordType", "code", "()B"⟩ : MethodName)) (z := (⟨"com/example/logward/logward/log/RecordType", "code", "()B"⟩ : MethodName)) hown (mvT hZ (hw _ (List.mem_of_getElem? (i := 33) rfl))) (mvT hZ (hw _ (List.mem_of_getElem? (i := 34) rfl))) (notFace_of_selects (args := #[]) (mvT hZ (hw _ (List.mem_of_getElem? (i := 36) rfl)))) (mvT hZ (hw _ (List.mem_of_getElem? (i := 36) rfl))) (mvT hZ (hw _ (List.mem_of_getElem? (i := 35) rfl))) (by decide) (backOf (W := 0) (rmC l Z a0 hw [] r1 (1 : Int32) T1.heap n0 Z2 (F_r1.keep K1 nin0)) hZ (hw _ (List.mem_of_getElem? (i := 37) rfl)) (hw _ (List.mem_of_getElem? (i := 2) rfl)) (by decide) (by decide)) q4a q4c (g := (mkF m 25 #[.val (.int p0), .val (.int (p0.toInt8.toInt32)), .val (.ref r1), .val (.ref r1)] [(.ref r1)])) rfl (by rw [hml]; rfl) (Steps.refl _) (argsL := []) (rest := []) (lenOf pd__28_29B rfl) rfl (by show 2 * 0 + _ ≤ _; exact Nat.le_of_eq rfl) (hb hby at_25) (fun _ _ => ⟨rfl, e3, (by decide : 1 + 0 ≤ _), (by decide : 7 + 0 ≤ _)⟩)
    dsimp only [Pt.U, Pt.locs, Pt.cells, Pt.slots] at X4 l4 y4 z4 st4 hQ4
    obtain ⟨rfl, N4q, e4⟩ := hQ4
    obtain ⟨lc4, X4, N4⟩ := own_pack X4 l4 y4 z4 N3 N4q (C := 1) (S' := 7) rfl rfl
    refine own_thr (a := T4.setTop (mkF m 28 #[.val (.int p0), .val (.int (p0.toInt8.toInt32)), .val (.ref r1), .val (.ref r1)] [(.int (nar .byte (1 : Int32)))])) (fun t kt => st4.trans kt) ?_
    refine own_thr (a := T4.setTop (mkF m 37 #[.val (.int p0), .val (.int (p0.toInt8.toInt32)), .val (.ref r1), .val (.ref r1)] [(.int (1 : Int32))])) (fun t kt => ?_) ?_
    · show Steps p.tables e below (T4.setTop (mkF m 28 #[.val (.int p0), .val (.int (p0.toInt8.toInt32)), .val (.ref r1), .val (.ref r1)] [(.int (nar .byte (1 : Int32)))])) _
      refine XS.iloadN X4.here hx rfl (hb hby at_28) rfl ?_
      show Steps p.tables e below (T4.setTop (mkF m 29 #[.val (.int p0), .val (.int (p0.toInt8.toInt32)), .val (.ref r1), .val (.ref r1)] [(.int (p0.toInt8.toInt32)), (.int (nar .byte (1 : Int32)))])) _
      refine XS.icmpNo X4.here hx rfl (hb hby at_29) rfl (teq (by rw [hbb]; decide)).2 ?_
      show Steps p.tables e below (T4.setTop (mkF m 32 #[.val (.int p0), .val (.int (p0.toInt8.toInt32)), .val (.ref r1), .val (.ref r1)] [])) _
      refine XS.iconst X4.here hx rfl (hb hby at_32) ?_
      show Steps p.tables e below (T4.setTop (mkF m 33 #[.val (.int p0), .val (.int (p0.toInt8.toInt32)), .val (.ref r1), .val (.ref r1)] [(.int (1 : Int32))])) _
      refine XS.goto X4.here hx rfl (pc0 := 33) (pc' := 37) rfl (hb hby at_33) (by decide) (by decide) ?_
      exact kt
    exact own_end X4 hlk (v := some (.int (1 : Int32))) (fun h => by rw [Bd.returns] at h; cases h) (fun fs hr => retN X4 hx (t := .boolean) Bd.returns (by simp) (hb hby at_37) hr) ⟨rfl, N4⟩ (by decide : 1 ≤ _) (by decide : 7 ≤ _)
  · obtain ⟨_, _, ⟨T5, L5, k5, n5⟩, -, X5, ⟨Lc5, hQ5, l5, y5, z5⟩, st5⟩ := Jvm.LawKit.callS X0 hx (y := (⟨"com/example/logward/logward/log/RecordType", "ofCode", "(B)Lcom/example/logward/logward/log/RecordType;"⟩ : MethodName)) hown (mvT hZ (hw _ (List.mem_of_getElem? (i := 0) rfl))) (mvT hZ (hw _ (List.mem_of_getElem? (i := 1) rfl))) (mvT hZ (hw _ (List.mem_of_getElem? (i := 2) rfl))) (mvT hZ (hw _ (List.mem_of_getElem? (i := 3) rfl))) (by decide) (backOf (W := 0) (rmO l Z a0 hw [] (p0.toInt8.toInt32) va kv r1 r2 r3 r4 r5 r6 r7 (.ref r2) h0 n0 Z0 S_V V_va E_va hfit hO F_r1 F_r2 F_r3 F_r4 F_r5 F_r6 F_r7 hrv) hZ (hw _ (List.mem_of_getElem? (i := 3) rfl)) (hw _ (List.mem_of_getElem? (i := 2) rfl)) (by decide) (by decide)) (g := (mkF m 4 #[.val (.int p0), .val (.int (p0.toInt8.toInt32)), .unset, .unset] [(.int (p0.toInt8.toInt32))])) rfl (by rw [hml]; rfl) (argsL := [(.int (p0.toInt8.toInt32))]) (rest := []) (lenOf pd__28B_29Lcom_2fexample_2flogward_2flogward_2flog_2fRecordType_3b rfl) rfl (by show 2 * 0 + _ ≤ _; exact Nat.le_of_eq rfl) (hb hby at_4) (fun _ _ => ⟨rfl, e0, (by decide : 0 + 1 ≤ _), (by decide : 0 + 7 ≤ _)⟩)
    dsimp only [Pt.U, Pt.locs, Pt.cells, Pt.slots] at X5 l5 y5 z5 st5 hQ5
    obtain ⟨rfl, N5q, K5⟩ := hQ5
    have Z6 : n0 ≤ T5.heap.size := Nat.le_trans Z0 K5.1
    have Z6h : h0.size ≤ T5.heap.size := Nat.le_trans (Nat.le_refl h0.size) K5.1
    obtain ⟨lc5, X5, N5⟩ := own_pack X5 l5 y5 z5 N0 N5q (C := 1) (S' := 7) rfl rfl
    refine own_thr (a := T5.setTop (mkF m 7 #[.val (.int p0), .val (.int (p0.toInt8.toInt32)), .unset, .unset] [(.ref r2)])) (fun t kt => st5 t kt) ?_
    refine own_thr (a := T5.setTop (mkF m 9 #[.val (.int p0), .val (.int (p0.toInt8.toInt32)), .val (.ref r2), .unset] [(.int (p0.toInt8.toInt32))])) (fun t kt => ?_) ?_
    · show Steps p.tables e below (T5.setTop (mkF m 7 #[.val (.int p0), .val (.int (p0.toInt8.toInt32)), .unset, .unset] [(.ref r2)])) _
      refine XS.astoreN X5.here hx rfl (hb hby at_7) rfl rfl (l' := #[.val (.int p0), .val (.int (p0.toInt8.toInt32)), .val (.ref r2), .unset]) rfl ?_
      show Steps p.tables e below (T5.setTop (mkF m 8 #[.val (.int p0), .val (.int (p0.toInt8.toInt32)), .val (.ref r2), .unset] [])) _
      refine XS.iloadN X5.here hx rfl (hb hby at_8) rfl ?_
      exact kt
    obtain ⟨_, _, ⟨T7, L7, k7, n7⟩, -, X7, ⟨Lc7, hQ7, l7, y7, z7⟩, st7⟩ := Jvm.LawKit.callS X5 hx (y := (⟨"com/example/logward/logward/log/RecordTypeOfCodePinLaw", "expected", "(B)Lcom/example/logward/logward/log/RecordType;"⟩ : MethodName)) hown (mvT hZ (hw _ (List.mem_of_getElem? (i := 28) rfl))) (mvT hZ (hw _ (List.mem_of_getElem? (i := 29) rfl))) (mvT hZ (hw _ (List.mem_of_getElem? (i := 30) rfl))) (mvT hZ (hw _ (List.mem_of_getElem? (i := 31) rfl))) (by decide) (backOf (W := 0) (rmX l Z a0 hw [] (p0.toInt8.toInt32) r1 r2 r3 r4 r5 r6 r7 (.ref r2) T5.heap n0 Z6 (S_r1.ext (hO.keep K5 all0).2) (S_r2.ext (hO.keep K5 all0).2) (S_r3.ext (hO.keep K5 all0).2) (S_r4.ext (hO.keep K5 all0).2) (S_r5.ext (hO.keep K5 all0).2) (S_r6.ext (hO.keep K5 all0).2) (S_r7.ext (hO.keep K5 all0).2) hrv) hZ (hw _ (List.mem_of_getElem? (i := 31) rfl)) (hw _ (List.mem_of_getElem? (i := 30) rfl)) (by decide) (by decide)) (g := (mkF m 9 #[.val (.int p0), .val (.int (p0.toInt8.toInt32)), .val (.ref r2), .unset] [(.int (p0.toInt8.toInt32))])) rfl (by rw [hml]; rfl) (argsL := [(.int (p0.toInt8.toInt32))]) (rest := []) (lenOf pd__28B_29Lcom_2fexample_2flogward_2flogward_2flog_2fRecordType_3b rfl) rfl (by show 2 * 0 + _ ≤ _; exact Nat.le_of_eq rfl) (hb hby at_9) (fun _ _ => ⟨rfl, rfl, (by decide : 1 + 0 ≤ _), (by decide : 7 + 0 ≤ _)⟩)
    dsimp only [Pt.U, Pt.locs, Pt.cells, Pt.slots] at X7 l7 y7 z7 st7 hQ7
    obtain ⟨rfl, N7q, e7⟩ := hQ7
    obtain ⟨lc7, X7, N7⟩ := own_pack X7 l7 y7 z7 N5 N7q (C := 1) (S' := 7) rfl rfl
    refine own_thr (a := T7.setTop (mkF m 12 #[.val (.int p0), .val (.int (p0.toInt8.toInt32)), .val (.ref r2), .unset] [(.ref r2)])) (fun t kt => st7 t kt) ?_
    refine own_thr (a := T7.setTop (mkF m 15 #[.val (.int p0), .val (.int (p0.toInt8.toInt32)), .val (.ref r2), .val (.ref r2)] [(.ref r2), (.ref r2)])) (fun t kt => ?_) ?_
    · show Steps p.tables e below (T7.setTop (mkF m 12 #[.val (.int p0), .val (.int (p0.toInt8.toInt32)), .val (.ref r2), .unset] [(.ref r2)])) _
      refine XS.astoreN X7.here hx rfl (hb hby at_12) rfl rfl (l' := #[.val (.int p0), .val (.int (p0.toInt8.toInt32)), .val (.ref r2), .val (.ref r2)]) rfl ?_
      show Steps p.tables e below (T7.setTop (mkF m 13 #[.val (.int p0), .val (.int (p0.toInt8.toInt32)), .val (.ref r2), .val (.ref r2)] [])) _
      refine XS.aloadN X7.here hx rfl (hb hby at_13) rfl rfl ?_
      show Steps p.tables e below (T7.setTop (mkF m 14 #[.val (.int p0), .val (.int (p0.toInt8.toInt32)), .val (.ref r2), .val (.ref r2)] [(.ref r2)])) _
      refine XS.aloadN X7.here hx rfl (hb hby at_14) rfl rfl ?_
      exact kt
    refine own_thr (a := T7.setTop (mkF m 25 #[.val (.int p0), .val (.int (p0.toInt8.toInt32)), .val (.ref r2), .val (.ref r2)] [(.ref r2)])) (fun t kt => ?_) ?_
    · show Steps p.tables e below (T7.setTop (mkF m 15 #[.val (.int p0), .val (.int (p0.toInt8.toInt32)), .val (.ref r2), .val (.ref r2)] [(.ref r2), (.ref r2)])) _
      refine Jvm.RoadKit.acmp (g := (mkF m 15 #[.val (.int p0), .val (.int (p0.toInt8.toInt32)), .val (.ref r2), .val (.ref r2)] [(.ref r2), (.ref r2)])) X7 hx rfl rfl rfl (pc0 := 15) (pc' := 20) (same := true) rfl (hb hby at_15) rfl (decide_eq_true rfl) (by decide) (by decide) ?_
      show Steps p.tables e below (T7.setTop (mkF m 20 #[.val (.int p0), .val (.int (p0.toInt8.toInt32)), .val (.ref r2), .val (.ref r2)] [])) _
      refine XS.aloadN X7.here hx rfl (hb hby at_20) rfl rfl ?_
      show Steps p.tables e below (T7.setTop (mkF m 21 #[.val (.int p0), .val (.int (p0.toInt8.toInt32)), .val (.ref r2), .val (.ref r2)] [(.ref r2)])) _
      refine XS.ifnullNo X7.here hx rfl (hb hby at_21) rfl ?_
      show Steps p.tables e below (T7.setTop (mkF m 24 #[.val (.int p0), .val (.int (p0.toInt8.toInt32)), .val (.ref r2), .val (.ref r2)] [])) _
      refine XS.aloadN X7.here hx rfl (hb hby at_24) rfl rfl ?_
      exact kt
    obtain ⟨cq8, kq8, q8a, q8b, q8c⟩ := isOf hZ e7 (E_r2.keep K5)
    obtain ⟨_, _, ⟨T8, L8, k8, n8⟩, -, X8, ⟨Lc8, hQ8, l8, y8, z8⟩, st8⟩ := X7.virtualBack hx (y := (⟨"com/example/logward/logward/log/RecordType", "code", "()B"⟩ : MethodName)) (z := (⟨"com/example/logward/logward/log/RecordType", "code", "()B"⟩ : MethodName)) hown (mvT hZ (hw _ (List.mem_of_getElem? (i := 33) rfl))) (mvT hZ (hw _ (List.mem_of_getElem? (i := 34) rfl))) (notFace_of_selects (args := #[]) (mvT hZ (hw _ (List.mem_of_getElem? (i := 36) rfl)))) (mvT hZ (hw _ (List.mem_of_getElem? (i := 36) rfl))) (mvT hZ (hw _ (List.mem_of_getElem? (i := 35) rfl))) (by decide) (backOf (W := 0) (rmC l Z a0 hw [] r2 (2 : Int32) T5.heap n0 Z6 (F_r2.keep K5 nin0)) hZ (hw _ (List.mem_of_getElem? (i := 37) rfl)) (hw _ (List.mem_of_getElem? (i := 2) rfl)) (by decide) (by decide)) q8a q8c (g := (mkF m 25 #[.val (.int p0), .val (.int (p0.toInt8.toInt32)), .val (.ref r2), .val (.ref r2)] [(.ref r2)])) rfl (by rw [hml]; rfl) (Steps.refl _) (argsL := []) (rest := []) (lenOf pd__28_29B rfl) rfl (by show 2 * 0 + _ ≤ _; exact Nat.le_of_eq rfl) (hb hby at_25) (fun _ _ => ⟨rfl, e7, (by decide : 1 + 0 ≤ _), (by decide : 7 + 0 ≤ _)⟩)
    dsimp only [Pt.U, Pt.locs, Pt.cells, Pt.slots] at X8 l8 y8 z8 st8 hQ8
    obtain ⟨rfl, N8q, e8⟩ := hQ8
    obtain ⟨lc8, X8, N8⟩ := own_pack X8 l8 y8 z8 N7 N8q (C := 1) (S' := 7) rfl rfl
    refine own_thr (a := T8.setTop (mkF m 28 #[.val (.int p0), .val (.int (p0.toInt8.toInt32)), .val (.ref r2), .val (.ref r2)] [(.int (nar .byte (2 : Int32)))])) (fun t kt => st8.trans kt) ?_
    refine own_thr (a := T8.setTop (mkF m 37 #[.val (.int p0), .val (.int (p0.toInt8.toInt32)), .val (.ref r2), .val (.ref r2)] [(.int (1 : Int32))])) (fun t kt => ?_) ?_
    · show Steps p.tables e below (T8.setTop (mkF m 28 #[.val (.int p0), .val (.int (p0.toInt8.toInt32)), .val (.ref r2), .val (.ref r2)] [(.int (nar .byte (2 : Int32)))])) _
      refine XS.iloadN X8.here hx rfl (hb hby at_28) rfl ?_
      show Steps p.tables e below (T8.setTop (mkF m 29 #[.val (.int p0), .val (.int (p0.toInt8.toInt32)), .val (.ref r2), .val (.ref r2)] [(.int (p0.toInt8.toInt32)), (.int (nar .byte (2 : Int32)))])) _
      refine XS.icmpNo X8.here hx rfl (hb hby at_29) rfl (teq (by rw [hbb]; decide)).2 ?_
      show Steps p.tables e below (T8.setTop (mkF m 32 #[.val (.int p0), .val (.int (p0.toInt8.toInt32)), .val (.ref r2), .val (.ref r2)] [])) _
      refine XS.iconst X8.here hx rfl (hb hby at_32) ?_
      show Steps p.tables e below (T8.setTop (mkF m 33 #[.val (.int p0), .val (.int (p0.toInt8.toInt32)), .val (.ref r2), .val (.ref r2)] [(.int (1 : Int32))])) _
      refine XS.goto X8.here hx rfl (pc0 := 33) (pc' := 37) rfl (hb hby at_33) (by decide) (by decide) ?_
      exact kt
    exact own_end X8 hlk (v := some (.int (1 : Int32))) (fun h => by rw [Bd.returns] at h; cases h) (fun fs hr => retN X8 hx (t := .boolean) Bd.returns (by simp) (hb hby at_37) hr) ⟨rfl, N8⟩ (by decide : 1 ≤ _) (by decide : 7 ≤ _)
  · obtain ⟨_, _, ⟨T9, L9, k9, n9⟩, -, X9, ⟨Lc9, hQ9, l9, y9, z9⟩, st9⟩ := Jvm.LawKit.callS X0 hx (y := (⟨"com/example/logward/logward/log/RecordType", "ofCode", "(B)Lcom/example/logward/logward/log/RecordType;"⟩ : MethodName)) hown (mvT hZ (hw _ (List.mem_of_getElem? (i := 0) rfl))) (mvT hZ (hw _ (List.mem_of_getElem? (i := 1) rfl))) (mvT hZ (hw _ (List.mem_of_getElem? (i := 2) rfl))) (mvT hZ (hw _ (List.mem_of_getElem? (i := 3) rfl))) (by decide) (backOf (W := 0) (rmO l Z a0 hw [] (p0.toInt8.toInt32) va kv r1 r2 r3 r4 r5 r6 r7 (.ref r3) h0 n0 Z0 S_V V_va E_va hfit hO F_r1 F_r2 F_r3 F_r4 F_r5 F_r6 F_r7 hrv) hZ (hw _ (List.mem_of_getElem? (i := 3) rfl)) (hw _ (List.mem_of_getElem? (i := 2) rfl)) (by decide) (by decide)) (g := (mkF m 4 #[.val (.int p0), .val (.int (p0.toInt8.toInt32)), .unset, .unset] [(.int (p0.toInt8.toInt32))])) rfl (by rw [hml]; rfl) (argsL := [(.int (p0.toInt8.toInt32))]) (rest := []) (lenOf pd__28B_29Lcom_2fexample_2flogward_2flogward_2flog_2fRecordType_3b rfl) rfl (by show 2 * 0 + _ ≤ _; exact Nat.le_of_eq rfl) (hb hby at_4) (fun _ _ => ⟨rfl, e0, (by decide : 0 + 1 ≤ _), (by decide : 0 + 7 ≤ _)⟩)
    dsimp only [Pt.U, Pt.locs, Pt.cells, Pt.slots] at X9 l9 y9 z9 st9 hQ9
    obtain ⟨rfl, N9q, K9⟩ := hQ9
    have Z10 : n0 ≤ T9.heap.size := Nat.le_trans Z0 K9.1
    have Z10h : h0.size ≤ T9.heap.size := Nat.le_trans (Nat.le_refl h0.size) K9.1
    obtain ⟨lc9, X9, N9⟩ := own_pack X9 l9 y9 z9 N0 N9q (C := 1) (S' := 7) rfl rfl
    refine own_thr (a := T9.setTop (mkF m 7 #[.val (.int p0), .val (.int (p0.toInt8.toInt32)), .unset, .unset] [(.ref r3)])) (fun t kt => st9 t kt) ?_
    refine own_thr (a := T9.setTop (mkF m 9 #[.val (.int p0), .val (.int (p0.toInt8.toInt32)), .val (.ref r3), .unset] [(.int (p0.toInt8.toInt32))])) (fun t kt => ?_) ?_
    · show Steps p.tables e below (T9.setTop (mkF m 7 #[.val (.int p0), .val (.int (p0.toInt8.toInt32)), .unset, .unset] [(.ref r3)])) _
      refine XS.astoreN X9.here hx rfl (hb hby at_7) rfl rfl (l' := #[.val (.int p0), .val (.int (p0.toInt8.toInt32)), .val (.ref r3), .unset]) rfl ?_
      show Steps p.tables e below (T9.setTop (mkF m 8 #[.val (.int p0), .val (.int (p0.toInt8.toInt32)), .val (.ref r3), .unset] [])) _
      refine XS.iloadN X9.here hx rfl (hb hby at_8) rfl ?_
      exact kt
    obtain ⟨_, _, ⟨T11, L11, k11, n11⟩, -, X11, ⟨Lc11, hQ11, l11, y11, z11⟩, st11⟩ := Jvm.LawKit.callS X9 hx (y := (⟨"com/example/logward/logward/log/RecordTypeOfCodePinLaw", "expected", "(B)Lcom/example/logward/logward/log/RecordType;"⟩ : MethodName)) hown (mvT hZ (hw _ (List.mem_of_getElem? (i := 28) rfl))) (mvT hZ (hw _ (List.mem_of_getElem? (i := 29) rfl))) (mvT hZ (hw _ (List.mem_of_getElem? (i := 30) rfl))) (mvT hZ (hw _ (List.mem_of_getElem? (i := 31) rfl))) (by decide) (backOf (W := 0) (rmX l Z a0 hw [] (p0.toInt8.toInt32) r1 r2 r3 r4 r5 r6 r7 (.ref r3) T9.heap n0 Z10 (S_r1.ext (hO.keep K9 all0).2) (S_r2.ext (hO.keep K9 all0).2) (S_r3.ext (hO.keep K9 all0).2) (S_r4.ext (hO.keep K9 all0).2) (S_r5.ext (hO.keep K9 all0).2) (S_r6.ext (hO.keep K9 all0).2) (S_r7.ext (hO.keep K9 all0).2) hrv) hZ (hw _ (List.mem_of_getElem? (i := 31) rfl)) (hw _ (List.mem_of_getElem? (i := 30) rfl)) (by decide) (by decide)) (g := (mkF m 9 #[.val (.int p0), .val (.int (p0.toInt8.toInt32)), .val (.ref r3), .unset] [(.int (p0.toInt8.toInt32))])) rfl (by rw [hml]; rfl) (argsL := [(.int (p0.toInt8.toInt32))]) (rest := []) (lenOf pd__28B_29Lcom_2fexample_2flogward_2flogward_2flog_2fRecordType_3b rfl) rfl (by show 2 * 0 + _ ≤ _; exact Nat.le_of_eq rfl) (hb hby at_9) (fun _ _ => ⟨rfl, rfl, (by decide : 1 + 0 ≤ _), (by decide : 7 + 0 ≤ _)⟩)
    dsimp only [Pt.U, Pt.locs, Pt.cells, Pt.slots] at X11 l11 y11 z11 st11 hQ11
    obtain ⟨rfl, N11q, e11⟩ := hQ11
    obtain ⟨lc11, X11, N11⟩ := own_pack X11 l11 y11 z11 N9 N11q (C := 1) (S' := 7) rfl rfl
    refine own_thr (a := T11.setTop (mkF m 12 #[.val (.int p0), .val (.int (p0.toInt8.toInt32)), .val (.ref r3), .unset] [(.ref r3)])) (fun t kt => st11 t kt) ?_
    refine own_thr (a := T11.setTop (mkF m 15 #[.val (.int p0), .val (.int (p0.toInt8.toInt32)), .val (.ref r3), .val (.ref r3)] [(.ref r3), (.ref r3)])) (fun t kt => ?_) ?_
    · show Steps p.tables e below (T11.setTop (mkF m 12 #[.val (.int p0), .val (.int (p0.toInt8.toInt32)), .val (.ref r3), .unset] [(.ref r3)])) _
      refine XS.astoreN X11.here hx rfl (hb hby at_12) rfl rfl (l' := #[.val (.int p0), .val (.int (p0.toInt8.toInt32)), .val (.ref r3), .val (.ref r3)]) rfl ?_
      show Steps p.tables e below (T11.setTop (mkF m 13 #[.val (.int p0), .val (.int (p0.toInt8.toInt32)), .val (.ref r3), .val (.ref r3)] [])) _
      refine XS.aloadN X11.here hx rfl (hb hby at_13) rfl rfl ?_
      show Steps p.tables e below (T11.setTop (mkF m 14 #[.val (.int p0), .val (.int (p0.toInt8.toInt32)), .val (.ref r3), .val (.ref r3)] [(.ref r3)])) _
      refine XS.aloadN X11.here hx rfl (hb hby at_14) rfl rfl ?_
      exact kt
    refine own_thr (a := T11.setTop (mkF m 25 #[.val (.int p0), .val (.int (p0.toInt8.toInt32)), .val (.ref r3), .val (.ref r3)] [(.ref r3)])) (fun t kt => ?_) ?_
    · show Steps p.tables e below (T11.setTop (mkF m 15 #[.val (.int p0), .val (.int (p0.toInt8.toInt32)), .val (.ref r3), .val (.ref r3)] [(.ref r3), (.ref r3)])) _
      refine Jvm.RoadKit.acmp (g := (mkF m 15 #[.val (.int p0), .val (.int (p0.toInt8.toInt32)), .val (.ref r3), .val (.ref r3)] [(.ref r3), (.ref r3)])) X11 hx rfl rfl rfl (pc0 := 15) (pc' := 20) (same := true) rfl (hb hby at_15) rfl (decide_eq_true rfl) (by decide) (by decide) ?_
      show Steps p.tables e below (T11.setTop (mkF m 20 #[.val (.int p0), .val (.int (p0.toInt8.toInt32)), .val (.ref r3), .val (.ref r3)] [])) _
      refine XS.aloadN X11.here hx rfl (hb hby at_20) rfl rfl ?_
      show Steps p.tables e below (T11.setTop (mkF m 21 #[.val (.int p0), .val (.int (p0.toInt8.toInt32)), .val (.ref r3), .val (.ref r3)] [(.ref r3)])) _
      refine XS.ifnullNo X11.here hx rfl (hb hby at_21) rfl ?_
      show Steps p.tables e below (T11.setTop (mkF m 24 #[.val (.int p0), .val (.int (p0.toInt8.toInt32)), .val (.ref r3), .val (.ref r3)] [])) _
      refine XS.aloadN X11.here hx rfl (hb hby at_24) rfl rfl ?_
      exact kt
    obtain ⟨cq12, kq12, q12a, q12b, q12c⟩ := isOf hZ e11 (E_r3.keep K9)
    obtain ⟨_, _, ⟨T12, L12, k12, n12⟩, -, X12, ⟨Lc12, hQ12, l12, y12, z12⟩, st12⟩ := X11.virtualBack hx (y := (⟨"com/example/logward/logward/log/RecordType", "code", "()B"⟩ : MethodName)) (z := (⟨"com/example/logward/logward/log/RecordType", "code", "()B"⟩ : MethodName)) hown (mvT hZ (hw _ (List.mem_of_getElem? (i := 33) rfl))) (mvT hZ (hw _ (List.mem_of_getElem? (i := 34) rfl))) (notFace_of_selects (args := #[]) (mvT hZ (hw _ (List.mem_of_getElem? (i := 36) rfl)))) (mvT hZ (hw _ (List.mem_of_getElem? (i := 36) rfl))) (mvT hZ (hw _ (List.mem_of_getElem? (i := 35) rfl))) (by decide) (backOf (W := 0) (rmC l Z a0 hw [] r3 (3 : Int32) T9.heap n0 Z10 (F_r3.keep K9 nin0)) hZ (hw _ (List.mem_of_getElem? (i := 37) rfl)) (hw _ (List.mem_of_getElem? (i := 2) rfl)) (by decide) (by decide)) q12a q12c (g := (mkF m 25 #[.val (.int p0), .val (.int (p0.toInt8.toInt32)), .val (.ref r3), .val (.ref r3)] [(.ref r3)])) rfl (by rw [hml]; rfl) (Steps.refl _) (argsL := []) (rest := []) (lenOf pd__28_29B rfl) rfl (by show 2 * 0 + _ ≤ _; exact Nat.le_of_eq rfl) (hb hby at_25) (fun _ _ => ⟨rfl, e11, (by decide : 1 + 0 ≤ _), (by decide : 7 + 0 ≤ _)⟩)
    dsimp only [Pt.U, Pt.locs, Pt.cells, Pt.slots] at X12 l12 y12 z12 st12 hQ12
    obtain ⟨rfl, N12q, e12⟩ := hQ12
    obtain ⟨lc12, X12, N12⟩ := own_pack X12 l12 y12 z12 N11 N12q (C := 1) (S' := 7) rfl rfl
    refine own_thr (a := T12.setTop (mkF m 28 #[.val (.int p0), .val (.int (p0.toInt8.toInt32)), .val (.ref r3), .val (.ref r3)] [(.int (nar .byte (3 : Int32)))])) (fun t kt => st12.trans kt) ?_
    refine own_thr (a := T12.setTop (mkF m 37 #[.val (.int p0), .val (.int (p0.toInt8.toInt32)), .val (.ref r3), .val (.ref r3)] [(.int (1 : Int32))])) (fun t kt => ?_) ?_
    · show Steps p.tables e below (T12.setTop (mkF m 28 #[.val (.int p0), .val (.int (p0.toInt8.toInt32)), .val (.ref r3), .val (.ref r3)] [(.int (nar .byte (3 : Int32)))])) _
      refine XS.iloadN X12.here hx rfl (hb hby at_28) rfl ?_
      show Steps p.tables e below (T12.setTop (mkF m 29 #[.val (.int p0), .val (.int (p0.toInt8.toInt32)), .val (.ref r3), .val (.ref r3)] [(.int (p0.toInt8.toInt32)), (.int (nar .byte (3 : Int32)))])) _
      refine XS.icmpNo X12.here hx rfl (hb hby at_29) rfl (teq (by rw [hbb]; decide)).2 ?_
      show Steps p.tables e below (T12.setTop (mkF m 32 #[.val (.int p0), .val (.int (p0.toInt8.toInt32)), .val (.ref r3), .val (.ref r3)] [])) _
      refine XS.iconst X12.here hx rfl (hb hby at_32) ?_
      show Steps p.tables e below (T12.setTop (mkF m 33 #[.val (.int p0), .val (.int (p0.toInt8.toInt32)), .val (.ref r3), .val (.ref r3)] [(.int (1 : Int32))])) _
      refine XS.goto X12.here hx rfl (pc0 := 33) (pc' := 37) rfl (hb hby at_33) (by decide) (by decide) ?_
      exact kt
    exact own_end X12 hlk (v := some (.int (1 : Int32))) (fun h => by rw [Bd.returns] at h; cases h) (fun fs hr => retN X12 hx (t := .boolean) Bd.returns (by simp) (hb hby at_37) hr) ⟨rfl, N12⟩ (by decide : 1 ≤ _) (by decide : 7 ≤ _)
  · obtain ⟨_, _, ⟨T13, L13, k13, n13⟩, -, X13, ⟨Lc13, hQ13, l13, y13, z13⟩, st13⟩ := Jvm.LawKit.callS X0 hx (y := (⟨"com/example/logward/logward/log/RecordType", "ofCode", "(B)Lcom/example/logward/logward/log/RecordType;"⟩ : MethodName)) hown (mvT hZ (hw _ (List.mem_of_getElem? (i := 0) rfl))) (mvT hZ (hw _ (List.mem_of_getElem? (i := 1) rfl))) (mvT hZ (hw _ (List.mem_of_getElem? (i := 2) rfl))) (mvT hZ (hw _ (List.mem_of_getElem? (i := 3) rfl))) (by decide) (backOf (W := 0) (rmO l Z a0 hw [] (p0.toInt8.toInt32) va kv r1 r2 r3 r4 r5 r6 r7 (.ref r4) h0 n0 Z0 S_V V_va E_va hfit hO F_r1 F_r2 F_r3 F_r4 F_r5 F_r6 F_r7 hrv) hZ (hw _ (List.mem_of_getElem? (i := 3) rfl)) (hw _ (List.mem_of_getElem? (i := 2) rfl)) (by decide) (by decide)) (g := (mkF m 4 #[.val (.int p0), .val (.int (p0.toInt8.toInt32)), .unset, .unset] [(.int (p0.toInt8.toInt32))])) rfl (by rw [hml]; rfl) (argsL := [(.int (p0.toInt8.toInt32))]) (rest := []) (lenOf pd__28B_29Lcom_2fexample_2flogward_2flogward_2flog_2fRecordType_3b rfl) rfl (by show 2 * 0 + _ ≤ _; exact Nat.le_of_eq rfl) (hb hby at_4) (fun _ _ => ⟨rfl, e0, (by decide : 0 + 1 ≤ _), (by decide : 0 + 7 ≤ _)⟩)
    dsimp only [Pt.U, Pt.locs, Pt.cells, Pt.slots] at X13 l13 y13 z13 st13 hQ13
    obtain ⟨rfl, N13q, K13⟩ := hQ13
    have Z14 : n0 ≤ T13.heap.size := Nat.le_trans Z0 K13.1
    have Z14h : h0.size ≤ T13.heap.size := Nat.le_trans (Nat.le_refl h0.size) K13.1
    obtain ⟨lc13, X13, N13⟩ := own_pack X13 l13 y13 z13 N0 N13q (C := 1) (S' := 7) rfl rfl
    refine own_thr (a := T13.setTop (mkF m 7 #[.val (.int p0), .val (.int (p0.toInt8.toInt32)), .unset, .unset] [(.ref r4)])) (fun t kt => st13 t kt) ?_
    refine own_thr (a := T13.setTop (mkF m 9 #[.val (.int p0), .val (.int (p0.toInt8.toInt32)), .val (.ref r4), .unset] [(.int (p0.toInt8.toInt32))])) (fun t kt => ?_) ?_
    · show Steps p.tables e below (T13.setTop (mkF m 7 #[.val (.int p0), .val (.int (p0.toInt8.toInt32)), .unset, .unset] [(.ref r4)])) _
      refine XS.astoreN X13.here hx rfl (hb hby at_7) rfl rfl (l' := #[.val (.int p0), .val (.int (p0.toInt8.toInt32)), .val (.ref r4), .unset]) rfl ?_
      show Steps p.tables e below (T13.setTop (mkF m 8 #[.val (.int p0), .val (.int (p0.toInt8.toInt32)), .val (.ref r4), .unset] [])) _
      refine XS.iloadN X13.here hx rfl (hb hby at_8) rfl ?_
      exact kt
    obtain ⟨_, _, ⟨T15, L15, k15, n15⟩, -, X15, ⟨Lc15, hQ15, l15, y15, z15⟩, st15⟩ := Jvm.LawKit.callS X13 hx (y := (⟨"com/example/logward/logward/log/RecordTypeOfCodePinLaw", "expected", "(B)Lcom/example/logward/logward/log/RecordType;"⟩ : MethodName)) hown (mvT hZ (hw _ (List.mem_of_getElem? (i := 28) rfl))) (mvT hZ (hw _ (List.mem_of_getElem? (i := 29) rfl))) (mvT hZ (hw _ (List.mem_of_getElem? (i := 30) rfl))) (mvT hZ (hw _ (List.mem_of_getElem? (i := 31) rfl))) (by decide) (backOf (W := 0) (rmX l Z a0 hw [] (p0.toInt8.toInt32) r1 r2 r3 r4 r5 r6 r7 (.ref r4) T13.heap n0 Z14 (S_r1.ext (hO.keep K13 all0).2) (S_r2.ext (hO.keep K13 all0).2) (S_r3.ext (hO.keep K13 all0).2) (S_r4.ext (hO.keep K13 all0).2) (S_r5.ext (hO.keep K13 all0).2) (S_r6.ext (hO.keep K13 all0).2) (S_r7.ext (hO.keep K13 all0).2) hrv) hZ (hw _ (List.mem_of_getElem? (i := 31) rfl)) (hw _ (List.mem_of_getElem? (i := 30) rfl)) (by decide) (by decide)) (g := (mkF m 9 #[.val (.int p0), .val (.int (p0.toInt8.toInt32)), .val (.ref r4), .unset] [(.int (p0.toInt8.toInt32))])) rfl (by rw [hml]; rfl) (argsL := [(.int (p0.toInt8.toInt32))]) (rest := []) (lenOf pd__28B_29Lcom_2fexample_2flogward_2flogward_2flog_2fRecordType_3b rfl) rfl (by show 2 * 0 + _ ≤ _; exact Nat.le_of_eq rfl) (hb hby at_9) (fun _ _ => ⟨rfl, rfl, (by decide : 1 + 0 ≤ _), (by decide : 7 + 0 ≤ _)⟩)
    dsimp only [Pt.U, Pt.locs, Pt.cells, Pt.slots] at X15 l15 y15 z15 st15 hQ15
    obtain ⟨rfl, N15q, e15⟩ := hQ15
    obtain ⟨lc15, X15, N15⟩ := own_pack X15 l15 y15 z15 N13 N15q (C := 1) (S' := 7) rfl rfl
    refine own_thr (a := T15.setTop (mkF m 12 #[.val (.int p0), .val (.int (p0.toInt8.toInt32)), .val (.ref r4), .unset] [(.ref r4)])) (fun t kt => st15 t kt) ?_
    refine own_thr (a := T15.setTop (mkF m 15 #[.val (.int p0), .val (.int (p0.toInt8.toInt32)), .val (.ref r4), .val (.ref r4)] [(.ref r4), (.ref r4)])) (fun t kt => ?_) ?_
    · show Steps p.tables e below (T15.setTop (mkF m 12 #[.val (.int p0), .val (.int (p0.toInt8.toInt32)), .val (.ref r4), .unset] [(.ref r4)])) _
      refine XS.astoreN X15.here hx rfl (hb hby at_12) rfl rfl (l' := #[.val (.int p0), .val (.int (p0.toInt8.toInt32)), .val (.ref r4), .val (.ref r4)]) rfl ?_
      show Steps p.tables e below (T15.setTop (mkF m 13 #[.val (.int p0), .val (.int (p0.toInt8.toInt32)), .val (.ref r4), .val (.ref r4)] [])) _
      refine XS.aloadN X15.here hx rfl (hb hby at_13) rfl rfl ?_
      show Steps p.tables e below (T15.setTop (mkF m 14 #[.val (.int p0), .val (.int (p0.toInt8.toInt32)), .val (.ref r4), .val (.ref r4)] [(.ref r4)])) _
      refine XS.aloadN X15.here hx rfl (hb hby at_14) rfl rfl ?_
      exact kt
    refine own_thr (a := T15.setTop (mkF m 25 #[.val (.int p0), .val (.int (p0.toInt8.toInt32)), .val (.ref r4), .val (.ref r4)] [(.ref r4)])) (fun t kt => ?_) ?_
    · show Steps p.tables e below (T15.setTop (mkF m 15 #[.val (.int p0), .val (.int (p0.toInt8.toInt32)), .val (.ref r4), .val (.ref r4)] [(.ref r4), (.ref r4)])) _
      refine Jvm.RoadKit.acmp (g := (mkF m 15 #[.val (.int p0), .val (.int (p0.toInt8.toInt32)), .val (.ref r4), .val (.ref r4)] [(.ref r4), (.ref r4)])) X15 hx rfl rfl rfl (pc0 := 15) (pc' := 20) (same := true) rfl (hb hby at_15) rfl (decide_eq_true rfl) (by decide) (by decide) ?_
      show Steps p.tables e below (T15.setTop (mkF m 20 #[.val (.int p0), .val (.int (p0.toInt8.toInt32)), .val (.ref r4), .val (.ref r4)] [])) _
      refine XS.aloadN X15.here hx rfl (hb hby at_20) rfl rfl ?_
      show Steps p.tables e below (T15.setTop (mkF m 21 #[.val (.int p0), .val (.int (p0.toInt8.toInt32)), .val (.ref r4), .val (.ref r4)] [(.ref r4)])) _
      refine XS.ifnullNo X15.here hx rfl (hb hby at_21) rfl ?_
      show Steps p.tables e below (T15.setTop (mkF m 24 #[.val (.int p0), .val (.int (p0.toInt8.toInt32)), .val (.ref r4), .val (.ref r4)] [])) _
      refine XS.aloadN X15.here hx rfl (hb hby at_24) rfl rfl ?_
      exact kt
    obtain ⟨cq16, kq16, q16a, q16b, q16c⟩ := isOf hZ e15 (E_r4.keep K13)
    obtain ⟨_, _, ⟨T16, L16, k16, n16⟩, -, X16, ⟨Lc16, hQ16, l16, y16, z16⟩, st16⟩ := X15.virtualBack hx (y := (⟨"com/example/logward/logward/log/RecordType", "code", "()B"⟩ : MethodName)) (z := (⟨"com/example/logward/logward/log/RecordType", "code", "()B"⟩ : MethodName)) hown (mvT hZ (hw _ (List.mem_of_getElem? (i := 33) rfl))) (mvT hZ (hw _ (List.mem_of_getElem? (i := 34) rfl))) (notFace_of_selects (args := #[]) (mvT hZ (hw _ (List.mem_of_getElem? (i := 36) rfl)))) (mvT hZ (hw _ (List.mem_of_getElem? (i := 36) rfl))) (mvT hZ (hw _ (List.mem_of_getElem? (i := 35) rfl))) (by decide) (backOf (W := 0) (rmC l Z a0 hw [] r4 (4 : Int32) T13.heap n0 Z14 (F_r4.keep K13 nin0)) hZ (hw _ (List.mem_of_getElem? (i := 37) rfl)) (hw _ (List.mem_of_getElem? (i := 2) rfl)) (by decide) (by decide)) q16a q16c (g := (mkF m 25 #[.val (.int p0), .val (.int (p0.toInt8.toInt32)), .val (.ref r4), .val (.ref r4)] [(.ref r4)])) rfl (by rw [hml]; rfl) (Steps.refl _) (argsL := []) (rest := []) (lenOf pd__28_29B rfl) rfl (by show 2 * 0 + _ ≤ _; exact Nat.le_of_eq rfl) (hb hby at_25) (fun _ _ => ⟨rfl, e15, (by decide : 1 + 0 ≤ _), (by decide : 7 + 0 ≤ _)⟩)
    dsimp only [Pt.U, Pt.locs, Pt.cells, Pt.slots] at X16 l16 y16 z16 st16 hQ16
    obtain ⟨rfl, N16q, e16⟩ := hQ16
    obtain ⟨lc16, X16, N16⟩ := own_pack X16 l16 y16 z16 N15 N16q (C := 1) (S' := 7) rfl rfl
    refine own_thr (a := T16.setTop (mkF m 28 #[.val (.int p0), .val (.int (p0.toInt8.toInt32)), .val (.ref r4), .val (.ref r4)] [(.int (nar .byte (4 : Int32)))])) (fun t kt => st16.trans kt) ?_
    refine own_thr (a := T16.setTop (mkF m 37 #[.val (.int p0), .val (.int (p0.toInt8.toInt32)), .val (.ref r4), .val (.ref r4)] [(.int (1 : Int32))])) (fun t kt => ?_) ?_
    · show Steps p.tables e below (T16.setTop (mkF m 28 #[.val (.int p0), .val (.int (p0.toInt8.toInt32)), .val (.ref r4), .val (.ref r4)] [(.int (nar .byte (4 : Int32)))])) _
      refine XS.iloadN X16.here hx rfl (hb hby at_28) rfl ?_
      show Steps p.tables e below (T16.setTop (mkF m 29 #[.val (.int p0), .val (.int (p0.toInt8.toInt32)), .val (.ref r4), .val (.ref r4)] [(.int (p0.toInt8.toInt32)), (.int (nar .byte (4 : Int32)))])) _
      refine XS.icmpNo X16.here hx rfl (hb hby at_29) rfl (teq (by rw [hbb]; decide)).2 ?_
      show Steps p.tables e below (T16.setTop (mkF m 32 #[.val (.int p0), .val (.int (p0.toInt8.toInt32)), .val (.ref r4), .val (.ref r4)] [])) _
      refine XS.iconst X16.here hx rfl (hb hby at_32) ?_
      show Steps p.tables e below (T16.setTop (mkF m 33 #[.val (.int p0), .val (.int (p0.toInt8.toInt32)), .val (.ref r4), .val (.ref r4)] [(.int (1 : Int32))])) _
      refine XS.goto X16.here hx rfl (pc0 := 33) (pc' := 37) rfl (hb hby at_33) (by decide) (by decide) ?_
      exact kt
    exact own_end X16 hlk (v := some (.int (1 : Int32))) (fun h => by rw [Bd.returns] at h; cases h) (fun fs hr => retN X16 hx (t := .boolean) Bd.returns (by simp) (hb hby at_37) hr) ⟨rfl, N16⟩ (by decide : 1 ≤ _) (by decide : 7 ≤ _)
  · obtain ⟨_, _, ⟨T17, L17, k17, n17⟩, -, X17, ⟨Lc17, hQ17, l17, y17, z17⟩, st17⟩ := Jvm.LawKit.callS X0 hx (y := (⟨"com/example/logward/logward/log/RecordType", "ofCode", "(B)Lcom/example/logward/logward/log/RecordType;"⟩ : MethodName)) hown (mvT hZ (hw _ (List.mem_of_getElem? (i := 0) rfl))) (mvT hZ (hw _ (List.mem_of_getElem? (i := 1) rfl))) (mvT hZ (hw _ (List.mem_of_getElem? (i := 2) rfl))) (mvT hZ (hw _ (List.mem_of_getElem? (i := 3) rfl))) (by decide) (backOf (W := 0) (rmO l Z a0 hw [] (p0.toInt8.toInt32) va kv r1 r2 r3 r4 r5 r6 r7 (.ref r5) h0 n0 Z0 S_V V_va E_va hfit hO F_r1 F_r2 F_r3 F_r4 F_r5 F_r6 F_r7 hrv) hZ (hw _ (List.mem_of_getElem? (i := 3) rfl)) (hw _ (List.mem_of_getElem? (i := 2) rfl)) (by decide) (by decide)) (g := (mkF m 4 #[.val (.int p0), .val (.int (p0.toInt8.toInt32)), .unset, .unset] [(.int (p0.toInt8.toInt32))])) rfl (by rw [hml]; rfl) (argsL := [(.int (p0.toInt8.toInt32))]) (rest := []) (lenOf pd__28B_29Lcom_2fexample_2flogward_2flogward_2flog_2fRecordType_3b rfl) rfl (by show 2 * 0 + _ ≤ _; exact Nat.le_of_eq rfl) (hb hby at_4) (fun _ _ => ⟨rfl, e0, (by decide : 0 + 1 ≤ _), (by decide : 0 + 7 ≤ _)⟩)
    dsimp only [Pt.U, Pt.locs, Pt.cells, Pt.slots] at X17 l17 y17 z17 st17 hQ17
    obtain ⟨rfl, N17q, K17⟩ := hQ17
    have Z18 : n0 ≤ T17.heap.size := Nat.le_trans Z0 K17.1
    have Z18h : h0.size ≤ T17.heap.size := Nat.le_trans (Nat.le_refl h0.size) K17.1
    obtain ⟨lc17, X17, N17⟩ := own_pack X17 l17 y17 z17 N0 N17q (C := 1) (S' := 7) rfl rfl
    refine own_thr (a := T17.setTop (mkF m 7 #[.val (.int p0), .val (.int (p0.toInt8.toInt32)), .unset, .unset] [(.ref r5)])) (fun t kt => st17 t kt) ?_
    refine own_thr (a := T17.setTop (mkF m 9 #[.val (.int p0), .val (.int (p0.toInt8.toInt32)), .val (.ref r5), .unset] [(.int (p0.toInt8.toInt32))])) (fun t kt => ?_) ?_
    · show Steps p.tables e below (T17.setTop (mkF m 7 #[.val (.int p0), .val (.int (p0.toInt8.toInt32)), .unset, .unset] [(.ref r5)])) _
      refine XS.astoreN X17.here hx rfl (hb hby at_7) rfl rfl (l' := #[.val (.int p0), .val (.int (p0.toInt8.toInt32)), .val (.ref r5), .unset]) rfl ?_
      show Steps p.tables e below (T17.setTop (mkF m 8 #[.val (.int p0), .val (.int (p0.toInt8.toInt32)), .val (.ref r5), .unset] [])) _
      refine XS.iloadN X17.here hx rfl (hb hby at_8) rfl ?_
      exact kt
    obtain ⟨_, _, ⟨T19, L19, k19, n19⟩, -, X19, ⟨Lc19, hQ19, l19, y19, z19⟩, st19⟩ := Jvm.LawKit.callS X17 hx (y := (⟨"com/example/logward/logward/log/RecordTypeOfCodePinLaw", "expected", "(B)Lcom/example/logward/logward/log/RecordType;"⟩ : MethodName)) hown (mvT hZ (hw _ (List.mem_of_getElem? (i := 28) rfl))) (mvT hZ (hw _ (List.mem_of_getElem? (i := 29) rfl))) (mvT hZ (hw _ (List.mem_of_getElem? (i := 30) rfl))) (mvT hZ (hw _ (List.mem_of_getElem? (i := 31) rfl))) (by decide) (backOf (W := 0) (rmX l Z a0 hw [] (p0.toInt8.toInt32) r1 r2 r3 r4 r5 r6 r7 (.ref r5) T17.heap n0 Z18 (S_r1.ext (hO.keep K17 all0).2) (S_r2.ext (hO.keep K17 all0).2) (S_r3.ext (hO.keep K17 all0).2) (S_r4.ext (hO.keep K17 all0).2) (S_r5.ext (hO.keep K17 all0).2) (S_r6.ext (hO.keep K17 all0).2) (S_r7.ext (hO.keep K17 all0).2) hrv) hZ (hw _ (List.mem_of_getElem? (i := 31) rfl)) (hw _ (List.mem_of_getElem? (i := 30) rfl)) (by decide) (by decide)) (g := (mkF m 9 #[.val (.int p0), .val (.int (p0.toInt8.toInt32)), .val (.ref r5), .unset] [(.int (p0.toInt8.toInt32))])) rfl (by rw [hml]; rfl) (argsL := [(.int (p0.toInt8.toInt32))]) (rest := []) (lenOf pd__28B_29Lcom_2fexample_2flogward_2flogward_2flog_2fRecordType_3b rfl) rfl (by show 2 * 0 + _ ≤ _; exact Nat.le_of_eq rfl) (hb hby at_9) (fun _ _ => ⟨rfl, rfl, (by decide : 1 + 0 ≤ _), (by decide : 7 + 0 ≤ _)⟩)
    dsimp only [Pt.U, Pt.locs, Pt.cells, Pt.slots] at X19 l19 y19 z19 st19 hQ19
    obtain ⟨rfl, N19q, e19⟩ := hQ19
    obtain ⟨lc19, X19, N19⟩ := own_pack X19 l19 y19 z19 N17 N19q (C := 1) (S' := 7) rfl rfl
    refine own_thr (a := T19.setTop (mkF m 12 #[.val (.int p0), .val (.int (p0.toInt8.toInt32)), .val (.ref r5), .unset] [(.ref r5)])) (fun t kt => st19 t kt) ?_
    refine own_thr (a := T19.setTop (mkF m 15 #[.val (.int p0), .val (.int (p0.toInt8.toInt32)), .val (.ref r5), .val (.ref r5)] [(.ref r5), (.ref r5)])) (fun t kt => ?_) ?_
    · show Steps p.tables e below (T19.setTop (mkF m 12 #[.val (.int p0), .val (.int (p0.toInt8.toInt32)), .val (.ref r5), .unset] [(.ref r5)])) _
      refine XS.astoreN X19.here hx rfl (hb hby at_12) rfl rfl (l' := #[.val (.int p0), .val (.int (p0.toInt8.toInt32)), .val (.ref r5), .val (.ref r5)]) rfl ?_
      show Steps p.tables e below (T19.setTop (mkF m 13 #[.val (.int p0), .val (.int (p0.toInt8.toInt32)), .val (.ref r5), .val (.ref r5)] [])) _
      refine XS.aloadN X19.here hx rfl (hb hby at_13) rfl rfl ?_
      show Steps p.tables e below (T19.setTop (mkF m 14 #[.val (.int p0), .val (.int (p0.toInt8.toInt32)), .val (.ref r5), .val (.ref r5)] [(.ref r5)])) _
      refine XS.aloadN X19.here hx rfl (hb hby at_14) rfl rfl ?_
      exact kt
    refine own_thr (a := T19.setTop (mkF m 25 #[.val (.int p0), .val (.int (p0.toInt8.toInt32)), .val (.ref r5), .val (.ref r5)] [(.ref r5)])) (fun t kt => ?_) ?_
    · show Steps p.tables e below (T19.setTop (mkF m 15 #[.val (.int p0), .val (.int (p0.toInt8.toInt32)), .val (.ref r5), .val (.ref r5)] [(.ref r5), (.ref r5)])) _
      refine Jvm.RoadKit.acmp (g := (mkF m 15 #[.val (.int p0), .val (.int (p0.toInt8.toInt32)), .val (.ref r5), .val (.ref r5)] [(.ref r5), (.ref r5)])) X19 hx rfl rfl rfl (pc0 := 15) (pc' := 20) (same := true) rfl (hb hby at_15) rfl (decide_eq_true rfl) (by decide) (by decide) ?_
      show Steps p.tables e below (T19.setTop (mkF m 20 #[.val (.int p0), .val (.int (p0.toInt8.toInt32)), .val (.ref r5), .val (.ref r5)] [])) _
      refine XS.aloadN X19.here hx rfl (hb hby at_20) rfl rfl ?_
      show Steps p.tables e below (T19.setTop (mkF m 21 #[.val (.int p0), .val (.int (p0.toInt8.toInt32)), .val (.ref r5), .val (.ref r5)] [(.ref r5)])) _
      refine XS.ifnullNo X19.here hx rfl (hb hby at_21) rfl ?_
      show Steps p.tables e below (T19.setTop (mkF m 24 #[.val (.int p0), .val (.int (p0.toInt8.toInt32)), .val (.ref r5), .val (.ref r5)] [])) _
      refine XS.aloadN X19.here hx rfl (hb hby at_24) rfl rfl ?_
      exact kt
    obtain ⟨cq20, kq20, q20a, q20b, q20c⟩ := isOf hZ e19 (E_r5.keep K17)
    obtain ⟨_, _, ⟨T20, L20, k20, n20⟩, -, X20, ⟨Lc20, hQ20, l20, y20, z20⟩, st20⟩ := X19.virtualBack hx (y := (⟨"com/example/logward/logward/log/RecordType", "code", "()B"⟩ : MethodName)) (z := (⟨"com/example/logward/logward/log/RecordType", "code", "()B"⟩ : MethodName)) hown (mvT hZ (hw _ (List.mem_of_getElem? (i := 33) rfl))) (mvT hZ (hw _ (List.mem_of_getElem? (i := 34) rfl))) (notFace_of_selects (args := #[]) (mvT hZ (hw _ (List.mem_of_getElem? (i := 36) rfl)))) (mvT hZ (hw _ (List.mem_of_getElem? (i := 36) rfl))) (mvT hZ (hw _ (List.mem_of_getElem? (i := 35) rfl))) (by decide) (backOf (W := 0) (rmC l Z a0 hw [] r5 (5 : Int32) T17.heap n0 Z18 (F_r5.keep K17 nin0)) hZ (hw _ (List.mem_of_getElem? (i := 37) rfl)) (hw _ (List.mem_of_getElem? (i := 2) rfl)) (by decide) (by decide)) q20a q20c (g := (mkF m 25 #[.val (.int p0), .val (.int (p0.toInt8.toInt32)), .val (.ref r5), .val (.ref r5)] [(.ref r5)])) rfl (by rw [hml]; rfl) (Steps.refl _) (argsL := []) (rest := []) (lenOf pd__28_29B rfl) rfl (by show 2 * 0 + _ ≤ _; exact Nat.le_of_eq rfl) (hb hby at_25) (fun _ _ => ⟨rfl, e19, (by decide : 1 + 0 ≤ _), (by decide : 7 + 0 ≤ _)⟩)
    dsimp only [Pt.U, Pt.locs, Pt.cells, Pt.slots] at X20 l20 y20 z20 st20 hQ20
    obtain ⟨rfl, N20q, e20⟩ := hQ20
    obtain ⟨lc20, X20, N20⟩ := own_pack X20 l20 y20 z20 N19 N20q (C := 1) (S' := 7) rfl rfl
    refine own_thr (a := T20.setTop (mkF m 28 #[.val (.int p0), .val (.int (p0.toInt8.toInt32)), .val (.ref r5), .val (.ref r5)] [(.int (nar .byte (5 : Int32)))])) (fun t kt => st20.trans kt) ?_
    refine own_thr (a := T20.setTop (mkF m 37 #[.val (.int p0), .val (.int (p0.toInt8.toInt32)), .val (.ref r5), .val (.ref r5)] [(.int (1 : Int32))])) (fun t kt => ?_) ?_
    · show Steps p.tables e below (T20.setTop (mkF m 28 #[.val (.int p0), .val (.int (p0.toInt8.toInt32)), .val (.ref r5), .val (.ref r5)] [(.int (nar .byte (5 : Int32)))])) _
      refine XS.iloadN X20.here hx rfl (hb hby at_28) rfl ?_
      show Steps p.tables e below (T20.setTop (mkF m 29 #[.val (.int p0), .val (.int (p0.toInt8.toInt32)), .val (.ref r5), .val (.ref r5)] [(.int (p0.toInt8.toInt32)), (.int (nar .byte (5 : Int32)))])) _
      refine XS.icmpNo X20.here hx rfl (hb hby at_29) rfl (teq (by rw [hbb]; decide)).2 ?_
      show Steps p.tables e below (T20.setTop (mkF m 32 #[.val (.int p0), .val (.int (p0.toInt8.toInt32)), .val (.ref r5), .val (.ref r5)] [])) _
      refine XS.iconst X20.here hx rfl (hb hby at_32) ?_
      show Steps p.tables e below (T20.setTop (mkF m 33 #[.val (.int p0), .val (.int (p0.toInt8.toInt32)), .val (.ref r5), .val (.ref r5)] [(.int (1 : Int32))])) _
      refine XS.goto X20.here hx rfl (pc0 := 33) (pc' := 37) rfl (hb hby at_33) (by decide) (by decide) ?_
      exact kt
    exact own_end X20 hlk (v := some (.int (1 : Int32))) (fun h => by rw [Bd.returns] at h; cases h) (fun fs hr => retN X20 hx (t := .boolean) Bd.returns (by simp) (hb hby at_37) hr) ⟨rfl, N20⟩ (by decide : 1 ≤ _) (by decide : 7 ≤ _)
  · obtain ⟨_, _, ⟨T21, L21, k21, n21⟩, -, X21, ⟨Lc21, hQ21, l21, y21, z21⟩, st21⟩ := Jvm.LawKit.callS X0 hx (y := (⟨"com/example/logward/logward/log/RecordType", "ofCode", "(B)Lcom/example/logward/logward/log/RecordType;"⟩ : MethodName)) hown (mvT hZ (hw _ (List.mem_of_getElem? (i := 0) rfl))) (mvT hZ (hw _ (List.mem_of_getElem? (i := 1) rfl))) (mvT hZ (hw _ (List.mem_of_getElem? (i := 2) rfl))) (mvT hZ (hw _ (List.mem_of_getElem? (i := 3) rfl))) (by decide) (backOf (W := 0) (rmO l Z a0 hw [] (p0.toInt8.toInt32) va kv r1 r2 r3 r4 r5 r6 r7 (.ref r6) h0 n0 Z0 S_V V_va E_va hfit hO F_r1 F_r2 F_r3 F_r4 F_r5 F_r6 F_r7 hrv) hZ (hw _ (List.mem_of_getElem? (i := 3) rfl)) (hw _ (List.mem_of_getElem? (i := 2) rfl)) (by decide) (by decide)) (g := (mkF m 4 #[.val (.int p0), .val (.int (p0.toInt8.toInt32)), .unset, .unset] [(.int (p0.toInt8.toInt32))])) rfl (by rw [hml]; rfl) (argsL := [(.int (p0.toInt8.toInt32))]) (rest := []) (lenOf pd__28B_29Lcom_2fexample_2flogward_2flogward_2flog_2fRecordType_3b rfl) rfl (by show 2 * 0 + _ ≤ _; exact Nat.le_of_eq rfl) (hb hby at_4) (fun _ _ => ⟨rfl, e0, (by decide : 0 + 1 ≤ _), (by decide : 0 + 7 ≤ _)⟩)
    dsimp only [Pt.U, Pt.locs, Pt.cells, Pt.slots] at X21 l21 y21 z21 st21 hQ21
    obtain ⟨rfl, N21q, K21⟩ := hQ21
    have Z22 : n0 ≤ T21.heap.size := Nat.le_trans Z0 K21.1
    have Z22h : h0.size ≤ T21.heap.size := Nat.le_trans (Nat.le_refl h0.size) K21.1
    obtain ⟨lc21, X21, N21⟩ := own_pack X21 l21 y21 z21 N0 N21q (C := 1) (S' := 7) rfl rfl
    refine own_thr (a := T21.setTop (mkF m 7 #[.val (.int p0), .val (.int (p0.toInt8.toInt32)), .unset, .unset] [(.ref r6)])) (fun t kt => st21 t kt) ?_
    refine own_thr (a := T21.setTop (mkF m 9 #[.val (.int p0), .val (.int (p0.toInt8.toInt32)), .val (.ref r6), .unset] [(.int (p0.toInt8.toInt32))])) (fun t kt => ?_) ?_
    · show Steps p.tables e below (T21.setTop (mkF m 7 #[.val (.int p0), .val (.int (p0.toInt8.toInt32)), .unset, .unset] [(.ref r6)])) _
      refine XS.astoreN X21.here hx rfl (hb hby at_7) rfl rfl (l' := #[.val (.int p0), .val (.int (p0.toInt8.toInt32)), .val (.ref r6), .unset]) rfl ?_
      show Steps p.tables e below (T21.setTop (mkF m 8 #[.val (.int p0), .val (.int (p0.toInt8.toInt32)), .val (.ref r6), .unset] [])) _
      refine XS.iloadN X21.here hx rfl (hb hby at_8) rfl ?_
      exact kt
    obtain ⟨_, _, ⟨T23, L23, k23, n23⟩, -, X23, ⟨Lc23, hQ23, l23, y23, z23⟩, st23⟩ := Jvm.LawKit.callS X21 hx (y := (⟨"com/example/logward/logward/log/RecordTypeOfCodePinLaw", "expected", "(B)Lcom/example/logward/logward/log/RecordType;"⟩ : MethodName)) hown (mvT hZ (hw _ (List.mem_of_getElem? (i := 28) rfl))) (mvT hZ (hw _ (List.mem_of_getElem? (i := 29) rfl))) (mvT hZ (hw _ (List.mem_of_getElem? (i := 30) rfl))) (mvT hZ (hw _ (List.mem_of_getElem? (i := 31) rfl))) (by decide) (backOf (W := 0) (rmX l Z a0 hw [] (p0.toInt8.toInt32) r1 r2 r3 r4 r5 r6 r7 (.ref r6) T21.heap n0 Z22 (S_r1.ext (hO.keep K21 all0).2) (S_r2.ext (hO.keep K21 all0).2) (S_r3.ext (hO.keep K21 all0).2) (S_r4.ext (hO.keep K21 all0).2) (S_r5.ext (hO.keep K21 all0).2) (S_r6.ext (hO.keep K21 all0).2) (S_r7.ext (hO.keep K21 all0).2) hrv) hZ (hw _ (List.mem_of_getElem? (i := 31) rfl)) (hw _ (List.mem_of_getElem? (i := 30) rfl)) (by decide) (by decide)) (g := (mkF m 9 #[.val (.int p0), .val (.int (p0.toInt8.toInt32)), .val (.ref r6), .unset] [(.int (p0.toInt8.toInt32))])) rfl (by rw [hml]; rfl) (argsL := [(.int (p0.toInt8.toInt32))]) (rest := []) (lenOf pd__28B_29Lcom_2fexample_2flogward_2flogward_2flog_2fRecordType_3b rfl) rfl (by show 2 * 0 + _ ≤ _; exact Nat.le_of_eq rfl) (hb hby at_9) (fun _ _ => ⟨rfl, rfl, (by decide : 1 + 0 ≤ _), (by decide : 7 + 0 ≤ _)⟩)
    dsimp only [Pt.U, Pt.locs, Pt.cells, Pt.slots] at X23 l23 y23 z23 st23 hQ23
    obtain ⟨rfl, N23q, e23⟩ := hQ23
    obtain ⟨lc23, X23, N23⟩ := own_pack X23 l23 y23 z23 N21 N23q (C := 1) (S' := 7) rfl rfl
    refine own_thr (a := T23.setTop (mkF m 12 #[.val (.int p0), .val (.int (p0.toInt8.toInt32)), .val (.ref r6), .unset] [(.ref r6)])) (fun t kt => st23 t kt) ?_
    refine own_thr (a := T23.setTop (mkF m 15 #[.val (.int p0), .val (.int (p0.toInt8.toInt32)), .val (.ref r6), .val (.ref r6)] [(.ref r6), (.ref r6)])) (fun t kt => ?_) ?_
    · show Steps p.tables e below (T23.setTop (mkF m 12 #[.val (.int p0), .val (.int (p0.toInt8.toInt32)), .val (.ref r6), .unset] [(.ref r6)])) _
      refine XS.astoreN X23.here hx rfl (hb hby at_12) rfl rfl (l' := #[.val (.int p0), .val (.int (p0.toInt8.toInt32)), .val (.ref r6), .val (.ref r6)]) rfl ?_
      show Steps p.tables e below (T23.setTop (mkF m 13 #[.val (.int p0), .val (.int (p0.toInt8.toInt32)), .val (.ref r6), .val (.ref r6)] [])) _
      refine XS.aloadN X23.here hx rfl (hb hby at_13) rfl rfl ?_
      show Steps p.tables e below (T23.setTop (mkF m 14 #[.val (.int p0), .val (.int (p0.toInt8.toInt32)), .val (.ref r6), .val (.ref r6)] [(.ref r6)])) _
      refine XS.aloadN X23.here hx rfl (hb hby at_14) rfl rfl ?_
      exact kt
    refine own_thr (a := T23.setTop (mkF m 25 #[.val (.int p0), .val (.int (p0.toInt8.toInt32)), .val (.ref r6), .val (.ref r6)] [(.ref r6)])) (fun t kt => ?_) ?_
    · show Steps p.tables e below (T23.setTop (mkF m 15 #[.val (.int p0), .val (.int (p0.toInt8.toInt32)), .val (.ref r6), .val (.ref r6)] [(.ref r6), (.ref r6)])) _
      refine Jvm.RoadKit.acmp (g := (mkF m 15 #[.val (.int p0), .val (.int (p0.toInt8.toInt32)), .val (.ref r6), .val (.ref r6)] [(.ref r6), (.ref r6)])) X23 hx rfl rfl rfl (pc0 := 15) (pc' := 20) (same := true) rfl (hb hby at_15) rfl (decide_eq_true rfl) (by decide) (by decide) ?_
      show Steps p.tables e below (T23.setTop (mkF m 20 #[.val (.int p0), .val (.int (p0.toInt8.toInt32)), .val (.ref r6), .val (.ref r6)] [])) _
      refine XS.aloadN X23.here hx rfl (hb hby at_20) rfl rfl ?_
      show Steps p.tables e below (T23.setTop (mkF m 21 #[.val (.int p0), .val (.int (p0.toInt8.toInt32)), .val (.ref r6), .val (.ref r6)] [(.ref r6)])) _
      refine XS.ifnullNo X23.here hx rfl (hb hby at_21) rfl ?_
      show Steps p.tables e below (T23.setTop (mkF m 24 #[.val (.int p0), .val (.int (p0.toInt8.toInt32)), .val (.ref r6), .val (.ref r6)] [])) _
      refine XS.aloadN X23.here hx rfl (hb hby at_24) rfl rfl ?_
      exact kt
    obtain ⟨cq24, kq24, q24a, q24b, q24c⟩ := isOf hZ e23 (E_r6.keep K21)
    obtain ⟨_, _, ⟨T24, L24, k24, n24⟩, -, X24, ⟨Lc24, hQ24, l24, y24, z24⟩, st24⟩ := X23.virtualBack hx (y := (⟨"com/example/logward/logward/log/RecordType", "code", "()B"⟩ : MethodName)) (z := (⟨"com/example/logward/logward/log/RecordType", "code", "()B"⟩ : MethodName)) hown (mvT hZ (hw _ (List.mem_of_getElem? (i := 33) rfl))) (mvT hZ (hw _ (List.mem_of_getElem? (i := 34) rfl))) (notFace_of_selects (args := #[]) (mvT hZ (hw _ (List.mem_of_getElem? (i := 36) rfl)))) (mvT hZ (hw _ (List.mem_of_getElem? (i := 36) rfl))) (mvT hZ (hw _ (List.mem_of_getElem? (i := 35) rfl))) (by decide) (backOf (W := 0) (rmC l Z a0 hw [] r6 (6 : Int32) T21.heap n0 Z22 (F_r6.keep K21 nin0)) hZ (hw _ (List.mem_of_getElem? (i := 37) rfl)) (hw _ (List.mem_of_getElem? (i := 2) rfl)) (by decide) (by decide)) q24a q24c (g := (mkF m 25 #[.val (.int p0), .val (.int (p0.toInt8.toInt32)), .val (.ref r6), .val (.ref r6)] [(.ref r6)])) rfl (by rw [hml]; rfl) (Steps.refl _) (argsL := []) (rest := []) (lenOf pd__28_29B rfl) rfl (by show 2 * 0 + _ ≤ _; exact Nat.le_of_eq rfl) (hb hby at_25) (fun _ _ => ⟨rfl, e23, (by decide : 1 + 0 ≤ _), (by decide : 7 + 0 ≤ _)⟩)
    dsimp only [Pt.U, Pt.locs, Pt.cells, Pt.slots] at X24 l24 y24 z24 st24 hQ24
    obtain ⟨rfl, N24q, e24⟩ := hQ24
    obtain ⟨lc24, X24, N24⟩ := own_pack X24 l24 y24 z24 N23 N24q (C := 1) (S' := 7) rfl rfl
    refine own_thr (a := T24.setTop (mkF m 28 #[.val (.int p0), .val (.int (p0.toInt8.toInt32)), .val (.ref r6), .val (.ref r6)] [(.int (nar .byte (6 : Int32)))])) (fun t kt => st24.trans kt) ?_
    refine own_thr (a := T24.setTop (mkF m 37 #[.val (.int p0), .val (.int (p0.toInt8.toInt32)), .val (.ref r6), .val (.ref r6)] [(.int (1 : Int32))])) (fun t kt => ?_) ?_
    · show Steps p.tables e below (T24.setTop (mkF m 28 #[.val (.int p0), .val (.int (p0.toInt8.toInt32)), .val (.ref r6), .val (.ref r6)] [(.int (nar .byte (6 : Int32)))])) _
      refine XS.iloadN X24.here hx rfl (hb hby at_28) rfl ?_
      show Steps p.tables e below (T24.setTop (mkF m 29 #[.val (.int p0), .val (.int (p0.toInt8.toInt32)), .val (.ref r6), .val (.ref r6)] [(.int (p0.toInt8.toInt32)), (.int (nar .byte (6 : Int32)))])) _
      refine XS.icmpNo X24.here hx rfl (hb hby at_29) rfl (teq (by rw [hbb]; decide)).2 ?_
      show Steps p.tables e below (T24.setTop (mkF m 32 #[.val (.int p0), .val (.int (p0.toInt8.toInt32)), .val (.ref r6), .val (.ref r6)] [])) _
      refine XS.iconst X24.here hx rfl (hb hby at_32) ?_
      show Steps p.tables e below (T24.setTop (mkF m 33 #[.val (.int p0), .val (.int (p0.toInt8.toInt32)), .val (.ref r6), .val (.ref r6)] [(.int (1 : Int32))])) _
      refine XS.goto X24.here hx rfl (pc0 := 33) (pc' := 37) rfl (hb hby at_33) (by decide) (by decide) ?_
      exact kt
    exact own_end X24 hlk (v := some (.int (1 : Int32))) (fun h => by rw [Bd.returns] at h; cases h) (fun fs hr => retN X24 hx (t := .boolean) Bd.returns (by simp) (hb hby at_37) hr) ⟨rfl, N24⟩ (by decide : 1 ≤ _) (by decide : 7 ≤ _)
  · obtain ⟨_, _, ⟨T25, L25, k25, n25⟩, -, X25, ⟨Lc25, hQ25, l25, y25, z25⟩, st25⟩ := Jvm.LawKit.callS X0 hx (y := (⟨"com/example/logward/logward/log/RecordType", "ofCode", "(B)Lcom/example/logward/logward/log/RecordType;"⟩ : MethodName)) hown (mvT hZ (hw _ (List.mem_of_getElem? (i := 0) rfl))) (mvT hZ (hw _ (List.mem_of_getElem? (i := 1) rfl))) (mvT hZ (hw _ (List.mem_of_getElem? (i := 2) rfl))) (mvT hZ (hw _ (List.mem_of_getElem? (i := 3) rfl))) (by decide) (backOf (W := 0) (rmO l Z a0 hw [] (p0.toInt8.toInt32) va kv r1 r2 r3 r4 r5 r6 r7 (.ref r7) h0 n0 Z0 S_V V_va E_va hfit hO F_r1 F_r2 F_r3 F_r4 F_r5 F_r6 F_r7 hrv) hZ (hw _ (List.mem_of_getElem? (i := 3) rfl)) (hw _ (List.mem_of_getElem? (i := 2) rfl)) (by decide) (by decide)) (g := (mkF m 4 #[.val (.int p0), .val (.int (p0.toInt8.toInt32)), .unset, .unset] [(.int (p0.toInt8.toInt32))])) rfl (by rw [hml]; rfl) (argsL := [(.int (p0.toInt8.toInt32))]) (rest := []) (lenOf pd__28B_29Lcom_2fexample_2flogward_2flogward_2flog_2fRecordType_3b rfl) rfl (by show 2 * 0 + _ ≤ _; exact Nat.le_of_eq rfl) (hb hby at_4) (fun _ _ => ⟨rfl, e0, (by decide : 0 + 1 ≤ _), (by decide : 0 + 7 ≤ _)⟩)
    dsimp only [Pt.U, Pt.locs, Pt.cells, Pt.slots] at X25 l25 y25 z25 st25 hQ25
    obtain ⟨rfl, N25q, K25⟩ := hQ25
    have Z26 : n0 ≤ T25.heap.size := Nat.le_trans Z0 K25.1
    have Z26h : h0.size ≤ T25.heap.size := Nat.le_trans (Nat.le_refl h0.size) K25.1
    obtain ⟨lc25, X25, N25⟩ := own_pack X25 l25 y25 z25 N0 N25q (C := 1) (S' := 7) rfl rfl
    refine own_thr (a := T25.setTop (mkF m 7 #[.val (.int p0), .val (.int (p0.toInt8.toInt32)), .unset, .unset] [(.ref r7)])) (fun t kt => st25 t kt) ?_
    refine own_thr (a := T25.setTop (mkF m 9 #[.val (.int p0), .val (.int (p0.toInt8.toInt32)), .val (.ref r7), .unset] [(.int (p0.toInt8.toInt32))])) (fun t kt => ?_) ?_
    · show Steps p.tables e below (T25.setTop (mkF m 7 #[.val (.int p0), .val (.int (p0.toInt8.toInt32)), .unset, .unset] [(.ref r7)])) _
      refine XS.astoreN X25.here hx rfl (hb hby at_7) rfl rfl (l' := #[.val (.int p0), .val (.int (p0.toInt8.toInt32)), .val (.ref r7), .unset]) rfl ?_
      show Steps p.tables e below (T25.setTop (mkF m 8 #[.val (.int p0), .val (.int (p0.toInt8.toInt32)), .val (.ref r7), .unset] [])) _
      refine XS.iloadN X25.here hx rfl (hb hby at_8) rfl ?_
      exact kt
    obtain ⟨_, _, ⟨T27, L27, k27, n27⟩, -, X27, ⟨Lc27, hQ27, l27, y27, z27⟩, st27⟩ := Jvm.LawKit.callS X25 hx (y := (⟨"com/example/logward/logward/log/RecordTypeOfCodePinLaw", "expected", "(B)Lcom/example/logward/logward/log/RecordType;"⟩ : MethodName)) hown (mvT hZ (hw _ (List.mem_of_getElem? (i := 28) rfl))) (mvT hZ (hw _ (List.mem_of_getElem? (i := 29) rfl))) (mvT hZ (hw _ (List.mem_of_getElem? (i := 30) rfl))) (mvT hZ (hw _ (List.mem_of_getElem? (i := 31) rfl))) (by decide) (backOf (W := 0) (rmX l Z a0 hw [] (p0.toInt8.toInt32) r1 r2 r3 r4 r5 r6 r7 (.ref r7) T25.heap n0 Z26 (S_r1.ext (hO.keep K25 all0).2) (S_r2.ext (hO.keep K25 all0).2) (S_r3.ext (hO.keep K25 all0).2) (S_r4.ext (hO.keep K25 all0).2) (S_r5.ext (hO.keep K25 all0).2) (S_r6.ext (hO.keep K25 all0).2) (S_r7.ext (hO.keep K25 all0).2) hrv) hZ (hw _ (List.mem_of_getElem? (i := 31) rfl)) (hw _ (List.mem_of_getElem? (i := 30) rfl)) (by decide) (by decide)) (g := (mkF m 9 #[.val (.int p0), .val (.int (p0.toInt8.toInt32)), .val (.ref r7), .unset] [(.int (p0.toInt8.toInt32))])) rfl (by rw [hml]; rfl) (argsL := [(.int (p0.toInt8.toInt32))]) (rest := []) (lenOf pd__28B_29Lcom_2fexample_2flogward_2flogward_2flog_2fRecordType_3b rfl) rfl (by show 2 * 0 + _ ≤ _; exact Nat.le_of_eq rfl) (hb hby at_9) (fun _ _ => ⟨rfl, rfl, (by decide : 1 + 0 ≤ _), (by decide : 7 + 0 ≤ _)⟩)
    dsimp only [Pt.U, Pt.locs, Pt.cells, Pt.slots] at X27 l27 y27 z27 st27 hQ27
    obtain ⟨rfl, N27q, e27⟩ := hQ27
    obtain ⟨lc27, X27, N27⟩ := own_pack X27 l27 y27 z27 N25 N27q (C := 1) (S' := 7) rfl rfl
    refine own_thr (a := T27.setTop (mkF m 12 #[.val (.int p0), .val (.int (p0.toInt8.toInt32)), .val (.ref r7), .unset] [(.ref r7)])) (fun t kt => st27 t kt) ?_
    refine own_thr (a := T27.setTop (mkF m 15 #[.val (.int p0), .val (.int (p0.toInt8.toInt32)), .val (.ref r7), .val (.ref r7)] [(.ref r7), (.ref r7)])) (fun t kt => ?_) ?_
    · show Steps p.tables e below (T27.setTop (mkF m 12 #[.val (.int p0), .val (.int (p0.toInt8.toInt32)), .val (.ref r7), .unset] [(.ref r7)])) _
      refine XS.astoreN X27.here hx rfl (hb hby at_12) rfl rfl (l' := #[.val (.int p0), .val (.int (p0.toInt8.toInt32)), .val (.ref r7), .val (.ref r7)]) rfl ?_
      show Steps p.tables e below (T27.setTop (mkF m 13 #[.val (.int p0), .val (.int (p0.toInt8.toInt32)), .val (.ref r7), .val (.ref r7)] [])) _
      refine XS.aloadN X27.here hx rfl (hb hby at_13) rfl rfl ?_
      show Steps p.tables e below (T27.setTop (mkF m 14 #[.val (.int p0), .val (.int (p0.toInt8.toInt32)), .val (.ref r7), .val (.ref r7)] [(.ref r7)])) _
      refine XS.aloadN X27.here hx rfl (hb hby at_14) rfl rfl ?_
      exact kt
    refine own_thr (a := T27.setTop (mkF m 25 #[.val (.int p0), .val (.int (p0.toInt8.toInt32)), .val (.ref r7), .val (.ref r7)] [(.ref r7)])) (fun t kt => ?_) ?_
    · show Steps p.tables e below (T27.setTop (mkF m 15 #[.val (.int p0), .val (.int (p0.toInt8.toInt32)), .val (.ref r7), .val (.ref r7)] [(.ref r7), (.ref r7)])) _
      refine Jvm.RoadKit.acmp (g := (mkF m 15 #[.val (.int p0), .val (.int (p0.toInt8.toInt32)), .val (.ref r7), .val (.ref r7)] [(.ref r7), (.ref r7)])) X27 hx rfl rfl rfl (pc0 := 15) (pc' := 20) (same := true) rfl (hb hby at_15) rfl (decide_eq_true rfl) (by decide) (by decide) ?_
      show Steps p.tables e below (T27.setTop (mkF m 20 #[.val (.int p0), .val (.int (p0.toInt8.toInt32)), .val (.ref r7), .val (.ref r7)] [])) _
      refine XS.aloadN X27.here hx rfl (hb hby at_20) rfl rfl ?_
      show Steps p.tables e below (T27.setTop (mkF m 21 #[.val (.int p0), .val (.int (p0.toInt8.toInt32)), .val (.ref r7), .val (.ref r7)] [(.ref r7)])) _
      refine XS.ifnullNo X27.here hx rfl (hb hby at_21) rfl ?_
      show Steps p.tables e below (T27.setTop (mkF m 24 #[.val (.int p0), .val (.int (p0.toInt8.toInt32)), .val (.ref r7), .val (.ref r7)] [])) _
      refine XS.aloadN X27.here hx rfl (hb hby at_24) rfl rfl ?_
      exact kt
    obtain ⟨cq28, kq28, q28a, q28b, q28c⟩ := isOf hZ e27 (E_r7.keep K25)
    obtain ⟨_, _, ⟨T28, L28, k28, n28⟩, -, X28, ⟨Lc28, hQ28, l28, y28, z28⟩, st28⟩ := X27.virtualBack hx (y := (⟨"com/example/logward/logward/log/RecordType", "code", "()B"⟩ : MethodName)) (z := (⟨"com/example/logward/logward/log/RecordType", "code", "()B"⟩ : MethodName)) hown (mvT hZ (hw _ (List.mem_of_getElem? (i := 33) rfl))) (mvT hZ (hw _ (List.mem_of_getElem? (i := 34) rfl))) (notFace_of_selects (args := #[]) (mvT hZ (hw _ (List.mem_of_getElem? (i := 36) rfl)))) (mvT hZ (hw _ (List.mem_of_getElem? (i := 36) rfl))) (mvT hZ (hw _ (List.mem_of_getElem? (i := 35) rfl))) (by decide) (backOf (W := 0) (rmC l Z a0 hw [] r7 (7 : Int32) T25.heap n0 Z26 (F_r7.keep K25 nin0)) hZ (hw _ (List.mem_of_getElem? (i := 37) rfl)) (hw _ (List.mem_of_getElem? (i := 2) rfl)) (by decide) (by decide)) q28a q28c (g := (mkF m 25 #[.val (.int p0), .val (.int (p0.toInt8.toInt32)), .val (.ref r7), .val (.ref r7)] [(.ref r7)])) rfl (by rw [hml]; rfl) (Steps.refl _) (argsL := []) (rest := []) (lenOf pd__28_29B rfl) rfl (by show 2 * 0 + _ ≤ _; exact Nat.le_of_eq rfl) (hb hby at_25) (fun _ _ => ⟨rfl, e27, (by decide : 1 + 0 ≤ _), (by decide : 7 + 0 ≤ _)⟩)
    dsimp only [Pt.U, Pt.locs, Pt.cells, Pt.slots] at X28 l28 y28 z28 st28 hQ28
    obtain ⟨rfl, N28q, e28⟩ := hQ28
    obtain ⟨lc28, X28, N28⟩ := own_pack X28 l28 y28 z28 N27 N28q (C := 1) (S' := 7) rfl rfl
    refine own_thr (a := T28.setTop (mkF m 28 #[.val (.int p0), .val (.int (p0.toInt8.toInt32)), .val (.ref r7), .val (.ref r7)] [(.int (nar .byte (7 : Int32)))])) (fun t kt => st28.trans kt) ?_
    refine own_thr (a := T28.setTop (mkF m 37 #[.val (.int p0), .val (.int (p0.toInt8.toInt32)), .val (.ref r7), .val (.ref r7)] [(.int (1 : Int32))])) (fun t kt => ?_) ?_
    · show Steps p.tables e below (T28.setTop (mkF m 28 #[.val (.int p0), .val (.int (p0.toInt8.toInt32)), .val (.ref r7), .val (.ref r7)] [(.int (nar .byte (7 : Int32)))])) _
      refine XS.iloadN X28.here hx rfl (hb hby at_28) rfl ?_
      show Steps p.tables e below (T28.setTop (mkF m 29 #[.val (.int p0), .val (.int (p0.toInt8.toInt32)), .val (.ref r7), .val (.ref r7)] [(.int (p0.toInt8.toInt32)), (.int (nar .byte (7 : Int32)))])) _
      refine XS.icmpNo X28.here hx rfl (hb hby at_29) rfl (teq (by rw [hbb]; decide)).2 ?_
      show Steps p.tables e below (T28.setTop (mkF m 32 #[.val (.int p0), .val (.int (p0.toInt8.toInt32)), .val (.ref r7), .val (.ref r7)] [])) _
      refine XS.iconst X28.here hx rfl (hb hby at_32) ?_
      show Steps p.tables e below (T28.setTop (mkF m 33 #[.val (.int p0), .val (.int (p0.toInt8.toInt32)), .val (.ref r7), .val (.ref r7)] [(.int (1 : Int32))])) _
      refine XS.goto X28.here hx rfl (pc0 := 33) (pc' := 37) rfl (hb hby at_33) (by decide) (by decide) ?_
      exact kt
    exact own_end X28 hlk (v := some (.int (1 : Int32))) (fun h => by rw [Bd.returns] at h; cases h) (fun fs hr => retN X28 hx (t := .boolean) Bd.returns (by simp) (hb hby at_37) hr) ⟨rfl, N28⟩ (by decide : 1 ≤ _) (by decide : 7 ≤ _)
  · obtain ⟨_, _, ⟨T29, L29, k29, n29⟩, -, X29, ⟨Lc29, hQ29, l29, y29, z29⟩, st29⟩ := Jvm.LawKit.callS X0 hx (y := (⟨"com/example/logward/logward/log/RecordType", "ofCode", "(B)Lcom/example/logward/logward/log/RecordType;"⟩ : MethodName)) hown (mvT hZ (hw _ (List.mem_of_getElem? (i := 0) rfl))) (mvT hZ (hw _ (List.mem_of_getElem? (i := 1) rfl))) (mvT hZ (hw _ (List.mem_of_getElem? (i := 2) rfl))) (mvT hZ (hw _ (List.mem_of_getElem? (i := 3) rfl))) (by decide) (backOf (W := 0) (rmO l Z a0 hw [] (p0.toInt8.toInt32) va kv r1 r2 r3 r4 r5 r6 r7 .null h0 n0 Z0 S_V V_va E_va hfit hO F_r1 F_r2 F_r3 F_r4 F_r5 F_r6 F_r7 hrv) hZ (hw _ (List.mem_of_getElem? (i := 3) rfl)) (hw _ (List.mem_of_getElem? (i := 2) rfl)) (by decide) (by decide)) (g := (mkF m 4 #[.val (.int p0), .val (.int (p0.toInt8.toInt32)), .unset, .unset] [(.int (p0.toInt8.toInt32))])) rfl (by rw [hml]; rfl) (argsL := [(.int (p0.toInt8.toInt32))]) (rest := []) (lenOf pd__28B_29Lcom_2fexample_2flogward_2flogward_2flog_2fRecordType_3b rfl) rfl (by show 2 * 0 + _ ≤ _; exact Nat.le_of_eq rfl) (hb hby at_4) (fun _ _ => ⟨rfl, e0, (by decide : 0 + 1 ≤ _), (by decide : 0 + 7 ≤ _)⟩)
    dsimp only [Pt.U, Pt.locs, Pt.cells, Pt.slots] at X29 l29 y29 z29 st29 hQ29
    obtain ⟨rfl, N29q, K29⟩ := hQ29
    have Z30 : n0 ≤ T29.heap.size := Nat.le_trans Z0 K29.1
    have Z30h : h0.size ≤ T29.heap.size := Nat.le_trans (Nat.le_refl h0.size) K29.1
    obtain ⟨lc29, X29, N29⟩ := own_pack X29 l29 y29 z29 N0 N29q (C := 1) (S' := 7) rfl rfl
    refine own_thr (a := T29.setTop (mkF m 7 #[.val (.int p0), .val (.int (p0.toInt8.toInt32)), .unset, .unset] [.null])) (fun t kt => st29 t kt) ?_
    refine own_thr (a := T29.setTop (mkF m 9 #[.val (.int p0), .val (.int (p0.toInt8.toInt32)), .val .null, .unset] [(.int (p0.toInt8.toInt32))])) (fun t kt => ?_) ?_
    · show Steps p.tables e below (T29.setTop (mkF m 7 #[.val (.int p0), .val (.int (p0.toInt8.toInt32)), .unset, .unset] [.null])) _
      refine XS.astoreN X29.here hx rfl (hb hby at_7) rfl rfl (l' := #[.val (.int p0), .val (.int (p0.toInt8.toInt32)), .val .null, .unset]) rfl ?_
      show Steps p.tables e below (T29.setTop (mkF m 8 #[.val (.int p0), .val (.int (p0.toInt8.toInt32)), .val .null, .unset] [])) _
      refine XS.iloadN X29.here hx rfl (hb hby at_8) rfl ?_
      exact kt
    obtain ⟨_, _, ⟨T31, L31, k31, n31⟩, -, X31, ⟨Lc31, hQ31, l31, y31, z31⟩, st31⟩ := Jvm.LawKit.callS X29 hx (y := (⟨"com/example/logward/logward/log/RecordTypeOfCodePinLaw", "expected", "(B)Lcom/example/logward/logward/log/RecordType;"⟩ : MethodName)) hown (mvT hZ (hw _ (List.mem_of_getElem? (i := 28) rfl))) (mvT hZ (hw _ (List.mem_of_getElem? (i := 29) rfl))) (mvT hZ (hw _ (List.mem_of_getElem? (i := 30) rfl))) (mvT hZ (hw _ (List.mem_of_getElem? (i := 31) rfl))) (by decide) (backOf (W := 0) (rmX l Z a0 hw [] (p0.toInt8.toInt32) r1 r2 r3 r4 r5 r6 r7 .null T29.heap n0 Z30 (S_r1.ext (hO.keep K29 all0).2) (S_r2.ext (hO.keep K29 all0).2) (S_r3.ext (hO.keep K29 all0).2) (S_r4.ext (hO.keep K29 all0).2) (S_r5.ext (hO.keep K29 all0).2) (S_r6.ext (hO.keep K29 all0).2) (S_r7.ext (hO.keep K29 all0).2) hrv) hZ (hw _ (List.mem_of_getElem? (i := 31) rfl)) (hw _ (List.mem_of_getElem? (i := 30) rfl)) (by decide) (by decide)) (g := (mkF m 9 #[.val (.int p0), .val (.int (p0.toInt8.toInt32)), .val .null, .unset] [(.int (p0.toInt8.toInt32))])) rfl (by rw [hml]; rfl) (argsL := [(.int (p0.toInt8.toInt32))]) (rest := []) (lenOf pd__28B_29Lcom_2fexample_2flogward_2flogward_2flog_2fRecordType_3b rfl) rfl (by show 2 * 0 + _ ≤ _; exact Nat.le_of_eq rfl) (hb hby at_9) (fun _ _ => ⟨rfl, rfl, (by decide : 1 + 0 ≤ _), (by decide : 7 + 0 ≤ _)⟩)
    dsimp only [Pt.U, Pt.locs, Pt.cells, Pt.slots] at X31 l31 y31 z31 st31 hQ31
    obtain ⟨rfl, N31q, e31⟩ := hQ31
    obtain ⟨lc31, X31, N31⟩ := own_pack X31 l31 y31 z31 N29 N31q (C := 1) (S' := 7) rfl rfl
    refine own_thr (a := T31.setTop (mkF m 12 #[.val (.int p0), .val (.int (p0.toInt8.toInt32)), .val .null, .unset] [.null])) (fun t kt => st31 t kt) ?_
    refine own_thr (a := T31.setTop (mkF m 15 #[.val (.int p0), .val (.int (p0.toInt8.toInt32)), .val .null, .val .null] [.null, .null])) (fun t kt => ?_) ?_
    · show Steps p.tables e below (T31.setTop (mkF m 12 #[.val (.int p0), .val (.int (p0.toInt8.toInt32)), .val .null, .unset] [.null])) _
      refine XS.astoreN X31.here hx rfl (hb hby at_12) rfl rfl (l' := #[.val (.int p0), .val (.int (p0.toInt8.toInt32)), .val .null, .val .null]) rfl ?_
      show Steps p.tables e below (T31.setTop (mkF m 13 #[.val (.int p0), .val (.int (p0.toInt8.toInt32)), .val .null, .val .null] [])) _
      refine XS.aloadN X31.here hx rfl (hb hby at_13) rfl rfl ?_
      show Steps p.tables e below (T31.setTop (mkF m 14 #[.val (.int p0), .val (.int (p0.toInt8.toInt32)), .val .null, .val .null] [.null])) _
      refine XS.aloadN X31.here hx rfl (hb hby at_14) rfl rfl ?_
      exact kt
    refine own_thr (a := T31.setTop (mkF m 37 #[.val (.int p0), .val (.int (p0.toInt8.toInt32)), .val .null, .val .null] [(.int (1 : Int32))])) (fun t kt => ?_) ?_
    · show Steps p.tables e below (T31.setTop (mkF m 15 #[.val (.int p0), .val (.int (p0.toInt8.toInt32)), .val .null, .val .null] [.null, .null])) _
      refine Jvm.RoadKit.acmp (g := (mkF m 15 #[.val (.int p0), .val (.int (p0.toInt8.toInt32)), .val .null, .val .null] [.null, .null])) X31 hx rfl rfl rfl (pc0 := 15) (pc' := 20) (same := true) rfl (hb hby at_15) rfl (decide_eq_true rfl) (by decide) (by decide) ?_
      show Steps p.tables e below (T31.setTop (mkF m 20 #[.val (.int p0), .val (.int (p0.toInt8.toInt32)), .val .null, .val .null] [])) _
      refine XS.aloadN X31.here hx rfl (hb hby at_20) rfl rfl ?_
      show Steps p.tables e below (T31.setTop (mkF m 21 #[.val (.int p0), .val (.int (p0.toInt8.toInt32)), .val .null, .val .null] [.null])) _
      refine XS.ifnullYes X31.here hx rfl (pc0 := 21) (pc' := 32) rfl (hb hby at_21) rfl (by decide) (by decide) ?_
      show Steps p.tables e below (T31.setTop (mkF m 32 #[.val (.int p0), .val (.int (p0.toInt8.toInt32)), .val .null, .val .null] [])) _
      refine XS.iconst X31.here hx rfl (hb hby at_32) ?_
      show Steps p.tables e below (T31.setTop (mkF m 33 #[.val (.int p0), .val (.int (p0.toInt8.toInt32)), .val .null, .val .null] [(.int (1 : Int32))])) _
      refine XS.goto X31.here hx rfl (pc0 := 33) (pc' := 37) rfl (hb hby at_33) (by decide) (by decide) ?_
      exact kt
    exact own_end X31 hlk (v := some (.int (1 : Int32))) (fun h => by rw [Bd.returns] at h; cases h) (fun fs hr => retN X31 hx (t := .boolean) Bd.returns (by simp) (hb hby at_37) hr) ⟨rfl, N31⟩ (by decide : 1 ≤ _) (by decide : 7 ≤ _)
set_option maxRecDepth 65536 in
set_option maxHeartbeats 40000000 in
theorem comes_1 {Post : Tables → Env → Array Value → State → Outcome → State → Prop} (hpost : ∀ tb e args s v u, (limb_1_1.after args s (.returned v) u = true ∧ limb_1_2.after args s (.returned v) u = true ∧ True) → FrameEnd s (.returned v) u (Jvm.fieldLocs frame_1_writes args s ++ Jvm.arrayLocs frame_1_arrays args s ++ Jvm.staticLocs frame_1_statics s) 16 128 → Post tb e args s (.returned v) u) :
    ArmFor flags0 classFile x code maxLocals ret World_1 tables_1 room_1 Calls_1 rest_1 Pre_1 Post := by
  intro l hfl _ _ p e ha hc hk s m args below hf hA hF happ hP
  obtain ⟨hcalls, hrest, hpre⟩ := hP
  obtain ⟨-, -, -, hnamed, -, -, -, hat⟩ := (Spec.applies_iff hf).mp happ
  obtain ⟨hg, hn⟩ := and_e (Cond.before_iff.mp (show (Jvm.Cond.and given_1 narrow_1).before args s = true from hpre))
  obtain ⟨g1, g2⟩ := and_e hg
  obtain ⟨w0, rfl⟩ : ∃ w0 : Value, args = #[w0] := by
    have hs : args.size = 1 := by simpa [Cond.value, given_1] using g1
    obtain ⟨L⟩ := args
    match L, hs with
    | [w0], _ => exact ⟨w0, rfl⟩
  have hw := fun d (hd : d ∈ tables_1) => atoms_spec (ws := Jvm.Cond.code x code maxLocals ret :: tables_1) hat d (List.mem_cons_of_mem _ hd)
  have hfit : Fit s := fun {y c} hc i hi => by
    obtain ⟨ha, rfl⟩ := Array.getElem?_eq_some_iff.mp hc
    have q := List.all_eq_true.mp ((Array.all_eq_true_iff_forall_mem.mp hF) _ (Array.getElem_mem ha)) i (List.mem_range.mpr hi)
    simpa [Array.getElem?_eq_getElem hi] using q
  obtain ⟨i0, ei0⟩ := is_v g2
  obtain rfl : w0 = (.int i0) := Option.some.inj ei0
  unfold narrow_1 at hn
  obtain ⟨m1, hn⟩ := and_e hn
  obtain ⟨m2, hn⟩ := and_e hn
  obtain ⟨m3, hn⟩ := and_e hn
  obtain ⟨x1, hn⟩ := and_e hn
  obtain ⟨y1, hn⟩ := and_e hn
  obtain ⟨x2, hn⟩ := and_e hn
  obtain ⟨y2, hn⟩ := and_e hn
  obtain ⟨x3, hn⟩ := and_e hn
  obtain ⟨y3, hn⟩ := and_e hn
  obtain ⟨x4, hn⟩ := and_e hn
  obtain ⟨y4, hn⟩ := and_e hn
  obtain ⟨x5, hn⟩ := and_e hn
  obtain ⟨y5, hn⟩ := and_e hn
  obtain ⟨x6, hn⟩ := and_e hn
  obtain ⟨y6, hn⟩ := and_e hn
  obtain ⟨x7, hn⟩ := and_e hn
  obtain ⟨y7, hn⟩ := and_e hn
  obtain ⟨z1, hn⟩ := and_e hn
  obtain ⟨z2, hn⟩ := and_e hn
  obtain ⟨z3, hn⟩ := and_e hn
  obtain ⟨z4, hn⟩ := and_e hn
  obtain ⟨z5, hn⟩ := and_e hn
  obtain ⟨z6, hn⟩ := and_e hn
  have z7 := hn
  obtain ⟨va, eva⟩ := arr_v m1
  obtain ⟨clv, Av⟩ := Arr.start eva m1
  have E_va := Exa.start eva m2
  have S_V : Sta s s.heap "com/example/logward/logward/log/RecordType" "$VALUES" "[Lcom/example/logward/logward/log/RecordType;" (.ref va) := Sta.start eva (Or.inl (hw _ (List.mem_of_getElem? (i := 23) rfl)))
  obtain ⟨r1, er1⟩ := exa_v x1
  have E_r1 := Exa.start er1 x1
  have S_r1 := Sta.start er1 (Or.inr ⟨(hw _ (List.mem_of_getElem? (i := 2) rfl)), (hw _ (List.mem_of_getElem? (i := 16) rfl))⟩)
  have F_r1 := own_fldI z1 er1
  obtain ⟨r2, er2⟩ := exa_v x2
  have E_r2 := Exa.start er2 x2
  have S_r2 := Sta.start er2 (Or.inr ⟨(hw _ (List.mem_of_getElem? (i := 2) rfl)), (hw _ (List.mem_of_getElem? (i := 17) rfl))⟩)
  have F_r2 := own_fldI z2 er2
  obtain ⟨r3, er3⟩ := exa_v x3
  have E_r3 := Exa.start er3 x3
  have S_r3 := Sta.start er3 (Or.inr ⟨(hw _ (List.mem_of_getElem? (i := 2) rfl)), (hw _ (List.mem_of_getElem? (i := 18) rfl))⟩)
  have F_r3 := own_fldI z3 er3
  obtain ⟨r4, er4⟩ := exa_v x4
  have E_r4 := Exa.start er4 x4
  have S_r4 := Sta.start er4 (Or.inr ⟨(hw _ (List.mem_of_getElem? (i := 2) rfl)), (hw _ (List.mem_of_getElem? (i := 19) rfl))⟩)
  have F_r4 := own_fldI z4 er4
  obtain ⟨r5, er5⟩ := exa_v x5
  have E_r5 := Exa.start er5 x5
  have S_r5 := Sta.start er5 (Or.inr ⟨(hw _ (List.mem_of_getElem? (i := 2) rfl)), (hw _ (List.mem_of_getElem? (i := 20) rfl))⟩)
  have F_r5 := own_fldI z5 er5
  obtain ⟨r6, er6⟩ := exa_v x6
  have E_r6 := Exa.start er6 x6
  have S_r6 := Sta.start er6 (Or.inr ⟨(hw _ (List.mem_of_getElem? (i := 2) rfl)), (hw _ (List.mem_of_getElem? (i := 21) rfl))⟩)
  have F_r6 := own_fldI z6 er6
  obtain ⟨r7, er7⟩ := exa_v x7
  have E_r7 := Exa.start er7 x7
  have S_r7 := Sta.start er7 (Or.inr ⟨(hw _ (List.mem_of_getElem? (i := 2) rfl)), (hw _ (List.mem_of_getElem? (i := 22) rfl))⟩)
  have F_r7 := own_fldI z7 er7
  obtain ⟨hl1, hl2⟩ := own_len eva Av m3
  have V_va : Arv s s.heap va clv.cls (.object "com/example/logward/logward/log/RecordType") (7 : Int32) [(.ref r1), (.ref r2), (.ref r3), (.ref r4), (.ref r5), (.ref r6), (.ref r7)] .null := Arv.start hfit Av hl2 hl1 (by decide) rfl ⟨own_elR y1 eva Av er1, own_elR y2 eva Av er2, own_elR y3 eva Av er3, own_elR y4 eva Av er4, own_elR y5 eva Av er5, own_elR y6 eva Av er6, own_elR y7 eva Av er7, trivial⟩
  obtain ⟨n, o, h1, h2, h3, _, L, rfl, ⟨rfl, N⟩, hq⟩ := rm0 l s _ hw tables_1 i0 va _ r1 r2 r3 r4 r5 r6 r7 s.heap s.heap.size (Nat.le_refl _) S_V V_va E_va hfit (Old.start s) F_r1 F_r2 F_r3 F_r4 F_r5 F_r6 F_r7 S_r1 S_r2 S_r3 S_r4 S_r5 S_r6 S_r7 E_r1 E_r2 E_r3 E_r4 E_r5 E_r6 E_r7 p e ha hc hk s m _ below hf ((Spec.applies_iff_loose hf).mp happ).1 ⟨rfl, State.Warmed39.refl s, rfl⟩ trivial
  refine ⟨n, _, h1, h2, h3, hpost _ _ _ _ _ _ ⟨Cond.after_iff.mpr rfl, Cond.after_iff.mpr (eq_i res_at (Term.int_eval (1)) rfl), trivial⟩ ⟨hq.1, hq.2.1, (hq.2.2.sift fun y hy => Or.inr (N y hy)).mono (by decide) (by decide)⟩⟩
theorem main_1_1 : Claimed_1_1 := comes_1 fun _ _ _ _ _ _ h hF => ⟨h.1, hF⟩
theorem main_1_2 : Claimed_1_2 := comes_1 fun _ _ _ _ _ _ h hF => ⟨h.2.1, hF⟩
end Jvm.Pilot.@@N@@
namespace Jvm.Pilot.@@N@@
open Jvm Jvm.ClassFile Sem Op Lib Jvm.Free Jvm.Stand Jvm.Pilot.@@N@@.Jvm.D
/-! MADE BY PROGRAM (witnessworld.py) out of the Statement's table words and the real class files: 13 classes; the members and pool entries that the words name. The judged class is class 1, her method 2. -/
namespace start1
open Jvm.ClassFile
def u (s : String) : CpInfo := .utf8 (stringToUtf16 s)
/-- a pool by its gaps: so many unusable entries, then the entry; so many at the end -/
def gap : Nat → List CpInfo → List CpInfo
  | 0, r => r
  | n + 1, r => .unusable :: gap n r
def poolList (es : List (Nat × CpInfo)) (last : Nat) : List CpInfo := es.foldr (fun e r => gap e.1 (e.2 :: r)) (gap last [])
def pool (es : List (Nat × CpInfo)) (last : Nat) : Array CpInfo := ⟨poolList es last⟩
def fileOf (pool : Array CpInfo) (this : Nat) (attrs : Array Attribute := #[]) (ms : Array MethodInfo := #[]) (fl : Nat := 33) (sup : Nat := 0) (ifs : Array Nat := #[]) (fds : Array FieldInfo := #[]) : ClassFile where
  minorVersion := 0
  majorVersion := 65
  constantPool := pool
  accessFlags := fl
  thisClass := this
  superClass := sup
  interfaces := ifs
  fields := fds
  methods := ms
  attributes := attrs
def plain (name : String) (sup : Option ClassId) : Class where
  name := name
  kind := .ordinary
  loader := none
  accessFlags := 33
  super := sup
  interfaces := #[]
  cf := none
  fields := #[]
  methods := #[]
  instanceTypes := #[]
  staticTypes := #[]
  resolved := #[]
  callSites := []
  init := .initialized
  statics := none
  mirror := none

def pool0 : Array CpInfo := pool [(5, u "<init>"), (0, u "()V"), (1, .class_ 10), (1, u "java/lang/Object"), (85, u "clone"), (0, u "()Ljava/lang/Object;")] 26

def k0m0 : Method := { name := "<init>", desc := "()V", sig := { parameters := [], returnType := none }, accessFlags := 1, code := none }
def k0m1 : Method := { name := "clone", desc := "()Ljava/lang/Object;", sig := { parameters := [], returnType := some (.object "java/lang/Object") }, accessFlags := 260, code := none }
/-- java/lang/Object -/
def k0 : Class := { plain "java/lang/Object" none with
  accessFlags := 33
  interfaces := #[]
  cf := some (fileOf pool0 8 #[] #[{ accessFlags := 1, nameIndex := 5, descriptorIndex := 6, attributes := #[] }, { accessFlags := 260, nameIndex := 96, descriptorIndex := 97, attributes := #[] }] 33 0 #[] #[])
  fields := #[]
  methods := #[k0m0, k0m1]
  instanceTypes := #[]
  staticTypes := #[]
  resolved := Array.replicate 124 none
  statics := none }

def pool1 : Array CpInfo := pool [(2, .class_ 4), (1, u "java/lang/Object"), (0, u "<init>"), (0, u "()V"), (0, .fieldref 8 9), (0, .class_ 10), (0, .nameAndType 11 12), (0, u "com/example/logward/logward/log/RecordType"), (0, u "BEGIN"), (0, u "Lcom/example/logward/logward/log/RecordType;"), (0, .fieldref 8 14), (0, .nameAndType 15 12), (0, u "UPDATE"), (0, .fieldref 8 17), (0, .nameAndType 18 12), (0, u "COMMIT"), (0, .fieldref 8 20), (0, .nameAndType 21 12), (0, u "ABORT"), (0, .fieldref 8 23), (0, .nameAndType 24 12), (0, u "COMPENSATION"), (0, .fieldref 8 26), (0, .nameAndType 27 12), (0, u "CLOSE"), (0, .fieldref 8 29), (0, .nameAndType 30 12), (0, u "CHECKPOINT"), (0, .methodref 8 32), (0, .nameAndType 33 34), (0, u "ofCode"), (0, u "(B)Lcom/example/logward/logward/log/RecordType;"), (0, .methodref 36 37), (0, .class_ 38), (0, .nameAndType 39 34), (0, u "com/example/logward/logward/log/RecordTypeOfCodePinLaw"), (0, u "expected"), (0, .methodref 8 41), (0, .nameAndType 42 43), (0, u "code"), (0, u "()B"), (3, u "law"), (0, u "(I)Z")] 2

def k1m0 : Method := { name := "<init>", desc := "()V", sig := { parameters := [], returnType := none }, accessFlags := 2, code := none }
def k1c1 : Code := { maxStack := 2, maxLocals := 1, code := method_2_code, exceptionTable := #[], attributes := #[] }
def k1m1 : Method := { name := "expected", desc := "(B)Lcom/example/logward/logward/log/RecordType;", sig := { parameters := [.byte], returnType := some (.object "com/example/logward/logward/log/RecordType") }, accessFlags := 10, code := some k1c1 }
def k1c2 : Code := { maxStack := 2, maxLocals := 4, code := code, exceptionTable := #[], attributes := #[] }
def k1m2 : Method := { name := "law", desc := "(I)Z", sig := { parameters := [.int], returnType := some .boolean }, accessFlags := 9, code := some k1c2 }
/-- com/example/logward/logward/log/RecordTypeOfCodePinLaw -/
def k1 : Class := { plain "com/example/logward/logward/log/RecordTypeOfCodePinLaw" (some 0) with
  accessFlags := 49
  interfaces := #[]
  cf := some (fileOf pool1 36 #[] #[{ accessFlags := 2, nameIndex := 5, descriptorIndex := 6, attributes := #[] }, { accessFlags := 10, nameIndex := 39, descriptorIndex := 34, attributes := #[] }, { accessFlags := 9, nameIndex := 47, descriptorIndex := 48, attributes := #[] }] 49 2 #[] #[])
  fields := #[]
  methods := #[k1m0, k1m1, k1m2]
  instanceTypes := #[]
  staticTypes := #[]
  resolved := Array.replicate 51 none
  statics := none }

def pool2 : Array CpInfo := pool [(1, .class_ 2), (0, u "java/lang/constant/Constable"), (0, .class_ 4), (0, u "java/lang/Object")] 6

/-- java/lang/constant/Constable -/
def k2 : Class := { plain "java/lang/constant/Constable" (some 0) with
  accessFlags := 1537
  interfaces := #[]
  cf := some (fileOf pool2 1 #[] #[] 1537 3 #[] #[])
  fields := #[]
  methods := #[]
  instanceTypes := #[]
  staticTypes := #[]
  resolved := Array.replicate 11 none
  statics := none }

def pool3 : Array CpInfo := pool [(1, .class_ 2), (0, u "java/lang/Comparable"), (0, .class_ 4), (0, u "java/lang/Object")] 7

/-- java/lang/Comparable -/
def k3 : Class := { plain "java/lang/Comparable" (some 0) with
  accessFlags := 1537
  interfaces := #[]
  cf := some (fileOf pool3 1 #[] #[] 1537 3 #[] #[])
  fields := #[]
  methods := #[]
  instanceTypes := #[]
  staticTypes := #[]
  resolved := Array.replicate 12 none
  statics := none }

def pool4 : Array CpInfo := pool [(1, .class_ 2), (0, u "java/io/Serializable"), (0, .class_ 4), (0, u "java/lang/Object")] 2

/-- java/io/Serializable -/
def k4 : Class := { plain "java/io/Serializable" (some 0) with
  accessFlags := 1537
  interfaces := #[]
  cf := some (fileOf pool4 1 #[] #[] 1537 3 #[] #[])
  fields := #[]
  methods := #[]
  instanceTypes := #[]
  staticTypes := #[]
  resolved := Array.replicate 7 none
  statics := none }

def pool5 : Array CpInfo := pool [(2, .class_ 4), (1, u "java/lang/Enum"), (0, u "name"), (0, u "Ljava/lang/String;"), (2, u "ordinal"), (0, u "I"), (1, .class_ 14), (1, u "java/lang/Object"), (4, u "hash"), (86, .class_ 108), (1, u "java/lang/Enum$EnumDesc"), (2, .class_ 112), (0, u "java/lang/constant/Constable"), (0, .class_ 114), (0, u "java/lang/Comparable"), (0, .class_ 116), (0, u "java/io/Serializable")] 87

/-- java/lang/Enum -/
def k5 : Class := { plain "java/lang/Enum" (some 0) with
  accessFlags := 1057
  interfaces := #[2, 3, 4]
  cf := some (fileOf pool5 2 #[.nestMembers #[106]] #[] 1057 12 #[111, 113, 115] #[{ accessFlags := 18, nameIndex := 5, descriptorIndex := 6, attributes := #[] }, { accessFlags := 18, nameIndex := 9, descriptorIndex := 10, attributes := #[] }, { accessFlags := 2, nameIndex := 19, descriptorIndex := 10, attributes := #[] }])
  fields := #[{ name := "name", type := (.object "java/lang/String"), accessFlags := 18, slot := 0, constantValue := 0 }, { name := "ordinal", type := .int, accessFlags := 18, slot := 1, constantValue := 0 }, { name := "hash", type := .int, accessFlags := 2, slot := 2, constantValue := 0 }]
  methods := #[]
  instanceTypes := #[(.object "java/lang/String"), .int, .int]
  staticTypes := #[]
  resolved := Array.replicate 204 none
  statics := none }

def pool6 : Array CpInfo := pool [(1, .class_ 2), (0, u "com/example/logward/logward/log/RecordType"), (2, u "BEGIN"), (0, u "Lcom/example/logward/logward/log/RecordType;"), (2, u "UPDATE"), (2, u "COMMIT"), (2, u "ABORT"), (2, u "COMPENSATION"), (2, u "CLOSE"), (2, u "CHECKPOINT"), (0, .fieldref 1 26), (0, .nameAndType 27 28), (0, u "$VALUES"), (0, u "[Lcom/example/logward/logward/log/RecordType;"), (0, .methodref 30 31), (0, .class_ 28), (0, .nameAndType 32 33), (0, u "clone"), (0, u "()Ljava/lang/Object;"), (1, .class_ 37), (1, u "java/lang/Enum"), (6, .fieldref 1 45), (0, .nameAndType 46 47), (0, u "code"), (0, u "B"), (0, .class_ 49), (0, u "com/example/logward/logward/log/RecordType$Part"), (18, u "parts"), (0, u "Ljava/util/Set;"), (14, .methodref 1 85), (0, .nameAndType 86 87), (0, u "values"), (0, u "()[Lcom/example/logward/logward/log/RecordType;"), (33, u "()B"), (0, u "ofCode"), (0, u "(B)Lcom/example/logward/logward/log/RecordType;")] 8

def k6c0 : Code := { maxStack := 1, maxLocals := 0, code := prog_35_method_1_code, exceptionTable := #[], attributes := #[] }
def k6m0 : Method := { name := "values", desc := "()[Lcom/example/logward/logward/log/RecordType;", sig := { parameters := [], returnType := some (.array (.object "com/example/logward/logward/log/RecordType")) }, accessFlags := 9, code := some k6c0 }
def k6c1 : Code := { maxStack := 1, maxLocals := 1, code := prog_35_method_6_code, exceptionTable := #[], attributes := #[] }
def k6m1 : Method := { name := "code", desc := "()B", sig := { parameters := [], returnType := some .byte }, accessFlags := 0, code := some k6c1 }
def k6c2 : Code := { maxStack := 2, maxLocals := 5, code := prog_35_method_7_code, exceptionTable := #[], attributes := #[] }
def k6m2 : Method := { name := "ofCode", desc := "(B)Lcom/example/logward/logward/log/RecordType;", sig := { parameters := [.byte], returnType := some (.object "com/example/logward/logward/log/RecordType") }, accessFlags := 8, code := some k6c2 }
/-- com/example/logward/logward/log/RecordType -/
def k6 : Class := { plain "com/example/logward/logward/log/RecordType" (some 5) with
  accessFlags := 16433
  interfaces := #[]
  cf := some (fileOf pool6 1 #[.nestMembers #[48]] #[{ accessFlags := 9, nameIndex := 86, descriptorIndex := 87, attributes := #[] }, { accessFlags := 0, nameIndex := 46, descriptorIndex := 121, attributes := #[] }, { accessFlags := 8, nameIndex := 122, descriptorIndex := 123, attributes := #[] }] 16433 35 #[] #[{ accessFlags := 16409, nameIndex := 5, descriptorIndex := 6, attributes := #[] }, { accessFlags := 16409, nameIndex := 9, descriptorIndex := 6, attributes := #[] }, { accessFlags := 16409, nameIndex := 12, descriptorIndex := 6, attributes := #[] }, { accessFlags := 16409, nameIndex := 15, descriptorIndex := 6, attributes := #[] }, { accessFlags := 16409, nameIndex := 18, descriptorIndex := 6, attributes := #[] }, { accessFlags := 16409, nameIndex := 21, descriptorIndex := 6, attributes := #[] }, { accessFlags := 16409, nameIndex := 24, descriptorIndex := 6, attributes := #[] }, { accessFlags := 18, nameIndex := 46, descriptorIndex := 47, attributes := #[] }, { accessFlags := 18, nameIndex := 68, descriptorIndex := 69, attributes := #[] }, { accessFlags := 4122, nameIndex := 27, descriptorIndex := 28, attributes := #[] }])
  fields := #[{ name := "BEGIN", type := (.object "com/example/logward/logward/log/RecordType"), accessFlags := 16409, slot := 0, constantValue := 0 }, { name := "UPDATE", type := (.object "com/example/logward/logward/log/RecordType"), accessFlags := 16409, slot := 1, constantValue := 0 }, { name := "COMMIT", type := (.object "com/example/logward/logward/log/RecordType"), accessFlags := 16409, slot := 2, constantValue := 0 }, { name := "ABORT", type := (.object "com/example/logward/logward/log/RecordType"), accessFlags := 16409, slot := 3, constantValue := 0 }, { name := "COMPENSATION", type := (.object "com/example/logward/logward/log/RecordType"), accessFlags := 16409, slot := 4, constantValue := 0 }, { name := "CLOSE", type := (.object "com/example/logward/logward/log/RecordType"), accessFlags := 16409, slot := 5, constantValue := 0 }, { name := "CHECKPOINT", type := (.object "com/example/logward/logward/log/RecordType"), accessFlags := 16409, slot := 6, constantValue := 0 }, { name := "code", type := .byte, accessFlags := 18, slot := 3, constantValue := 0 }, { name := "parts", type := (.object "java/util/Set"), accessFlags := 18, slot := 4, constantValue := 0 }, { name := "$VALUES", type := (.array (.object "com/example/logward/logward/log/RecordType")), accessFlags := 4122, slot := 7, constantValue := 0 }]
  methods := #[k6m0, k6m1, k6m2]
  instanceTypes := #[(.object "java/lang/String"), .int, .int, .byte, (.object "java/util/Set")]
  staticTypes := #[(.object "com/example/logward/logward/log/RecordType"), (.object "com/example/logward/logward/log/RecordType"), (.object "com/example/logward/logward/log/RecordType"), (.object "com/example/logward/logward/log/RecordType"), (.object "com/example/logward/logward/log/RecordType"), (.object "com/example/logward/logward/log/RecordType"), (.object "com/example/logward/logward/log/RecordType"), (.array (.object "com/example/logward/logward/log/RecordType"))]
  resolved := Array.replicate 132 none
  statics := some 0 }

def pool7 : Array CpInfo := pool [(1, .class_ 2), (0, u "java/lang/Cloneable"), (0, .class_ 4), (0, u "java/lang/Object")] 2

/-- java/lang/Cloneable -/
def k7 : Class := { plain "java/lang/Cloneable" (some 0) with
  accessFlags := 1537
  interfaces := #[]
  cf := some (fileOf pool7 1 #[] #[] 1537 3 #[] #[])
  fields := #[]
  methods := #[]
  instanceTypes := #[]
  staticTypes := #[]
  resolved := Array.replicate 7 none
  statics := none }

/-- the primitive byte -/
def k8 : Class := { plain "byte" none with kind := .primitive 'B', accessFlags := 0x411 }
/-- [B -/
def k9 : Class := { plain "[B" (some 0) with kind := .array 8 .byte, interfaces := #[7, 4], accessFlags := 1041 }

/-- the primitive int -/
def k10 : Class := { plain "int" none with kind := .primitive 'I', accessFlags := 0x411 }
/-- [I -/
def k11 : Class := { plain "[I" (some 0) with kind := .array 10 .int, interfaces := #[7, 4], accessFlags := 1041 }

/-- [Lcom/example/logward/logward/log/RecordType; -/
def k12 : Class := { plain "[Lcom/example/logward/logward/log/RecordType;" (some 0) with kind := .array 6 (.object "com/example/logward/logward/log/RecordType"), interfaces := #[7, 4], accessFlags := 1041 }

def heap : Heap := #[{ cls := 6, slots := #[.ref 2, .ref 3, .ref 4, .ref 5, .ref 6, .ref 7, .ref 8, .ref 1], vm := .statics 6 },
  { cls := 12, slots := #[.ref 2, .ref 3, .ref 4, .ref 5, .ref 6, .ref 7, .ref 8], vm := .none },
  { cls := 6, slots := #[.null, .int 0, .int 0, .int 1, .null], vm := .none },
  { cls := 6, slots := #[.null, .int 0, .int 0, .int 2, .null], vm := .none },
  { cls := 6, slots := #[.null, .int 0, .int 0, .int 3, .null], vm := .none },
  { cls := 6, slots := #[.null, .int 0, .int 0, .int 4, .null], vm := .none },
  { cls := 6, slots := #[.null, .int 0, .int 0, .int 5, .null], vm := .none },
  { cls := 6, slots := #[.null, .int 0, .int 0, .int 6, .null], vm := .none },
  { cls := 6, slots := #[.null, .int 0, .int 0, .int 7, .null], vm := .none }]
def classes : Array Class := #[k0, k1, k2, k3, k4, k5, k6, k7, k8, k9, k10, k11, k12]
def interned : List (Array UInt16 × Addr) := []
def slotsUsed : Nat := 50
def theMethod : MethodId := ⟨1, 2⟩
def args0 : Array Value := #[.int 5]
def aboutOver (below : List Frame) : State where
  vm := { classes := classes, interned := interned.toArray }
  heap := heap
  slotsUsed := slotsUsed
  threads := #[{ frames := .invoking theMethod args0 :: below }]
def below0 : List Frame := [.native { method := ⟨0, 0⟩, args := #[] }]
def about1 : State := aboutOver below0
def p0 : Program := .bare "" "" ""
def e0 : Env := launch0.env 0 0 0
theorem w_frames : about1.frames = Frame.invoking theMethod args0 :: below0 := rfl
set_option maxRecDepth 65536 in
theorem w_args : argsFit about1.vm theMethod args0 = true := by decide +kernel
set_option maxRecDepth 65536 in
theorem w_heap : heapFits about1 = true := by decide +kernel
set_option maxRecDepth 65536 in
theorem w_runnable : about1.curStatus? = some .runnable := by decide +kernel
set_option maxRecDepth 65536 in
theorem w_alone : about1.alone = true := by decide +kernel
set_option maxRecDepth 65536 in
theorem w_named : about1.methodNamed? x = some theMethod := by decide +kernel
set_option maxRecDepth 65536 in
theorem w_hears : about1.hears theMethod below0 = true := by decide +kernel
set_option maxRecDepth 65536 in
theorem w_ripe : about1.ripe theMethod args0 below0 = true := by decide +kernel
theorem w_running : about1.status = .running := rfl
set_option maxRecDepth 65536 in
theorem w_room : about1.hasRoom e0.platform room_1 = true :=
  launch0.hasRoom_least _ room_1 (by decide +kernel) (by decide +kernel) (by decide +kernel) (by decide +kernel) (by decide +kernel) (by decide +kernel)
theorem allAtoms_all (ts : List Jvm.Cond) (a : Array Jvm.Value) (st : Jvm.State) : (allAtoms ts).before a st = ts.all (fun c => c.before a st) := by
  induction ts with
  | nil => rfl
  | cons c t ih =>
    show (Jvm.Cond.and c (allAtoms t)).before a st = _
    rw [Jvm.Cond.before_and, ih, List.all_cons]
def words1 : List Jvm.Cond := Jvm.Cond.code x code maxLocals ret :: tables_1
/-- a 'code' word, met by the world's own term for the bytes: nothing is compared byte by byte -/
theorem code_word {y : MethodName} {bytes : ByteArray} {mx : Nat} {rt : Option FieldType} {a : Array Value} {s : State} {m : MethodId} {meth : Method} {c : Code} (h1 : s.methodNamed? y = some m) (h2 : s.vm.method? m = some meth) (h3 : meth.code = some c) (h4 : c.code = bytes)
    (h5 : (c.maxLocals == mx && c.exceptionTable.isEmpty && decide (c.maxStack ≤ mostOperands) && decide (meth.sig.returnType = rt) && !meth.locks && decide (parseMethodDescriptor y.desc = some meth.sig)) = true) : (Jvm.Cond.code y bytes mx rt).before a s = true := by
  simp only [Bool.and_eq_true, beq_iff_eq, Bool.not_eq_true', decide_eq_true_eq] at h5
  obtain ⟨⟨⟨⟨⟨g1, g2⟩, g3⟩, g4⟩, g5⟩, g6⟩ := h5
  simp [Cond.before, Cond.holds, Cond.value, h1, h2, h3, h4, g1, g2, g3, g4, g5, g6]
def isCode : Jvm.Cond → Bool
  | .code _ _ _ _ => true
  | _ => false
theorem all_split {L : List Jvm.Cond} {P : Jvm.Cond → Bool} (h1 : L.all (fun c => isCode c || P c) = true) (h2 : ∀ c ∈ L.filter isCode, P c = true) : L.all P = true := by
  refine List.all_eq_true.mpr fun c hc => ?_
  have h := List.all_eq_true.mp h1 c hc
  rcases Bool.eq_false_or_eq_true (isCode c) with hi | hi
  · exact h2 c (List.mem_filter.mpr ⟨hc, hi⟩)
  · simpa [hi] using h
set_option maxRecDepth 65536 in
theorem w_c0 : (Jvm.Cond.code x code maxLocals ret).before args0 about1 = true := code_word (m := ⟨1, 2⟩) (meth := k1m2) (c := k1c2) (by decide +kernel) rfl rfl rfl (by decide +kernel)
set_option maxRecDepth 65536 in
theorem w_c1 : (Jvm.Cond.code ({ cls := "com/example/logward/logward/log/RecordType", name := "ofCode", desc := "(B)Lcom/example/logward/logward/log/RecordType;" } : Jvm.MethodName) prog_35_method_7_code (5 : Nat) (Option.some (Jvm.ClassFile.FieldType.object "com/example/logward/logward/log/RecordType"))).before args0 about1 = true := code_word (m := ⟨6, 2⟩) (meth := k6m2) (c := k6c2) (by decide +kernel) rfl rfl rfl (by decide +kernel)
set_option maxRecDepth 65536 in
theorem w_c2 : (Jvm.Cond.code ({ cls := "com/example/logward/logward/log/RecordType", name := "values", desc := "()[Lcom/example/logward/logward/log/RecordType;" } : Jvm.MethodName) prog_35_method_1_code (0 : Nat) (Option.some (Jvm.ClassFile.FieldType.array (Jvm.ClassFile.FieldType.object "com/example/logward/logward/log/RecordType")))).before args0 about1 = true := code_word (m := ⟨6, 0⟩) (meth := k6m0) (c := k6c0) (by decide +kernel) rfl rfl rfl (by decide +kernel)
set_option maxRecDepth 65536 in
theorem w_c3 : (Jvm.Cond.code ({ cls := "com/example/logward/logward/log/RecordTypeOfCodePinLaw", name := "expected", desc := "(B)Lcom/example/logward/logward/log/RecordType;" } : Jvm.MethodName) method_2_code (1 : Nat) (Option.some (Jvm.ClassFile.FieldType.object "com/example/logward/logward/log/RecordType"))).before args0 about1 = true := code_word (m := ⟨1, 1⟩) (meth := k1m1) (c := k1c1) (by decide +kernel) rfl rfl rfl (by decide +kernel)
set_option maxRecDepth 65536 in
theorem w_c4 : (Jvm.Cond.code ({ cls := "com/example/logward/logward/log/RecordType", name := "code", desc := "()B" } : Jvm.MethodName) prog_35_method_6_code (1 : Nat) (Option.some Jvm.ClassFile.FieldType.byte)).before args0 about1 = true := code_word (m := ⟨6, 1⟩) (meth := k6m1) (c := k6c1) (by decide +kernel) rfl rfl rfl (by decide +kernel)
def codes1 : List Jvm.Cond := [Jvm.Cond.code x code maxLocals ret, Jvm.Cond.code ({ cls := "com/example/logward/logward/log/RecordType", name := "ofCode", desc := "(B)Lcom/example/logward/logward/log/RecordType;" } : Jvm.MethodName) prog_35_method_7_code (5 : Nat) (Option.some (Jvm.ClassFile.FieldType.object "com/example/logward/logward/log/RecordType")), Jvm.Cond.code ({ cls := "com/example/logward/logward/log/RecordType", name := "values", desc := "()[Lcom/example/logward/logward/log/RecordType;" } : Jvm.MethodName) prog_35_method_1_code (0 : Nat) (Option.some (Jvm.ClassFile.FieldType.array (Jvm.ClassFile.FieldType.object "com/example/logward/logward/log/RecordType"))), Jvm.Cond.code ({ cls := "com/example/logward/logward/log/RecordTypeOfCodePinLaw", name := "expected", desc := "(B)Lcom/example/logward/logward/log/RecordType;" } : Jvm.MethodName) method_2_code (1 : Nat) (Option.some (Jvm.ClassFile.FieldType.object "com/example/logward/logward/log/RecordType")), Jvm.Cond.code ({ cls := "com/example/logward/logward/log/RecordType", name := "code", desc := "()B" } : Jvm.MethodName) prog_35_method_6_code (1 : Nat) (Option.some Jvm.ClassFile.FieldType.byte)]
set_option maxRecDepth 65536 in
theorem codes_eq : words1.filter isCode = codes1 := rfl
theorem w_codes : ∀ c ∈ words1.filter isCode, c.before args0 about1 = true := by
  rw [codes_eq]
  intro c hc
  simp only [codes1, List.mem_cons, List.not_mem_nil, or_false] at hc
  rcases hc with rfl | rfl | rfl | rfl | rfl
  · exact w_c0
  · exact w_c1
  · exact w_c2
  · exact w_c3
  · exact w_c4
set_option maxRecDepth 65536 in
theorem w_t1 : (words1.take 24).all (fun c => isCode c || c.before args0 about1) = true := by decide +kernel
set_option maxRecDepth 65536 in
theorem w_t2 : (words1.drop 24).all (fun c => isCode c || c.before args0 about1) = true := by decide +kernel
theorem w_tables : (allAtoms (Jvm.Cond.code x code maxLocals ret :: tables_1)).before args0 about1 = true := by
  rw [allAtoms_all]
  show words1.all (fun c => c.before args0 about1) = true
  refine all_split ?_ w_codes
  rw [← List.take_append_drop 24 words1, List.all_append, w_t1, w_t2]
  rfl
set_option maxRecDepth 65536 in
theorem w_case : (Jvm.Cond.and given_1 narrow_1).before args0 about1 = true := by decide +kernel
theorem w_applies : (headSpec (Jvm.Cond.code x code maxLocals ret :: tables_1) room_1).applies x e0.platform about1 = true :=
  (Spec.applies_iff w_frames).mpr ⟨w_running, w_runnable, w_alone, w_named, w_hears, w_ripe, w_room, w_tables⟩
theorem atStart : AtStart classFile x code maxLocals ret World_1 tables_1 room_1 Calls_1 rest_1 Pre_1 launch0 p0 e0 about1 theMethod args0 below0 :=
  ⟨lists_1, trivial, launch0.admits_env _ _ _, launch0.least_env, fairChoices_fair.cas, fairChoices_fair.clock, w_frames, w_args, w_heap, w_applies, trivial, trivial, w_case⟩
end start1
theorem witness_1 : WitnessClaimed_1 := ⟨start1.p0, start1.e0, start1.about1, start1.theMethod, start1.args0, start1.below0, start1.atStart⟩
end Jvm.Pilot.@@N@@
