import JvmDerived
import JvmDerived.Pilot.@@N@@Statement
import JvmDerived.Pilot.@@N@@Code
set_option linter.unusedVariables false
set_option linter.unusedSimpArgs false
@@BLOCK:NumsL.lean.txt@@
namespace Jvm.RoadKit
open Sem ClassFile Op Lib Jvm.Stand Jvm.Free Jvm.LawKit
section New
variable {p : Program} {l : Launch} {e : Env} {R : Room} {s : State} {m : MethodId} {args : Array Value} {below : List Frame} {meth : Method} {c : Code} {T : State} {locs : List Loc} {cells slots : Nat}
theorem retI (X : Stand p l e R s m args below meth c T locs cells slots) (hx : p.tables.exec = Jvm.exec) {pc : Nat} {Ls : Array Slot} {z : Int32} {rest : List Value} (hret : meth.sig.returnType = some .int) (hd : decode c.code pc = .ok (.ireturn, 1)) {fs : List Frame}
    (hl : ∀ (f : JFrame) (acts : List Action), f.method = m → f.locked = none → f.entered = [] → (doReturn e (T.setTop f) acts (some (.int z))).1 = T.setFrames fs) : Steps p.tables e below (T.setTop (mkF m pc Ls (.int z :: rest))) (T.setFrames fs) :=
  retOut X hx hret rfl (Or.inl ⟨rfl, Or.inl rfl, z, rfl⟩) hd hl
theorem retJ (X : Stand p l e R s m args below meth c T locs cells slots) (hx : p.tables.exec = Jvm.exec) {pc : Nat} {Ls : Array Slot} {z : Int64} {rest : List Value} (hret : meth.sig.returnType = some .long) (hd : decode c.code pc = .ok (.lreturn, 1)) {fs : List Frame}
    (hl : ∀ (f : JFrame) (acts : List Action), f.method = m → f.locked = none → f.entered = [] → (doReturn e (T.setTop f) acts (some (.long z))).1 = T.setFrames fs) : Steps p.tables e below (T.setTop (mkF m pc Ls (.long z :: rest))) (T.setFrames fs) :=
  retOut X hx hret rfl (Or.inr (Or.inl ⟨rfl, rfl, z, rfl⟩)) hd hl
theorem retA (X : Stand p l e R s m args below meth c T locs cells slots) (hx : p.tables.exec = Jvm.exec) {pc : Nat} {Ls : Array Slot} {w : Value} {t : FieldType} {rest : List Value} (hret : meth.sig.returnType = some t) (ht : t.isReference = true) (hw : w.isRef = true) (hn : narrow t w = w) (hd : decode c.code pc = .ok (.areturn, 1)) {fs : List Frame}
    (hl : ∀ (f : JFrame) (acts : List Action), f.method = m → f.locked = none → f.entered = [] → (doReturn e (T.setTop f) acts (some w)).1 = T.setFrames fs) : Steps p.tables e below (T.setTop (mkF m pc Ls (w :: rest))) (T.setFrames fs) :=
  retOut X hx hret hn (Or.inr (Or.inr (Or.inr (Or.inr ⟨rfl, ht, hw⟩)))) hd hl
end New
end Jvm.RoadKit
namespace Jvm.Pilot.@@N@@
open Jvm Jvm.ClassFile Sem Op Lib Jvm.Free Jvm.Stand Jvm.LawKit Jvm.RoadKit Bundle Jvm.Pilot.@@N@@.Jvm.D
/-- the run from t ends by returning, as Q and the frame say -/
def OEnds (p : Program) (e : Env) (below : List Frame) (s : State) (Q : Option Value → Heap → List Loc → Prop) (C S : Nat) (t : State) : Prop :=
  ∃ s₂ o, Steps p.tables e below t s₂ ∧ s₂.status = .running ∧ Ended s₂ below o ∧ ∃ v L, o = .returned v ∧ Q v s₂.heap L ∧ FrameEnd s o s₂ L C S
theorem OEnds.go {p : Program} {e : Env} {below : List Frame} {s : State} {Q : Option Value → Heap → List Loc → Prop} {C S : Nat} {t t' : State} (h : ∀ u, Steps p.tables e below t' u → Steps p.tables e below t u) (k : OEnds p e below s Q C S t') : OEnds p e below s Q C S t := by
  obtain ⟨s₂, o, h1, h2⟩ := k
  exact ⟨s₂, o, h _ h1, h2⟩
theorem OEnds.cut {p : Program} {e : Env} {below : List Frame} {s : State} {Q : Option Value → Heap → List Loc → Prop} {C S : Nat} {t : State} (P : (State → Prop) → Prop) (k2 : P (OEnds p e below s Q C S)) (k1 : P (OEnds p e below s Q C S) → OEnds p e below s Q C S t) : OEnds p e below s Q C S t := k1 k2
theorem OEnds.back {p : Program} {l : Launch} {e : Env} {R : Room} {s : State} {m : MethodId} {args : Array Value} {below : List Frame} {meth : Method} {c : Code} {T : State} {locs : List Loc} {cells slots : Nat} (X : Stand p l e R s m args below meth c T locs cells slots) (hlk : meth.locks = false) {v : Option Value} (hv : meth.sig.returnType = none → v = none) {t : State} {Q : Option Value → Heap → List Loc → Prop} {C S : Nat}
    (st : ∀ fs, (∀ (f : JFrame) (acts : List Action), f.method = m → f.locked = none → f.entered = [] → (doReturn e (T.setTop f) acts v).1 = T.setFrames fs) → Steps p.tables e below t (T.setFrames fs)) (q : Q v T.heap locs) (hc : cells ≤ C) (hs : slots ≤ S) : OEnds p e below s Q C S t := by
  obtain ⟨fs, hr, hrun, hended, hW, hsame⟩ := X.leave hv hlk
  exact ⟨_, _, st fs hr, hrun, hended, _, _, rfl, q, ⟨_, rfl⟩, hW, hsame.mono hc hs⟩

theorem own_lt (x y : Int64) : lcmpW x y < 0 ↔ x < y := by rw [lcW, lc_lt]
theorem own_gt (x y : Int64) : 0 < lcmpW x y ↔ y < x := by rw [lcW, lc_gt]
theorem own_eq (x y : Int64) : lcmpW x y = 0 ↔ x = y := by rw [lcW, lc_eq]
/-- a term that equals a number, as the sheet says it -/
theorem own_eqi {args : Array Value} {s : State} {t : Term} {k : Int32} (h : (Jvm.Cond.eq t (Term.int k)).value args s none s [] = some true) : t.eval args s none [] s = some (.int k) := by
  obtain ⟨x, y, hx, hy, h1, h2⟩ := cmp_v (Or.inl h)
  have hy' : y = .int k := Option.some.inj (hy.symm.trans (Term.int_eval k))
  subst hy'
  obtain ⟨z, rfl⟩ : ∃ z, x = .int z := h2
  simp [Cond.value, hx, hy] at h
  rw [hx, h]
theorem own_fldi {args : Array Value} {s : State} {t : Term} {C n d : String} {a : Addr} {k : Int32} (ht : t.eval args s none [] s = some (.ref a)) (h : (Jvm.Cond.eq (Term.field t C n d) (Term.int k)).value args s none s [] = some true) : s.fieldOf? a C n d = some (.int k) := by
  rw [← fld_at ht]; exact own_eqi h
theorem own_ne {s : State} {C n d : String} {a b : Addr} {j k : Int32} (h1 : s.fieldOf? a C n d = some (.int j)) (h2 : s.fieldOf? b C n d = some (.int k)) (hk : j ≠ k) : a ≠ b := by
  intro e; subst e
  exact hk (Value.int.inj (Option.some.inj (h1.symm.trans h2)))

theorem own_mod (x m : Int32) (hm : 0 < m.toInt) : 0 ≤ ((x &&& 2147483647) % m).toInt ∧ ((x &&& 2147483647) % m).toInt < m.toInt := by
  have h : 0 ≤ (x &&& 2147483647).toInt := by
    rw [Jvm.Kit.i32_mask x 2147483647 (k := 31) (by decide) (by decide)]; omega
  rw [Jvm.Kit.i32_rem_nonneg h]
  exact ⟨Int.emod_nonneg _ (by omega), Int.emod_lt_of_pos _ hm⟩
theorem own_range {r : Int32} {n : Nat} (h0 : 0 ≤ r.toInt) (h1 : r.toInt < n) (hn : n ≤ 2 ^ 31) : ∃ k : Nat, k < n ∧ r = Int32.ofNat k := by
  refine ⟨r.toInt.toNat, by omega, ?_⟩
  rw [← Int32.toInt_inj, Int32.toInt_ofNat_small (by omega)]; omega


theorem own_i2l (x : Int32) : x.toInt64.toInt = x.toInt := Jvm.Kit.i64_of_i32 x
/-- the offset, as the bytecode reckons it -/
def own_off (p n : Int32) : Int64 := (p - 1).toInt64 * n.toInt64
theorem own_off_v {p n : Int32} (hp : 1 ≤ p.toInt) (hn : 1 ≤ n.toInt ∧ n.toInt ≤ 100) : (own_off p n).toInt = (p.toInt - 1) * n.toInt := by
  have b1 := Int32.toInt_lt p
  have e1 : (1 : Int32).toInt = 1 := rfl
  have e : (p - 1).toInt = p.toInt - 1 := by rw [Jvm.Kit.i32_sub (by omega) (by omega), e1]
  have hm1 : 0 ≤ (p.toInt - 1) * n.toInt := Int.mul_nonneg (by omega) (by omega)
  have hm2 : (p.toInt - 1) * n.toInt ≤ 2147483647 * 100 := Int.mul_le_mul (by omega) hn.2 (by omega) (by omega)
  rw [own_off, Jvm.Kit.i64_mul, own_i2l, own_i2l, e]
  · rw [own_i2l, own_i2l, e]; omega
  · rw [own_i2l, own_i2l, e]; omega
theorem own_page (a : Int32) : 1 ≤ ((1 : Int32) + (a &&& 2147483647) % 2147483647).toInt := by
  have h := own_mod a 2147483647 (by decide)
  have e : (2147483647 : Int32).toInt = 2147483647 := rfl
  have e1 : (1 : Int32).toInt = 1 := rfl
  rw [Jvm.Kit.i32_add (by omega) (by omega), e1]; omega
theorem own_per (b : Int32) : 1 ≤ ((1 : Int32) + (b &&& 2147483647) % 100).toInt ∧ ((1 : Int32) + (b &&& 2147483647) % 100).toInt ≤ 100 := by
  have h := own_mod b 100 (by decide)
  have e : (100 : Int32).toInt = 100 := rfl
  have e1 : (1 : Int32).toInt = 1 := rfl
  rw [Jvm.Kit.i32_add (by omega) (by omega), e1]; omega
theorem own_c1 {p : Int32} (h : 1 ≤ p.toInt) : ¬ p < 1 := by
  rw [Int32.lt_iff_toInt_lt]; have e1 : (1 : Int32).toInt = 1 := rfl; omega
theorem own_c100 {p : Int32} (h : p.toInt ≤ 100) : ¬ 100 < p := by
  rw [Int32.lt_iff_toInt_lt]; have e1 : (100 : Int32).toInt = 100 := rfl; omega
theorem own_nz {n : Int32} (hn : 1 ≤ n.toInt) : n.toInt64 ≠ 0 := by
  intro h; have := congrArg Int64.toInt h; rw [own_i2l] at this; have e : (0 : Int64).toInt = 0 := rfl; omega
theorem own_r1 {p n : Int32} (hp : 1 ≤ p.toInt) (hn : 1 ≤ n.toInt ∧ n.toInt ≤ 100) : ¬ lcmpW (own_off p n) 0 < 0 := by
  rw [own_lt, Int64.lt_iff_toInt_lt, own_off_v hp hn]
  have hm1 : 0 ≤ (p.toInt - 1) * n.toInt := Int.mul_nonneg (by omega) (by omega)
  have e : (0 : Int64).toInt = 0 := rfl
  omega
theorem own_r2 {p n : Int32} (hp : 1 ≤ p.toInt) (hn : 1 ≤ n.toInt ∧ n.toInt ≤ 100) : lcmpW (own_off p n - own_off p n / n.toInt64 * n.toInt64) 0 = 0 := by
  rw [own_eq, ← Int64.toInt_inj, Jvm.Kit.i64_rem, own_off_v hp hn, own_i2l, Int.mul_tmod_left]
  rfl
theorem own_r3 {p n : Int32} (hp : 1 ≤ p.toInt) (hn : 1 ≤ n.toInt ∧ n.toInt ≤ 100) : lcmpW (own_off p n / n.toInt64) (p.toInt64 - 1) = 0 := by
  have b1 := Int32.toInt_lt p
  have e1 : (1 : Int64).toInt = 1 := rfl
  rw [own_eq, ← Int64.toInt_inj, Jvm.Kit.i64_div (by rw [own_i2l]; omega), own_off_v hp hn, own_i2l, Int.mul_tdiv_cancel _ (by omega), Jvm.Kit.i64_sub (by rw [own_i2l]; omega) (by rw [own_i2l]; omega), own_i2l, e1]
theorem own_r4 {p n : Int32} (hp : 1 ≤ p.toInt) (hn : 1 ≤ n.toInt ∧ n.toInt ≤ 100) : lcmpW (own_off p n) (p.toInt64 * n.toInt64 - n.toInt64) = 0 := by
  have b1 := Int32.toInt_lt p
  have hm1 : 0 ≤ p.toInt * n.toInt := Int.mul_nonneg (by omega) (by omega)
  have hm2 : p.toInt * n.toInt ≤ 2147483647 * 100 := Int.mul_le_mul (by omega) hn.2 (by omega) (by omega)
  have e : (p.toInt64 * n.toInt64).toInt = p.toInt * n.toInt := by
    rw [Jvm.Kit.i64_mul] <;> rw [own_i2l, own_i2l] <;> omega
  rw [own_eq, ← Int64.toInt_inj, own_off_v hp hn, Jvm.Kit.i64_sub (by rw [e, own_i2l]; omega) (by rw [e, own_i2l]; omega), e, own_i2l, Int.sub_mul]
  omega
theorem own_next {p : Int32} (h : p < 2147483647) : (p + 1).toInt = p.toInt + 1 := by
  rw [Int32.lt_iff_toInt_lt] at h
  have b := Int32.le_toInt p
  have e : (2147483647 : Int32).toInt = 2147483647 := rfl
  have e1 : (1 : Int32).toInt = 1 := rfl
  rw [Jvm.Kit.i32_add (by omega) (by omega), e1]
theorem own_r5 {p n : Int32} (hp : 1 ≤ p.toInt) (hn : 1 ≤ n.toInt ∧ n.toInt ≤ 100) (h : p < 2147483647) : lcmpW (own_off (p + 1) n) (own_off p n + n.toInt64) = 0 := by
  have b1 := Int32.toInt_lt p
  have hm1 : 0 ≤ (p.toInt - 1) * n.toInt := Int.mul_nonneg (by omega) (by omega)
  have hm2 : (p.toInt - 1) * n.toInt ≤ 2147483647 * 100 := Int.mul_le_mul (by omega) hn.2 (by omega) (by omega)
  have e := own_next h
  rw [own_eq, ← Int64.toInt_inj, own_off_v (by omega) hn, Jvm.Kit.i64_add (by rw [own_off_v hp hn, own_i2l]; omega) (by rw [own_off_v hp hn, own_i2l]; omega), own_off_v hp hn, own_i2l, e, Int.add_sub_cancel, Int.sub_mul]
  omega

theorem d2_0 : decode jdk_30_method_1_code 0 = .ok (.aload_n 0, 1) := by decide +kernel
theorem d2_1 : decode jdk_30_method_1_code 1 = .ok (.invokespecial 1, 3) := by decide +kernel
theorem d2_4 : decode jdk_30_method_1_code 4 = .ok (.return_, 1) := by decide +kernel
theorem pn_2 : plainName "java/lang/Record" = true := by first | (simp [plainName, overriddenIn]; done) | decide +kernel
theorem ef_rm2 (m : MethodId) (a1 : Addr) : entryFrame m #[(.ref a1)] 1 = mkF m 0 #[.val (.ref a1)] [] := by first | (simp [entryFrame, mkF, argsToLocals, Value.category]; done) | rfl
def Q2 (Z : State) (a1 : Addr)  (h0 : Heap) (n0 : Nat) (v : Option Value) (h : Heap) (L : List Loc) : Prop := v = none ∧ Fr n0 L ∧ h = h0
set_option maxRecDepth 65536 in
set_option maxHeartbeats 40000000 in
theorem rm2 (l : Launch) (Z : State) (a0 : Array Value) (hw : ∀ d ∈ tables_1, d.before a0 Z = true) (ws : List Jvm.Cond) (a1 : Addr)  (h0 : Heap) (n0 : Nat) (Z0 : n0 ≤ h0.size)  :
    MetFree l (⟨"java/lang/Record", "<init>", "()V"⟩ : MethodName) (head1 (Jvm.Cond.code (⟨"java/lang/Record", "<init>", "()V"⟩ : MethodName) jdk_30_method_1_code 1 none :: ws) ({ frames := 1, cells := 0, slots := 0, locals := 12 } : Room)) (fun a U => a = #[(.ref a1)] ∧ Z.Warmed39 U.vm ∧ U.heap = h0) (fun _ _ _ _ _ => True) (fun _ U o U' => ∃ v L, o = .returned v ∧ Q2 Z a1  h0 n0 v U'.heap L ∧ FrameEnd U o U' L ({ frames := 1, cells := 0, slots := 0, locals := 12 } : Room).cells ({ frames := 1, cells := 0, slots := 0, locals := 12 } : Room).slots) := by
  refine MetFree.of_bodySF (plainFor_of_name pn_2) hisR ?_
  intro p e s m args below meth c s₁ Bd hml0 hP hK
  obtain ⟨rfl, hZ, hh⟩ := hP
  have hx := Bd.exec
  have hby := Bd.bytes
  have hml : c.maxLocals = 1 := hml0
  have hown : s.vm.findClass "java/lang/Record" = some m.cls := findClass_of_methodNamed Bd.named
  have hnm := (name_of_methodNamed Bd.named Bd.method).1
  have hlk := BodyLoose.notSynchronized Bd
  have hrt := Bd.returns
  have X0 : Stand p l e ({ frames := 1, cells := 0, slots := 0, locals := 12 } : Room) s m #[(.ref a1)] below meth c s₁ [] 0 0 := Stand.of_body Bd
  have e0 : s₁.heap = h0 := by rw [← hh, Bd.state]; rfl
  have N0 := Fr.nil n0
  show OEnds p e below s (Q2 Z a1  h0 n0) ({ frames := 1, cells := 0, slots := 0, locals := 12 } : Room).cells ({ frames := 1, cells := 0, slots := 0, locals := 12 } : Room).slots (s₁.setTop (entryFrame m #[(.ref a1)] 1))
  refine OEnds.go (t' := s₁.setTop (mkF m 0 #[.val (.ref a1)] [])) (fun t k => castTop (ef_rm2 m a1) k) ?_
  refine OEnds.go (t' := s₁.setTop (mkF m 1 #[.val (.ref a1)] [(.ref a1)])) (fun _ k => ?_) ?_
  · show Steps p.tables e below (s₁.setTop (mkF m 0 #[.val (.ref a1)] [])) _
    refine XS.aloadN X0.here hx rfl (hb hby d2_0) rfl rfl ?_
    show Steps p.tables e below (s₁.setTop (mkF m 1 #[.val (.ref a1)] [(.ref a1)])) _
    exact k
  obtain ⟨T1, X1, e1, st1⟩ := initO X0 hx hZ hown (hw _ (List.mem_of_getElem? (i := 12) rfl)) (hw _ (List.mem_of_getElem? (i := 13) rfl)) (hw _ (List.mem_of_getElem? (i := 14) rfl)) e0 (g := (mkF m 1 #[.val (.ref a1)] [(.ref a1)])) rfl (by rw [hml]; rfl) rfl (hb hby d2_1) (by decide) (W := 0) (by show 2 * 0 + _ ≤ _; exact Nat.le_of_eq rfl) (by decide)
  refine OEnds.go (t' := T1.setTop (mkF m 4 #[.val (.ref a1)] [])) (fun _ k => st1 _ k) ?_
  refine OEnds.back X1 hlk (v := none) (fun _ => rfl) (fun fs hr => ?_) ?_ (by decide) (by decide)
  · exact X1.returnOut hx hrt (hb hby d2_4) hr
  · show Q2 Z a1  h0 n0 _ T1.heap _
    rw [e1]
    exact ⟨rfl, N0, rfl⟩
theorem d1_0 : decode prog_16_method_1_code 0 = .ok (.aload_n 0, 1) := by decide +kernel
theorem d1_1 : decode prog_16_method_1_code 1 = .ok (.invokespecial 1, 3) := by decide +kernel
theorem d1_4 : decode prog_16_method_1_code 4 = .ok (.iload_n 1, 1) := by decide +kernel
theorem d1_5 : decode prog_16_method_1_code 5 = .ok (.iconst 1, 1) := by decide +kernel
theorem d1_6 : decode prog_16_method_1_code 6 = .ok (.if_icmp .lt 14, 3) := by decide +kernel
theorem d1_9 : decode prog_16_method_1_code 9 = .ok (.iload_n 2, 1) := by decide +kernel
theorem d1_10 : decode prog_16_method_1_code 10 = .ok (.iconst 1, 1) := by decide +kernel
theorem d1_11 : decode prog_16_method_1_code 11 = .ok (.if_icmp .lt 9, 3) := by decide +kernel
theorem d1_14 : decode prog_16_method_1_code 14 = .ok (.iload_n 2, 1) := by decide +kernel
theorem d1_15 : decode prog_16_method_1_code 15 = .ok (.bipush 100, 2) := by decide +kernel
theorem d1_17 : decode prog_16_method_1_code 17 = .ok (.if_icmp .le 18, 3) := by decide +kernel
theorem d1_35 : decode prog_16_method_1_code 35 = .ok (.aload_n 0, 1) := by decide +kernel
theorem d1_36 : decode prog_16_method_1_code 36 = .ok (.iload_n 1, 1) := by decide +kernel
theorem d1_37 : decode prog_16_method_1_code 37 = .ok (.putfield 18, 3) := by decide +kernel
theorem d1_40 : decode prog_16_method_1_code 40 = .ok (.aload_n 0, 1) := by decide +kernel
theorem d1_41 : decode prog_16_method_1_code 41 = .ok (.iload_n 2, 1) := by decide +kernel
theorem d1_42 : decode prog_16_method_1_code 42 = .ok (.putfield 22, 3) := by decide +kernel
theorem d1_45 : decode prog_16_method_1_code 45 = .ok (.return_, 1) := by decide +kernel
theorem pn_1 : plainName "com/example/token_mint/tokenmint/model/PageRequest" = true := by first | (simp [plainName, overriddenIn]; done) | decide +kernel
theorem pd_rm1_0 : parseMethodDescriptor "()V" = some ⟨[], none⟩ := by decide +kernel
theorem ef_rm1 (m : MethodId) (a1 : Addr) (p1 : Int32) (p2 : Int32) : entryFrame m #[(.ref a1), (.int p1), (.int p2)] 3 = mkF m 0 #[.val (.ref a1), .val (.int p1), .val (.int p2)] [] := by first | (simp [entryFrame, mkF, argsToLocals, Value.category]; done) | rfl
def Q1 (Z : State) (a1 : Addr) (p1 : Int32) (p2 : Int32)  (h0 : Heap) (n0 : Nat) (v : Option Value) (h : Heap) (L : List Loc) : Prop := v = none ∧ Fr n0 L ∧ Keep h0 h [a1] ∧ Exa Z h a1 "com/example/token_mint/tokenmint/model/PageRequest" ∧ Fld Z h a1 "com/example/token_mint/tokenmint/model/PageRequest" "page" "I" (.int p1) ∧ Fld Z h a1 "com/example/token_mint/tokenmint/model/PageRequest" "perPage" "I" (.int p2)
set_option maxRecDepth 65536 in
set_option maxHeartbeats 40000000 in
theorem rm1 (l : Launch) (Z : State) (a0 : Array Value) (hw : ∀ d ∈ tables_1, d.before a0 Z = true) (ws : List Jvm.Cond) (a1 : Addr) (p1 : Int32) (p2 : Int32)  (h0 : Heap) (n0 : Nat) (Z0 : n0 ≤ h0.size) (F_page_a1 : Fld Z h0 a1 "com/example/token_mint/tokenmint/model/PageRequest" "page" "I" (.int (0 : Int32))) (F_perPage_a1 : Fld Z h0 a1 "com/example/token_mint/tokenmint/model/PageRequest" "perPage" "I" (.int (0 : Int32))) (E_a1 : Exa Z h0 a1 "com/example/token_mint/tokenmint/model/PageRequest") (g_a1 : n0 ≤ a1) (c1 : ¬ p1 < 1) (c2 : ¬ p2 < 1) (c3 : ¬ 100 < p2) :
    MetFree l (⟨"com/example/token_mint/tokenmint/model/PageRequest", "<init>", "(II)V"⟩ : MethodName) (head1 (Jvm.Cond.code (⟨"com/example/token_mint/tokenmint/model/PageRequest", "<init>", "(II)V"⟩ : MethodName) prog_16_method_1_code 3 none :: ws) ({ frames := 2, cells := 0, slots := 0, locals := 24 } : Room)) (fun a U => a = #[(.ref a1), (.int p1), (.int p2)] ∧ Z.Warmed39 U.vm ∧ U.heap = h0) (fun _ _ _ _ _ => True) (fun _ U o U' => ∃ v L, o = .returned v ∧ Q1 Z a1 p1 p2  h0 n0 v U'.heap L ∧ FrameEnd U o U' L ({ frames := 2, cells := 0, slots := 0, locals := 24 } : Room).cells ({ frames := 2, cells := 0, slots := 0, locals := 24 } : Room).slots) := by
  refine MetFree.of_bodySF (plainFor_of_name pn_1) hisR ?_
  intro p e s m args below meth c s₁ Bd hml0 hP hK
  obtain ⟨rfl, hZ, hh⟩ := hP
  have hx := Bd.exec
  have hby := Bd.bytes
  have hml : c.maxLocals = 3 := hml0
  have hown : s.vm.findClass "com/example/token_mint/tokenmint/model/PageRequest" = some m.cls := findClass_of_methodNamed Bd.named
  have hnm := (name_of_methodNamed Bd.named Bd.method).1
  have hlk := BodyLoose.notSynchronized Bd
  have hrt := Bd.returns
  have X0 : Stand p l e ({ frames := 2, cells := 0, slots := 0, locals := 24 } : Room) s m #[(.ref a1), (.int p1), (.int p2)] below meth c s₁ [] 0 0 := Stand.of_body Bd
  have e0 : s₁.heap = h0 := by rw [← hh, Bd.state]; rfl
  have N0 := Fr.nil n0
  show OEnds p e below s (Q1 Z a1 p1 p2  h0 n0) ({ frames := 2, cells := 0, slots := 0, locals := 24 } : Room).cells ({ frames := 2, cells := 0, slots := 0, locals := 24 } : Room).slots (s₁.setTop (entryFrame m #[(.ref a1), (.int p1), (.int p2)] 3))
  refine OEnds.go (t' := s₁.setTop (mkF m 0 #[.val (.ref a1), .val (.int p1), .val (.int p2)] [])) (fun t k => castTop (ef_rm1 m a1 p1 p2) k) ?_
  refine OEnds.go (t' := s₁.setTop (mkF m 1 #[.val (.ref a1), .val (.int p1), .val (.int p2)] [(.ref a1)])) (fun _ k => ?_) ?_
  · show Steps p.tables e below (s₁.setTop (mkF m 0 #[.val (.ref a1), .val (.int p1), .val (.int p2)] [])) _
    refine XS.aloadN X0.here hx rfl (hb hby d1_0) rfl rfl ?_
    show Steps p.tables e below (s₁.setTop (mkF m 1 #[.val (.ref a1), .val (.int p1), .val (.int p2)] [(.ref a1)])) _
    exact k
  obtain ⟨_, _, ⟨T1, L1, k1, n1⟩, -, X1, ⟨Lc1, hQ1, l1, y1, z1⟩, st1⟩ := X0.specialBack hx (y := (⟨"java/lang/Record", "<init>", "()V"⟩ : MethodName)) rfl hown (mvT hZ (hw _ (List.mem_of_getElem? (i := 7) rfl))) (mvT hZ (hw _ (List.mem_of_getElem? (i := 8) rfl))) (mvT hZ (hw _ (List.mem_of_getElem? (i := 11) rfl))) (by decide) (backOf (W := 0) (rm2 l Z a0 hw [] a1 h0 n0 Z0 ) hZ (hw _ (List.mem_of_getElem? (i := 11) rfl)) (hw _ (List.mem_of_getElem? (i := 10) rfl)) (by decide) (by decide)) (g := (mkF m 1 #[.val (.ref a1), .val (.int p1), .val (.int p2)] [(.ref a1)])) rfl (by rw [hml]; rfl) (Steps.refl _) (a := a1) (argsL := []) (rest := []) (lenOf pd_rm1_0 rfl) rfl (by show 2 * 0 + _ ≤ _; exact Nat.le_of_eq rfl) (hb hby d1_1) (fun _ _ => ⟨rfl, e0, (by decide : 0 + 0 ≤ _), (by decide : 0 + 0 ≤ _)⟩)
  dsimp only [Pt.U, Pt.locs, Pt.cells, Pt.slots] at X1 l1 y1 z1 st1 hQ1
  subst l1 y1 z1
  obtain ⟨rfl, N1q, eh⟩ := hQ1
  have N1 := Fr.app N0 N1q
  have eh1 := eh
  refine OEnds.go (t' := T1.setTop (mkF m 4 #[.val (.ref a1), .val (.int p1), .val (.int p2)] [])) (fun _ k => st1.trans k) ?_
  refine OEnds.go (t' := T1.setTop (mkF m 6 #[.val (.ref a1), .val (.int p1), .val (.int p2)] [(.int (1 : Int32)), (.int p1)])) (fun _ k => ?_) ?_
  · show Steps p.tables e below (T1.setTop (mkF m 4 #[.val (.ref a1), .val (.int p1), .val (.int p2)] [])) _
    refine XS.iloadN X1.here hx rfl (hb hby d1_4) rfl ?_
    show Steps p.tables e below (T1.setTop (mkF m 5 #[.val (.ref a1), .val (.int p1), .val (.int p2)] [(.int p1)])) _
    refine XS.iconst X1.here hx rfl (hb hby d1_5) ?_
    show Steps p.tables e below (T1.setTop (mkF m 6 #[.val (.ref a1), .val (.int p1), .val (.int p2)] [(.int (1 : Int32)), (.int p1)])) _
    exact k
  refine OEnds.go (t' := T1.setTop (mkF m 9 #[.val (.ref a1), .val (.int p1), .val (.int p2)] [])) (fun _ k => XS.icmpNo X1.here hx rfl (hb hby d1_6) rfl (flt c1).1 k) ?_
  refine OEnds.go (t' := T1.setTop (mkF m 11 #[.val (.ref a1), .val (.int p1), .val (.int p2)] [(.int (1 : Int32)), (.int p2)])) (fun _ k => ?_) ?_
  · show Steps p.tables e below (T1.setTop (mkF m 9 #[.val (.ref a1), .val (.int p1), .val (.int p2)] [])) _
    refine XS.iloadN X1.here hx rfl (hb hby d1_9) rfl ?_
    show Steps p.tables e below (T1.setTop (mkF m 10 #[.val (.ref a1), .val (.int p1), .val (.int p2)] [(.int p2)])) _
    refine XS.iconst X1.here hx rfl (hb hby d1_10) ?_
    show Steps p.tables e below (T1.setTop (mkF m 11 #[.val (.ref a1), .val (.int p1), .val (.int p2)] [(.int (1 : Int32)), (.int p2)])) _
    exact k
  refine OEnds.go (t' := T1.setTop (mkF m 14 #[.val (.ref a1), .val (.int p1), .val (.int p2)] [])) (fun _ k => XS.icmpNo X1.here hx rfl (hb hby d1_11) rfl (flt c2).1 k) ?_
  refine OEnds.go (t' := T1.setTop (mkF m 17 #[.val (.ref a1), .val (.int p1), .val (.int p2)] [(.int (100 : Int32)), (.int p2)])) (fun _ k => ?_) ?_
  · show Steps p.tables e below (T1.setTop (mkF m 14 #[.val (.ref a1), .val (.int p1), .val (.int p2)] [])) _
    refine XS.iloadN X1.here hx rfl (hb hby d1_14) rfl ?_
    show Steps p.tables e below (T1.setTop (mkF m 15 #[.val (.ref a1), .val (.int p1), .val (.int p2)] [(.int p2)])) _
    refine XS.bipush X1.here hx rfl (hb hby d1_15) ?_
    show Steps p.tables e below (T1.setTop (mkF m 17 #[.val (.ref a1), .val (.int p1), .val (.int p2)] [(.int (100 : Int32)), (.int p2)])) _
    exact k
  refine OEnds.go (t' := T1.setTop (mkF m 35 #[.val (.ref a1), .val (.int p1), .val (.int p2)] [])) (fun _ k => XS.icmpYes X1.here hx rfl (pc0 := 17) (pc' := 35) rfl (hb hby d1_17) rfl (flt c3).2.2.2 (by decide) (by decide) k) ?_
  refine OEnds.go (t' := T1.setTop (mkF m 37 #[.val (.ref a1), .val (.int p1), .val (.int p2)] [(.int p1), (.ref a1)])) (fun _ k => ?_) ?_
  · show Steps p.tables e below (T1.setTop (mkF m 35 #[.val (.ref a1), .val (.int p1), .val (.int p2)] [])) _
    refine XS.aloadN X1.here hx rfl (hb hby d1_35) rfl rfl ?_
    show Steps p.tables e below (T1.setTop (mkF m 36 #[.val (.ref a1), .val (.int p1), .val (.int p2)] [(.ref a1)])) _
    refine XS.iloadN X1.here hx rfl (hb hby d1_36) rfl ?_
    show Steps p.tables e below (T1.setTop (mkF m 37 #[.val (.ref a1), .val (.int p1), .val (.int p2)] [(.int p1), (.ref a1)])) _
    exact k
  obtain ⟨T2, h2, X2, e2, W2, st2⟩ := putF X1 hx hZ hown (host := "") (Or.inl (hw _ (List.mem_of_getElem? (i := 15) rfl))) Via.refl eh1 F_page_a1 E_a1 (Or.inr ⟨(hw _ (List.mem_of_getElem? (i := 16) rfl)), rfl, hnm⟩) (hw _ (List.mem_of_getElem? (i := 2) rfl)) (ty := .int) (by decide) rfl rfl (g := (mkF m 37 #[.val (.ref a1), .val (.int p1), .val (.int p2)] [(.int p1), (.ref a1)])) rfl rfl (hb hby d1_37)
  have N2 := Fr.snoc X2 N1 g_a1
  have E_a1 := E_a1.wr W2
  have F_page_a1 := F_page_a1.same W2
  have F_perPage_a1 := F_perPage_a1.other W2 (Or.inr (slot_ne (Or.inr (hw _ (List.mem_of_getElem? (i := 18) rfl))) (Or.inr (hw _ (List.mem_of_getElem? (i := 16) rfl))) (by decide) (t := .int) (t' := .int) (by decide) (by decide)))
  have Z2 : n0 ≤ h2.size := Nat.le_trans Z0 (Keep.of_wr W2).1
  have K2 := (Keep.refl h0 [a1]).wr W2 (Or.inl (List.mem_of_getElem? (i := 0) rfl))
  refine OEnds.go (t' := T2.setTop (mkF m 40 #[.val (.ref a1), .val (.int p1), .val (.int p2)] [])) (fun _ k => st2 _ k) ?_
  refine OEnds.go (t' := T2.setTop (mkF m 42 #[.val (.ref a1), .val (.int p1), .val (.int p2)] [(.int p2), (.ref a1)])) (fun _ k => ?_) ?_
  · show Steps p.tables e below (T2.setTop (mkF m 40 #[.val (.ref a1), .val (.int p1), .val (.int p2)] [])) _
    refine XS.aloadN X2.here hx rfl (hb hby d1_40) rfl rfl ?_
    show Steps p.tables e below (T2.setTop (mkF m 41 #[.val (.ref a1), .val (.int p1), .val (.int p2)] [(.ref a1)])) _
    refine XS.iloadN X2.here hx rfl (hb hby d1_41) rfl ?_
    show Steps p.tables e below (T2.setTop (mkF m 42 #[.val (.ref a1), .val (.int p1), .val (.int p2)] [(.int p2), (.ref a1)])) _
    exact k
  obtain ⟨T3, h3, X3, e3, W3, st3⟩ := putF X2 hx hZ hown (host := "") (Or.inl (hw _ (List.mem_of_getElem? (i := 17) rfl))) Via.refl e2 F_perPage_a1 E_a1 (Or.inr ⟨(hw _ (List.mem_of_getElem? (i := 18) rfl)), rfl, hnm⟩) (hw _ (List.mem_of_getElem? (i := 2) rfl)) (ty := .int) (by decide) rfl rfl (g := (mkF m 42 #[.val (.ref a1), .val (.int p1), .val (.int p2)] [(.int p2), (.ref a1)])) rfl rfl (hb hby d1_42)
  have N3 := Fr.snoc X3 N2 g_a1
  have E_a1 := E_a1.wr W3
  have F_page_a1 := F_page_a1.other W3 (Or.inr (slot_ne (Or.inr (hw _ (List.mem_of_getElem? (i := 16) rfl))) (Or.inr (hw _ (List.mem_of_getElem? (i := 18) rfl))) (by decide) (t := .int) (t' := .int) (by decide) (by decide)))
  have F_perPage_a1 := F_perPage_a1.same W3
  have Z3 : n0 ≤ h3.size := Nat.le_trans Z2 (Keep.of_wr W3).1
  have K3 := K2.wr W3 (Or.inl (List.mem_of_getElem? (i := 0) rfl))
  refine OEnds.go (t' := T3.setTop (mkF m 45 #[.val (.ref a1), .val (.int p1), .val (.int p2)] [])) (fun _ k => st3 _ k) ?_
  refine OEnds.back X3 hlk (v := none) (fun _ => rfl) (fun fs hr => ?_) ?_ (by decide) (by decide)
  · exact X3.returnOut hx hrt (hb hby d1_45) hr
  · show Q1 Z a1 p1 p2  h0 n0 _ T3.heap _
    rw [e3]
    exact ⟨rfl, N3, K3, E_a1, F_page_a1, F_perPage_a1⟩
theorem d4_0 : decode prog_16_method_2_code 0 = .ok (.aload_n 0, 1) := by decide +kernel
theorem d4_1 : decode prog_16_method_2_code 1 = .ok (.getfield 18, 3) := by decide +kernel
theorem d4_4 : decode prog_16_method_2_code 4 = .ok (.iconst 1, 1) := by decide +kernel
theorem d4_5 : decode prog_16_method_2_code 5 = .ok (.isub, 1) := by decide +kernel
theorem d4_6 : decode prog_16_method_2_code 6 = .ok (.i2l, 1) := by decide +kernel
theorem d4_7 : decode prog_16_method_2_code 7 = .ok (.aload_n 0, 1) := by decide +kernel
theorem d4_8 : decode prog_16_method_2_code 8 = .ok (.getfield 22, 3) := by decide +kernel
theorem d4_11 : decode prog_16_method_2_code 11 = .ok (.i2l, 1) := by decide +kernel
theorem d4_12 : decode prog_16_method_2_code 12 = .ok (.lmul, 1) := by decide +kernel
theorem d4_13 : decode prog_16_method_2_code 13 = .ok (.lreturn, 1) := by decide +kernel
theorem pn_4 : plainName "com/example/token_mint/tokenmint/model/PageRequest" = true := by first | (simp [plainName, overriddenIn]; done) | decide +kernel
theorem ef_rm4 (m : MethodId) (a1 : Addr) : entryFrame m #[(.ref a1)] 1 = mkF m 0 #[.val (.ref a1)] [] := by first | (simp [entryFrame, mkF, argsToLocals, Value.category]; done) | rfl
def Q4 (Z : State) (a1 : Addr) (v1 : Int32) (v2 : Int32) (h0 : Heap) (n0 : Nat) (v : Option Value) (h : Heap) (L : List Loc) : Prop := v = some (.long (own_off v1 v2)) ∧ Fr n0 L ∧ h = h0
set_option maxRecDepth 65536 in
set_option maxHeartbeats 40000000 in
theorem rm4 (l : Launch) (Z : State) (a0 : Array Value) (hw : ∀ d ∈ tables_1, d.before a0 Z = true) (ws : List Jvm.Cond) (a1 : Addr) (v1 : Int32) (v2 : Int32) (h0 : Heap) (n0 : Nat) (Z0 : n0 ≤ h0.size) (F1 : Fld Z h0 a1 "com/example/token_mint/tokenmint/model/PageRequest" "page" "I" (.int v1)) (F2 : Fld Z h0 a1 "com/example/token_mint/tokenmint/model/PageRequest" "perPage" "I" (.int v2)) :
    MetFree l (⟨"com/example/token_mint/tokenmint/model/PageRequest", "offset", "()J"⟩ : MethodName) (head1 (Jvm.Cond.code (⟨"com/example/token_mint/tokenmint/model/PageRequest", "offset", "()J"⟩ : MethodName) prog_16_method_2_code 1 (some .long) :: ws) ({ frames := 0, cells := 0, slots := 0, locals := 0 } : Room)) (fun a U => a = #[(.ref a1)] ∧ Z.Warmed39 U.vm ∧ U.heap = h0) (fun _ _ _ _ _ => True) (fun _ U o U' => ∃ v L, o = .returned v ∧ Q4 Z a1 v1 v2 h0 n0 v U'.heap L ∧ FrameEnd U o U' L ({ frames := 0, cells := 0, slots := 0, locals := 0 } : Room).cells ({ frames := 0, cells := 0, slots := 0, locals := 0 } : Room).slots) := by
  refine MetFree.of_bodySF (plainFor_of_name pn_4) hisR ?_
  intro p e s m args below meth c s₁ Bd hml0 hP hK
  obtain ⟨rfl, hZ, hh⟩ := hP
  have hx := Bd.exec
  have hby := Bd.bytes
  have hml : c.maxLocals = 1 := hml0
  have hown : s.vm.findClass "com/example/token_mint/tokenmint/model/PageRequest" = some m.cls := findClass_of_methodNamed Bd.named
  have hnm := (name_of_methodNamed Bd.named Bd.method).1
  have hlk := BodyLoose.notSynchronized Bd
  have hrt := Bd.returns
  have X0 : Stand p l e ({ frames := 0, cells := 0, slots := 0, locals := 0 } : Room) s m #[(.ref a1)] below meth c s₁ [] 0 0 := Stand.of_body Bd
  have e0 : s₁.heap = h0 := by rw [← hh, Bd.state]; rfl
  have N0 := Fr.nil n0
  show OEnds p e below s (Q4 Z a1 v1 v2 h0 n0) ({ frames := 0, cells := 0, slots := 0, locals := 0 } : Room).cells ({ frames := 0, cells := 0, slots := 0, locals := 0 } : Room).slots (s₁.setTop (entryFrame m #[(.ref a1)] 1))
  refine OEnds.go (t' := s₁.setTop (mkF m 0 #[.val (.ref a1)] [])) (fun t k => castTop (ef_rm4 m a1) k) ?_
  refine OEnds.go (t' := s₁.setTop (mkF m 1 #[.val (.ref a1)] [(.ref a1)])) (fun _ k => ?_) ?_
  · show Steps p.tables e below (s₁.setTop (mkF m 0 #[.val (.ref a1)] [])) _
    refine XS.aloadN X0.here hx rfl (hb hby d4_0) rfl rfl ?_
    show Steps p.tables e below (s₁.setTop (mkF m 1 #[.val (.ref a1)] [(.ref a1)])) _
    exact k
  obtain ⟨T1, X1, e1, st1⟩ := getF X0 hx hZ hown (host := "") (Or.inl (hw _ (List.mem_of_getElem? (i := 15) rfl))) Via.refl e0 F1 (g := (mkF m 1 #[.val (.ref a1)] [(.ref a1)])) rfl rfl (hb hby d4_1)
  refine OEnds.go (t' := T1.setTop (mkF m 4 #[.val (.ref a1)] [(.int v1)])) (fun _ k => st1 _ k) ?_
  refine OEnds.go (t' := T1.setTop (mkF m 8 #[.val (.ref a1)] [(.ref a1), (.long ((v1 - (1 : Int32)).toInt64))])) (fun _ k => ?_) ?_
  · show Steps p.tables e below (T1.setTop (mkF m 4 #[.val (.ref a1)] [(.int v1)])) _
    refine XS.iconst X1.here hx rfl (hb hby d4_4) ?_
    show Steps p.tables e below (T1.setTop (mkF m 5 #[.val (.ref a1)] [(.int (1 : Int32)), (.int v1)])) _
    refine XS.isub X1.here hx rfl (hb hby d4_5) rfl ?_
    show Steps p.tables e below (T1.setTop (mkF m 6 #[.val (.ref a1)] [(.int (v1 - (1 : Int32)))])) _
    refine XS.i2l X1.here hx rfl (hb hby d4_6) rfl ?_
    show Steps p.tables e below (T1.setTop (mkF m 7 #[.val (.ref a1)] [(.long ((v1 - (1 : Int32)).toInt64))])) _
    refine XS.aloadN X1.here hx rfl (hb hby d4_7) rfl rfl ?_
    show Steps p.tables e below (T1.setTop (mkF m 8 #[.val (.ref a1)] [(.ref a1), (.long ((v1 - (1 : Int32)).toInt64))])) _
    exact k
  obtain ⟨T2, X2, e2, st2⟩ := getF X1 hx hZ hown (host := "") (Or.inl (hw _ (List.mem_of_getElem? (i := 17) rfl))) Via.refl e1 F2 (g := (mkF m 8 #[.val (.ref a1)] [(.ref a1), (.long ((v1 - (1 : Int32)).toInt64))])) rfl rfl (hb hby d4_8)
  refine OEnds.go (t' := T2.setTop (mkF m 11 #[.val (.ref a1)] [(.int v2), (.long ((v1 - (1 : Int32)).toInt64))])) (fun _ k => st2 _ k) ?_
  refine OEnds.go (t' := T2.setTop (mkF m 13 #[.val (.ref a1)] [(.long (((v1 - (1 : Int32)).toInt64) * (v2.toInt64)))])) (fun _ k => ?_) ?_
  · show Steps p.tables e below (T2.setTop (mkF m 11 #[.val (.ref a1)] [(.int v2), (.long ((v1 - (1 : Int32)).toInt64))])) _
    refine XS.i2l X2.here hx rfl (hb hby d4_11) rfl ?_
    show Steps p.tables e below (T2.setTop (mkF m 12 #[.val (.ref a1)] [(.long (v2.toInt64)), (.long ((v1 - (1 : Int32)).toInt64))])) _
    refine XS.lmul X2.here hx rfl (hb hby d4_12) rfl ?_
    show Steps p.tables e below (T2.setTop (mkF m 13 #[.val (.ref a1)] [(.long (((v1 - (1 : Int32)).toInt64) * (v2.toInt64)))])) _
    exact k
  refine OEnds.back X2 hlk (v := (some (.long (((v1 - (1 : Int32)).toInt64) * (v2.toInt64))))) (fun h => by rw [hrt] at h; cases h) (fun fs hr => ?_) ?_ (by decide) (by decide)
  · exact retJ X2 hx hrt (hb hby d4_13) hr
  · show Q4 Z a1 v1 v2 h0 n0 _ T2.heap _
    rw [e2]
    exact ⟨rfl, N0, rfl⟩
theorem pn_0 : plainName "com/example/token_mint/tokenmint/model/PageRequestOffsetPinLaw" = true := by first | (simp [plainName, overriddenIn]; done) | decide +kernel
theorem pd_rm0_0 : parseMethodDescriptor "(II)V" = some ⟨[.int, .int], none⟩ := by decide +kernel
theorem pd_rm0_1 : parseMethodDescriptor "()J" = some ⟨[], some .long⟩ := by decide +kernel
theorem ef_rm0 (m : MethodId) (p1 : Int32) (p2 : Int32) : entryFrame m #[(.int p1), (.int p2)] maxLocals = mkF m 0 #[.val (.int p1), .val (.int p2), .unset, .unset, .unset, .unset, .unset, .unset, .unset] [] := by first | (simp [entryFrame, mkF, argsToLocals, Value.category, maxLocals]; done) | rfl
def Q0 (Z : State) (p1 : Int32) (p2 : Int32)  (h0 : Heap) (n0 : Nat) (v : Option Value) (h : Heap) (L : List Loc) : Prop := v = some (.int 1) ∧ Fr n0 L
set_option maxRecDepth 65536 in
set_option maxHeartbeats 40000000 in
theorem rm0 (l : Launch) (Z : State) (a0 : Array Value) (hw : ∀ d ∈ tables_1, d.before a0 Z = true) (ws : List Jvm.Cond) (p1 : Int32) (p2 : Int32)  (h0 : Heap) (n0 : Nat) (Z0 : n0 ≤ h0.size)  :
    MetFree l x (head1 (Jvm.Cond.code x code maxLocals ret :: ws) room_1) (fun a U => a = #[(.int p1), (.int p2)] ∧ Z.Warmed39 U.vm ∧ U.heap = h0) (fun _ _ _ _ _ => True) (fun _ U o U' => ∃ v L, o = .returned v ∧ Q0 Z p1 p2  h0 n0 v U'.heap L ∧ FrameEnd U o U' L room_1.cells room_1.slots) := by
  refine MetFree.of_bodySF (plainFor_of_name pn_0) hisR ?_
  intro p e s m args below meth c s₁ Bd hml0 hP hK
  obtain ⟨rfl, hZ, hh⟩ := hP
  have hx := Bd.exec
  have hby := Bd.bytes
  have hml : c.maxLocals = 9 := hml0
  have hown : s.vm.findClass "com/example/token_mint/tokenmint/model/PageRequestOffsetPinLaw" = some m.cls := findClass_of_methodNamed Bd.named
  have hnm := (name_of_methodNamed Bd.named Bd.method).1
  have hlk := BodyLoose.notSynchronized Bd
  have hrt := Bd.returns
  have X0 : Stand p l e room_1 s m #[(.int p1), (.int p2)] below meth c s₁ [] 0 0 := Stand.of_body Bd
  have e0 : s₁.heap = h0 := by rw [← hh, Bd.state]; rfl
  have N0 := Fr.nil n0
  show OEnds p e below s (Q0 Z p1 p2  h0 n0) room_1.cells room_1.slots (s₁.setTop (entryFrame m #[(.int p1), (.int p2)] maxLocals))
  refine OEnds.go (t' := s₁.setTop (mkF m 0 #[.val (.int p1), .val (.int p2), .unset, .unset, .unset, .unset, .unset, .unset, .unset] [])) (fun t k => castTop (ef_rm0 m p1 p2) k) ?_
  refine OEnds.go (t' := s₁.setTop (mkF m 20 #[.val (.int p1), .val (.int p2), .val (.int ((1 : Int32) + ((p1 &&& (2147483647 : Int32)) % (2147483647 : Int32)))), .val (.int ((1 : Int32) + ((p2 &&& (2147483647 : Int32)) % (100 : Int32)))), .unset, .unset, .unset, .unset, .unset] [])) (fun _ k => ?_) ?_
  · show Steps p.tables e below (s₁.setTop (mkF m 0 #[.val (.int p1), .val (.int p2), .unset, .unset, .unset, .unset, .unset, .unset, .unset] [])) _
    refine XS.iconst X0.here hx rfl (hb hby at_0) ?_
    show Steps p.tables e below (s₁.setTop (mkF m 1 #[.val (.int p1), .val (.int p2), .unset, .unset, .unset, .unset, .unset, .unset, .unset] [(.int (1 : Int32))])) _
    refine XS.iloadN X0.here hx rfl (hb hby at_1) rfl ?_
    show Steps p.tables e below (s₁.setTop (mkF m 2 #[.val (.int p1), .val (.int p2), .unset, .unset, .unset, .unset, .unset, .unset, .unset] [(.int p1), (.int (1 : Int32))])) _
    refine X0.ldcInt hx hown (mvT hZ (hw _ (List.mem_of_getElem? (i := 0) rfl))) (g := (mkF m 2 #[.val (.int p1), .val (.int p2), .unset, .unset, .unset, .unset, .unset, .unset, .unset] [(.int p1), (.int (1 : Int32))])) rfl (hb hby at_2) _ ?_
    show Steps p.tables e below (s₁.setTop (mkF m 4 #[.val (.int p1), .val (.int p2), .unset, .unset, .unset, .unset, .unset, .unset, .unset] [(.int (2147483647 : Int32)), (.int p1), (.int (1 : Int32))])) _
    refine XS.iand X0.here hx rfl (hb hby at_4) rfl ?_
    show Steps p.tables e below (s₁.setTop (mkF m 5 #[.val (.int p1), .val (.int p2), .unset, .unset, .unset, .unset, .unset, .unset, .unset] [(.int (p1 &&& (2147483647 : Int32))), (.int (1 : Int32))])) _
    refine X0.ldcInt hx hown (mvT hZ (hw _ (List.mem_of_getElem? (i := 0) rfl))) (g := (mkF m 5 #[.val (.int p1), .val (.int p2), .unset, .unset, .unset, .unset, .unset, .unset, .unset] [(.int (p1 &&& (2147483647 : Int32))), (.int (1 : Int32))])) rfl (hb hby at_5) _ ?_
    show Steps p.tables e below (s₁.setTop (mkF m 7 #[.val (.int p1), .val (.int p2), .unset, .unset, .unset, .unset, .unset, .unset, .unset] [(.int (2147483647 : Int32)), (.int (p1 &&& (2147483647 : Int32))), (.int (1 : Int32))])) _
    refine iremM X0 hx rfl (hb hby at_7) rfl (by decide) ?_
    show Steps p.tables e below (s₁.setTop (mkF m 8 #[.val (.int p1), .val (.int p2), .unset, .unset, .unset, .unset, .unset, .unset, .unset] [(.int ((p1 &&& (2147483647 : Int32)) % (2147483647 : Int32))), (.int (1 : Int32))])) _
    refine XS.iadd X0.here hx rfl (hb hby at_8) rfl ?_
    show Steps p.tables e below (s₁.setTop (mkF m 9 #[.val (.int p1), .val (.int p2), .unset, .unset, .unset, .unset, .unset, .unset, .unset] [(.int ((1 : Int32) + ((p1 &&& (2147483647 : Int32)) % (2147483647 : Int32))))])) _
    refine XS.istoreN X0.here hx rfl (hb hby at_9) rfl (l' := #[.val (.int p1), .val (.int p2), .val (.int ((1 : Int32) + ((p1 &&& (2147483647 : Int32)) % (2147483647 : Int32)))), .unset, .unset, .unset, .unset, .unset, .unset]) rfl ?_
    show Steps p.tables e below (s₁.setTop (mkF m 10 #[.val (.int p1), .val (.int p2), .val (.int ((1 : Int32) + ((p1 &&& (2147483647 : Int32)) % (2147483647 : Int32)))), .unset, .unset, .unset, .unset, .unset, .unset] [])) _
    refine XS.iconst X0.here hx rfl (hb hby at_10) ?_
    show Steps p.tables e below (s₁.setTop (mkF m 11 #[.val (.int p1), .val (.int p2), .val (.int ((1 : Int32) + ((p1 &&& (2147483647 : Int32)) % (2147483647 : Int32)))), .unset, .unset, .unset, .unset, .unset, .unset] [(.int (1 : Int32))])) _
    refine XS.iloadN X0.here hx rfl (hb hby at_11) rfl ?_
    show Steps p.tables e below (s₁.setTop (mkF m 12 #[.val (.int p1), .val (.int p2), .val (.int ((1 : Int32) + ((p1 &&& (2147483647 : Int32)) % (2147483647 : Int32)))), .unset, .unset, .unset, .unset, .unset, .unset] [(.int p2), (.int (1 : Int32))])) _
    refine X0.ldcInt hx hown (mvT hZ (hw _ (List.mem_of_getElem? (i := 0) rfl))) (g := (mkF m 12 #[.val (.int p1), .val (.int p2), .val (.int ((1 : Int32) + ((p1 &&& (2147483647 : Int32)) % (2147483647 : Int32)))), .unset, .unset, .unset, .unset, .unset, .unset] [(.int p2), (.int (1 : Int32))])) rfl (hb hby at_12) _ ?_
    show Steps p.tables e below (s₁.setTop (mkF m 14 #[.val (.int p1), .val (.int p2), .val (.int ((1 : Int32) + ((p1 &&& (2147483647 : Int32)) % (2147483647 : Int32)))), .unset, .unset, .unset, .unset, .unset, .unset] [(.int (2147483647 : Int32)), (.int p2), (.int (1 : Int32))])) _
    refine XS.iand X0.here hx rfl (hb hby at_14) rfl ?_
    show Steps p.tables e below (s₁.setTop (mkF m 15 #[.val (.int p1), .val (.int p2), .val (.int ((1 : Int32) + ((p1 &&& (2147483647 : Int32)) % (2147483647 : Int32)))), .unset, .unset, .unset, .unset, .unset, .unset] [(.int (p2 &&& (2147483647 : Int32))), (.int (1 : Int32))])) _
    refine XS.bipush X0.here hx rfl (hb hby at_15) ?_
    show Steps p.tables e below (s₁.setTop (mkF m 17 #[.val (.int p1), .val (.int p2), .val (.int ((1 : Int32) + ((p1 &&& (2147483647 : Int32)) % (2147483647 : Int32)))), .unset, .unset, .unset, .unset, .unset, .unset] [(.int (100 : Int32)), (.int (p2 &&& (2147483647 : Int32))), (.int (1 : Int32))])) _
    refine iremM X0 hx rfl (hb hby at_17) rfl (by decide) ?_
    show Steps p.tables e below (s₁.setTop (mkF m 18 #[.val (.int p1), .val (.int p2), .val (.int ((1 : Int32) + ((p1 &&& (2147483647 : Int32)) % (2147483647 : Int32)))), .unset, .unset, .unset, .unset, .unset, .unset] [(.int ((p2 &&& (2147483647 : Int32)) % (100 : Int32))), (.int (1 : Int32))])) _
    refine XS.iadd X0.here hx rfl (hb hby at_18) rfl ?_
    show Steps p.tables e below (s₁.setTop (mkF m 19 #[.val (.int p1), .val (.int p2), .val (.int ((1 : Int32) + ((p1 &&& (2147483647 : Int32)) % (2147483647 : Int32)))), .unset, .unset, .unset, .unset, .unset, .unset] [(.int ((1 : Int32) + ((p2 &&& (2147483647 : Int32)) % (100 : Int32))))])) _
    refine XS.istoreN X0.here hx rfl (hb hby at_19) rfl (l' := #[.val (.int p1), .val (.int p2), .val (.int ((1 : Int32) + ((p1 &&& (2147483647 : Int32)) % (2147483647 : Int32)))), .val (.int ((1 : Int32) + ((p2 &&& (2147483647 : Int32)) % (100 : Int32)))), .unset, .unset, .unset, .unset, .unset]) rfl ?_
    show Steps p.tables e below (s₁.setTop (mkF m 20 #[.val (.int p1), .val (.int p2), .val (.int ((1 : Int32) + ((p1 &&& (2147483647 : Int32)) % (2147483647 : Int32)))), .val (.int ((1 : Int32) + ((p2 &&& (2147483647 : Int32)) % (100 : Int32)))), .unset, .unset, .unset, .unset, .unset] [])) _
    exact k
  have hp := own_page p1
  have hn := own_per p2
  generalize gp : ((1 : Int32) + ((p1 &&& (2147483647 : Int32)) % (2147483647 : Int32))) = pg
  rw [gp] at hp
  generalize gn : ((1 : Int32) + ((p2 &&& (2147483647 : Int32)) % (100 : Int32))) = pn
  rw [gn] at hn
  obtain ⟨T1, h1, X1, e1, E1, A1, D1, -, st1⟩ := newO X0 hx hZ hown (hw _ (List.mem_of_getElem? (i := 1) rfl)) (hw _ (List.mem_of_getElem? (i := 2) rfl)) (hw _ (List.mem_of_getElem? (i := 3) rfl)) e0 (g := (mkF m 20 #[.val (.int p1), .val (.int p2), .val (.int pg), .val (.int pn), .unset, .unset, .unset, .unset, .unset] [])) rfl (hb hby at_20) (by decide) (by decide)
  obtain ⟨b1, gz1⟩ : ∃ z, z = h0.size := ⟨_, rfl⟩
  rw [← gz1] at A1 D1 st1
  have g_b1 : n0 ≤ b1 := Nat.le_trans Z0 (Nat.le_of_eq gz1.symm)
  have Z1 : n0 ≤ h1.size := Nat.le_trans Z0 E1.1
  have E_b1 := A1
  have F_page_b1 : Fld Z h1 b1 "com/example/token_mint/tokenmint/model/PageRequest" "page" "I" (.int (0 : Int32)) := D1 (Or.inr (hw _ (List.mem_of_getElem? (i := 16) rfl))) (ty := .int) (by decide)
  have F_perPage_b1 : Fld Z h1 b1 "com/example/token_mint/tokenmint/model/PageRequest" "perPage" "I" (.int (0 : Int32)) := D1 (Or.inr (hw _ (List.mem_of_getElem? (i := 18) rfl))) (ty := .int) (by decide)
  refine OEnds.go (t' := T1.setTop (mkF m 23 #[.val (.int p1), .val (.int p2), .val (.int pg), .val (.int pn), .unset, .unset, .unset, .unset, .unset] [(.ref b1)])) (fun _ k => st1 _ k) ?_
  refine OEnds.go (t' := T1.setTop (mkF m 26 #[.val (.int p1), .val (.int p2), .val (.int pg), .val (.int pn), .unset, .unset, .unset, .unset, .unset] [(.int pn), (.int pg), (.ref b1), (.ref b1)])) (fun _ k => ?_) ?_
  · show Steps p.tables e below (T1.setTop (mkF m 23 #[.val (.int p1), .val (.int p2), .val (.int pg), .val (.int pn), .unset, .unset, .unset, .unset, .unset] [(.ref b1)])) _
    refine XS.dup X1.here hx rfl (hb hby at_23) rfl rfl ?_
    show Steps p.tables e below (T1.setTop (mkF m 24 #[.val (.int p1), .val (.int p2), .val (.int pg), .val (.int pn), .unset, .unset, .unset, .unset, .unset] [(.ref b1), (.ref b1)])) _
    refine XS.iloadN X1.here hx rfl (hb hby at_24) rfl ?_
    show Steps p.tables e below (T1.setTop (mkF m 25 #[.val (.int p1), .val (.int p2), .val (.int pg), .val (.int pn), .unset, .unset, .unset, .unset, .unset] [(.int pg), (.ref b1), (.ref b1)])) _
    refine XS.iloadN X1.here hx rfl (hb hby at_25) rfl ?_
    show Steps p.tables e below (T1.setTop (mkF m 26 #[.val (.int p1), .val (.int p2), .val (.int pg), .val (.int pn), .unset, .unset, .unset, .unset, .unset] [(.int pn), (.int pg), (.ref b1), (.ref b1)])) _
    exact k
  obtain ⟨_, _, ⟨T2, L2, k2, n2⟩, -, X2, ⟨Lc2, hQ2, l2, y2, z2⟩, st2⟩ := X1.specialBack hx (y := (⟨"com/example/token_mint/tokenmint/model/PageRequest", "<init>", "(II)V"⟩ : MethodName)) rfl hown (mvT hZ (hw _ (List.mem_of_getElem? (i := 4) rfl))) (mvT hZ (hw _ (List.mem_of_getElem? (i := 5) rfl))) (mvT hZ (hw _ (List.mem_of_getElem? (i := 6) rfl))) (by decide) (backOf (W := 1) (rm1 l Z a0 hw [] b1 pg pn h1 n0 Z1 F_page_b1 F_perPage_b1 E_b1 g_b1 (own_c1 hp) (own_c1 hn.1) (own_c100 hn.2)) hZ (hw _ (List.mem_of_getElem? (i := 6) rfl)) (hw _ (List.mem_of_getElem? (i := 3) rfl)) (by decide) (by decide)) (g := (mkF m 26 #[.val (.int p1), .val (.int p2), .val (.int pg), .val (.int pn), .unset, .unset, .unset, .unset, .unset] [(.int pn), (.int pg), (.ref b1), (.ref b1)])) rfl (by rw [hml]; rfl) (Steps.refl _) (a := b1) (argsL := [(.int pg), (.int pn)]) (rest := [(.ref b1)]) (lenOf pd_rm0_0 rfl) rfl (by show 2 * 0 + _ ≤ _; exact Nat.le_of_eq rfl) (hb hby at_26) (fun _ _ => ⟨rfl, e1, (by decide : 1 + 0 ≤ _), (by decide : 2 + 0 ≤ _)⟩)
  dsimp only [Pt.U, Pt.locs, Pt.cells, Pt.slots] at X2 l2 y2 z2 st2 hQ2
  subst l2 y2 z2
  obtain ⟨rfl, N2q, Kc2, Ea2, Fa2, Fb2⟩ := hQ2
  have N2 := Fr.app N0 N2q
  have Z2 : n0 ≤ T2.heap.size := Nat.le_trans Z1 Kc2.1
  refine OEnds.go (t' := T2.setTop (mkF m 29 #[.val (.int p1), .val (.int p2), .val (.int pg), .val (.int pn), .unset, .unset, .unset, .unset, .unset] [(.ref b1)])) (fun _ k => st2.trans k) ?_
  have E_b1 := Ea2
  have F_page_b1 := Fa2
  have F_perPage_b1 := Fb2
  refine OEnds.go (t' := T2.setTop (mkF m 33 #[.val (.int p1), .val (.int p2), .val (.int pg), .val (.int pn), .val (.ref b1), .unset, .unset, .unset, .unset] [(.ref b1)])) (fun _ k => ?_) ?_
  · show Steps p.tables e below (T2.setTop (mkF m 29 #[.val (.int p1), .val (.int p2), .val (.int pg), .val (.int pn), .unset, .unset, .unset, .unset, .unset] [(.ref b1)])) _
    refine XS.astore X2.here hx rfl (hb hby at_29) rfl rfl (l' := #[.val (.int p1), .val (.int p2), .val (.int pg), .val (.int pn), .val (.ref b1), .unset, .unset, .unset, .unset]) rfl ?_
    show Steps p.tables e below (T2.setTop (mkF m 31 #[.val (.int p1), .val (.int p2), .val (.int pg), .val (.int pn), .val (.ref b1), .unset, .unset, .unset, .unset] [])) _
    refine XS.aload X2.here hx rfl (hb hby at_31) rfl rfl ?_
    show Steps p.tables e below (T2.setTop (mkF m 33 #[.val (.int p1), .val (.int p2), .val (.int pg), .val (.int pn), .val (.ref b1), .unset, .unset, .unset, .unset] [(.ref b1)])) _
    exact k
  obtain ⟨cq3, kq3, q3a, q3b, q3c⟩ := isOf hZ rfl E_b1
  obtain ⟨_, _, ⟨T3, L3, k3, n3⟩, -, X3, ⟨Lc3, hQ3, l3, y3, z3⟩, st3⟩ := X2.virtualBack hx (y := (⟨"com/example/token_mint/tokenmint/model/PageRequest", "offset", "()J"⟩ : MethodName)) (z := (⟨"com/example/token_mint/tokenmint/model/PageRequest", "offset", "()J"⟩ : MethodName)) hown (mvT hZ (hw _ (List.mem_of_getElem? (i := 19) rfl))) (mvT hZ (hw _ (List.mem_of_getElem? (i := 20) rfl))) (notFace_of_selects (args := #[]) (mvT hZ (hw _ (List.mem_of_getElem? (i := 22) rfl)))) (mvT hZ (hw _ (List.mem_of_getElem? (i := 22) rfl))) (mvT hZ (hw _ (List.mem_of_getElem? (i := 21) rfl))) (by decide) (backOf (W := 0) (rm4 l Z a0 hw [] b1 pg pn T2.heap n0 Z2 F_page_b1 F_perPage_b1) hZ (hw _ (List.mem_of_getElem? (i := 23) rfl)) (hw _ (List.mem_of_getElem? (i := 3) rfl)) (by decide) (by decide)) q3a q3c (g := (mkF m 33 #[.val (.int p1), .val (.int p2), .val (.int pg), .val (.int pn), .val (.ref b1), .unset, .unset, .unset, .unset] [(.ref b1)])) rfl (by rw [hml]; rfl) (Steps.refl _) (argsL := []) (rest := []) (lenOf pd_rm0_1 rfl) rfl (by show 2 * 0 + _ ≤ _; exact Nat.le_of_eq rfl) (hb hby at_33) (fun _ _ => ⟨rfl, rfl, (by decide : 1 + 0 ≤ _), (by decide : 2 + 0 ≤ _)⟩)
  dsimp only [Pt.U, Pt.locs, Pt.cells, Pt.slots] at X3 l3 y3 z3 st3 hQ3
  subst l3 y3 z3
  obtain ⟨rfl, N3q, eh⟩ := hQ3
  have N3 := Fr.app N2 N3q
  have eh3 := eh
  refine OEnds.go (t' := T3.setTop (mkF m 36 #[.val (.int p1), .val (.int p2), .val (.int pg), .val (.int pn), .val (.ref b1), .unset, .unset, .unset, .unset] [(.long (own_off pg pn))])) (fun _ k => st3.trans k) ?_
  refine OEnds.go (t' := T3.setTop (mkF m 42 #[.val (.int p1), .val (.int p2), .val (.int pg), .val (.int pn), .val (.ref b1), .val (.long (own_off pg pn)), .second, .unset, .unset] [(.int (lcmpW (own_off pg pn) (0 : Int64)))])) (fun _ k => ?_) ?_
  · show Steps p.tables e below (T3.setTop (mkF m 36 #[.val (.int p1), .val (.int p2), .val (.int pg), .val (.int pn), .val (.ref b1), .unset, .unset, .unset, .unset] [(.long (own_off pg pn))])) _
    refine XS.lstore X3.here hx rfl (hb hby at_36) rfl (l' := #[.val (.int p1), .val (.int p2), .val (.int pg), .val (.int pn), .val (.ref b1), .val (.long (own_off pg pn)), .second, .unset, .unset]) rfl ?_
    show Steps p.tables e below (T3.setTop (mkF m 38 #[.val (.int p1), .val (.int p2), .val (.int pg), .val (.int pn), .val (.ref b1), .val (.long (own_off pg pn)), .second, .unset, .unset] [])) _
    refine XS.lload X3.here hx rfl (hb hby at_38) rfl ?_
    show Steps p.tables e below (T3.setTop (mkF m 40 #[.val (.int p1), .val (.int p2), .val (.int pg), .val (.int pn), .val (.ref b1), .val (.long (own_off pg pn)), .second, .unset, .unset] [(.long (own_off pg pn))])) _
    refine XS.lconst X3.here hx rfl (hb hby at_40) ?_
    show Steps p.tables e below (T3.setTop (mkF m 41 #[.val (.int p1), .val (.int p2), .val (.int pg), .val (.int pn), .val (.ref b1), .val (.long (own_off pg pn)), .second, .unset, .unset] [(.long (0 : Int64)), (.long (own_off pg pn))])) _
    refine XS.lcmp X3.here hx rfl (hb hby at_41) rfl ?_
    show Steps p.tables e below (T3.setTop (mkF m 42 #[.val (.int p1), .val (.int p2), .val (.int pg), .val (.int pn), .val (.ref b1), .val (.long (own_off pg pn)), .second, .unset, .unset] [(.int (lcmpW (own_off pg pn) (0 : Int64)))])) _
    exact k
  refine OEnds.go (t' := T3.setTop (mkF m 45 #[.val (.int p1), .val (.int p2), .val (.int pg), .val (.int pn), .val (.ref b1), .val (.long (own_off pg pn)), .second, .unset, .unset] [])) (fun _ k => XS.ifNo X3.here hx rfl (hb hby at_42) rfl ((if0 _ _).trans (flt (own_r1 hp hn)).1) k) ?_
  refine OEnds.go (t' := T3.setTop (mkF m 52 #[.val (.int p1), .val (.int p2), .val (.int pg), .val (.int pn), .val (.ref b1), .val (.long (own_off pg pn)), .second, .unset, .unset] [(.int (lcmpW ((own_off pg pn) - (own_off pg pn) / (pn.toInt64) * (pn.toInt64)) (0 : Int64)))])) (fun _ k => ?_) ?_
  · show Steps p.tables e below (T3.setTop (mkF m 45 #[.val (.int p1), .val (.int p2), .val (.int pg), .val (.int pn), .val (.ref b1), .val (.long (own_off pg pn)), .second, .unset, .unset] [])) _
    refine XS.lload X3.here hx rfl (hb hby at_45) rfl ?_
    show Steps p.tables e below (T3.setTop (mkF m 47 #[.val (.int p1), .val (.int p2), .val (.int pg), .val (.int pn), .val (.ref b1), .val (.long (own_off pg pn)), .second, .unset, .unset] [(.long (own_off pg pn))])) _
    refine XS.iloadN X3.here hx rfl (hb hby at_47) rfl ?_
    show Steps p.tables e below (T3.setTop (mkF m 48 #[.val (.int p1), .val (.int p2), .val (.int pg), .val (.int pn), .val (.ref b1), .val (.long (own_off pg pn)), .second, .unset, .unset] [(.int pn), (.long (own_off pg pn))])) _
    refine XS.i2l X3.here hx rfl (hb hby at_48) rfl ?_
    show Steps p.tables e below (T3.setTop (mkF m 49 #[.val (.int p1), .val (.int p2), .val (.int pg), .val (.int pn), .val (.ref b1), .val (.long (own_off pg pn)), .second, .unset, .unset] [(.long (pn.toInt64)), (.long (own_off pg pn))])) _
    refine XS.lrem X3.here hx rfl (hb hby at_49) rfl (own_nz hn.1) ?_
    show Steps p.tables e below (T3.setTop (mkF m 50 #[.val (.int p1), .val (.int p2), .val (.int pg), .val (.int pn), .val (.ref b1), .val (.long (own_off pg pn)), .second, .unset, .unset] [(.long ((own_off pg pn) - (own_off pg pn) / (pn.toInt64) * (pn.toInt64)))])) _
    refine XS.lconst X3.here hx rfl (hb hby at_50) ?_
    show Steps p.tables e below (T3.setTop (mkF m 51 #[.val (.int p1), .val (.int p2), .val (.int pg), .val (.int pn), .val (.ref b1), .val (.long (own_off pg pn)), .second, .unset, .unset] [(.long (0 : Int64)), (.long ((own_off pg pn) - (own_off pg pn) / (pn.toInt64) * (pn.toInt64)))])) _
    refine XS.lcmp X3.here hx rfl (hb hby at_51) rfl ?_
    show Steps p.tables e below (T3.setTop (mkF m 52 #[.val (.int p1), .val (.int p2), .val (.int pg), .val (.int pn), .val (.ref b1), .val (.long (own_off pg pn)), .second, .unset, .unset] [(.int (lcmpW ((own_off pg pn) - (own_off pg pn) / (pn.toInt64) * (pn.toInt64)) (0 : Int64)))])) _
    exact k
  refine OEnds.go (t' := T3.setTop (mkF m 55 #[.val (.int p1), .val (.int p2), .val (.int pg), .val (.int pn), .val (.ref b1), .val (.long (own_off pg pn)), .second, .unset, .unset] [])) (fun _ k => XS.ifNo X3.here hx rfl (hb hby at_52) rfl ((if0 _ _).trans (teq (own_r2 hp hn)).2) k) ?_
  refine OEnds.go (t' := T3.setTop (mkF m 65 #[.val (.int p1), .val (.int p2), .val (.int pg), .val (.int pn), .val (.ref b1), .val (.long (own_off pg pn)), .second, .unset, .unset] [(.int (lcmpW ((own_off pg pn) / (pn.toInt64)) ((pg.toInt64) - (1 : Int64))))])) (fun _ k => ?_) ?_
  · show Steps p.tables e below (T3.setTop (mkF m 55 #[.val (.int p1), .val (.int p2), .val (.int pg), .val (.int pn), .val (.ref b1), .val (.long (own_off pg pn)), .second, .unset, .unset] [])) _
    refine XS.lload X3.here hx rfl (hb hby at_55) rfl ?_
    show Steps p.tables e below (T3.setTop (mkF m 57 #[.val (.int p1), .val (.int p2), .val (.int pg), .val (.int pn), .val (.ref b1), .val (.long (own_off pg pn)), .second, .unset, .unset] [(.long (own_off pg pn))])) _
    refine XS.iloadN X3.here hx rfl (hb hby at_57) rfl ?_
    show Steps p.tables e below (T3.setTop (mkF m 58 #[.val (.int p1), .val (.int p2), .val (.int pg), .val (.int pn), .val (.ref b1), .val (.long (own_off pg pn)), .second, .unset, .unset] [(.int pn), (.long (own_off pg pn))])) _
    refine XS.i2l X3.here hx rfl (hb hby at_58) rfl ?_
    show Steps p.tables e below (T3.setTop (mkF m 59 #[.val (.int p1), .val (.int p2), .val (.int pg), .val (.int pn), .val (.ref b1), .val (.long (own_off pg pn)), .second, .unset, .unset] [(.long (pn.toInt64)), (.long (own_off pg pn))])) _
    refine XS.ldiv X3.here hx rfl (hb hby at_59) rfl (own_nz hn.1) ?_
    show Steps p.tables e below (T3.setTop (mkF m 60 #[.val (.int p1), .val (.int p2), .val (.int pg), .val (.int pn), .val (.ref b1), .val (.long (own_off pg pn)), .second, .unset, .unset] [(.long ((own_off pg pn) / (pn.toInt64)))])) _
    refine XS.iloadN X3.here hx rfl (hb hby at_60) rfl ?_
    show Steps p.tables e below (T3.setTop (mkF m 61 #[.val (.int p1), .val (.int p2), .val (.int pg), .val (.int pn), .val (.ref b1), .val (.long (own_off pg pn)), .second, .unset, .unset] [(.int pg), (.long ((own_off pg pn) / (pn.toInt64)))])) _
    refine XS.i2l X3.here hx rfl (hb hby at_61) rfl ?_
    show Steps p.tables e below (T3.setTop (mkF m 62 #[.val (.int p1), .val (.int p2), .val (.int pg), .val (.int pn), .val (.ref b1), .val (.long (own_off pg pn)), .second, .unset, .unset] [(.long (pg.toInt64)), (.long ((own_off pg pn) / (pn.toInt64)))])) _
    refine XS.lconst X3.here hx rfl (hb hby at_62) ?_
    show Steps p.tables e below (T3.setTop (mkF m 63 #[.val (.int p1), .val (.int p2), .val (.int pg), .val (.int pn), .val (.ref b1), .val (.long (own_off pg pn)), .second, .unset, .unset] [(.long (1 : Int64)), (.long (pg.toInt64)), (.long ((own_off pg pn) / (pn.toInt64)))])) _
    refine XS.lsub X3.here hx rfl (hb hby at_63) rfl ?_
    show Steps p.tables e below (T3.setTop (mkF m 64 #[.val (.int p1), .val (.int p2), .val (.int pg), .val (.int pn), .val (.ref b1), .val (.long (own_off pg pn)), .second, .unset, .unset] [(.long ((pg.toInt64) - (1 : Int64))), (.long ((own_off pg pn) / (pn.toInt64)))])) _
    refine XS.lcmp X3.here hx rfl (hb hby at_64) rfl ?_
    show Steps p.tables e below (T3.setTop (mkF m 65 #[.val (.int p1), .val (.int p2), .val (.int pg), .val (.int pn), .val (.ref b1), .val (.long (own_off pg pn)), .second, .unset, .unset] [(.int (lcmpW ((own_off pg pn) / (pn.toInt64)) ((pg.toInt64) - (1 : Int64))))])) _
    exact k
  refine OEnds.go (t' := T3.setTop (mkF m 68 #[.val (.int p1), .val (.int p2), .val (.int pg), .val (.int pn), .val (.ref b1), .val (.long (own_off pg pn)), .second, .unset, .unset] [])) (fun _ k => XS.ifNo X3.here hx rfl (hb hby at_65) rfl ((if0 _ _).trans (teq (own_r3 hp hn)).2) k) ?_
  refine OEnds.go (t' := T3.setTop (mkF m 79 #[.val (.int p1), .val (.int p2), .val (.int pg), .val (.int pn), .val (.ref b1), .val (.long (own_off pg pn)), .second, .unset, .unset] [(.int (lcmpW (own_off pg pn) (((pg.toInt64) * (pn.toInt64)) - (pn.toInt64))))])) (fun _ k => ?_) ?_
  · show Steps p.tables e below (T3.setTop (mkF m 68 #[.val (.int p1), .val (.int p2), .val (.int pg), .val (.int pn), .val (.ref b1), .val (.long (own_off pg pn)), .second, .unset, .unset] [])) _
    refine XS.lload X3.here hx rfl (hb hby at_68) rfl ?_
    show Steps p.tables e below (T3.setTop (mkF m 70 #[.val (.int p1), .val (.int p2), .val (.int pg), .val (.int pn), .val (.ref b1), .val (.long (own_off pg pn)), .second, .unset, .unset] [(.long (own_off pg pn))])) _
    refine XS.iloadN X3.here hx rfl (hb hby at_70) rfl ?_
    show Steps p.tables e below (T3.setTop (mkF m 71 #[.val (.int p1), .val (.int p2), .val (.int pg), .val (.int pn), .val (.ref b1), .val (.long (own_off pg pn)), .second, .unset, .unset] [(.int pg), (.long (own_off pg pn))])) _
    refine XS.i2l X3.here hx rfl (hb hby at_71) rfl ?_
    show Steps p.tables e below (T3.setTop (mkF m 72 #[.val (.int p1), .val (.int p2), .val (.int pg), .val (.int pn), .val (.ref b1), .val (.long (own_off pg pn)), .second, .unset, .unset] [(.long (pg.toInt64)), (.long (own_off pg pn))])) _
    refine XS.iloadN X3.here hx rfl (hb hby at_72) rfl ?_
    show Steps p.tables e below (T3.setTop (mkF m 73 #[.val (.int p1), .val (.int p2), .val (.int pg), .val (.int pn), .val (.ref b1), .val (.long (own_off pg pn)), .second, .unset, .unset] [(.int pn), (.long (pg.toInt64)), (.long (own_off pg pn))])) _
    refine XS.i2l X3.here hx rfl (hb hby at_73) rfl ?_
    show Steps p.tables e below (T3.setTop (mkF m 74 #[.val (.int p1), .val (.int p2), .val (.int pg), .val (.int pn), .val (.ref b1), .val (.long (own_off pg pn)), .second, .unset, .unset] [(.long (pn.toInt64)), (.long (pg.toInt64)), (.long (own_off pg pn))])) _
    refine XS.lmul X3.here hx rfl (hb hby at_74) rfl ?_
    show Steps p.tables e below (T3.setTop (mkF m 75 #[.val (.int p1), .val (.int p2), .val (.int pg), .val (.int pn), .val (.ref b1), .val (.long (own_off pg pn)), .second, .unset, .unset] [(.long ((pg.toInt64) * (pn.toInt64))), (.long (own_off pg pn))])) _
    refine XS.iloadN X3.here hx rfl (hb hby at_75) rfl ?_
    show Steps p.tables e below (T3.setTop (mkF m 76 #[.val (.int p1), .val (.int p2), .val (.int pg), .val (.int pn), .val (.ref b1), .val (.long (own_off pg pn)), .second, .unset, .unset] [(.int pn), (.long ((pg.toInt64) * (pn.toInt64))), (.long (own_off pg pn))])) _
    refine XS.i2l X3.here hx rfl (hb hby at_76) rfl ?_
    show Steps p.tables e below (T3.setTop (mkF m 77 #[.val (.int p1), .val (.int p2), .val (.int pg), .val (.int pn), .val (.ref b1), .val (.long (own_off pg pn)), .second, .unset, .unset] [(.long (pn.toInt64)), (.long ((pg.toInt64) * (pn.toInt64))), (.long (own_off pg pn))])) _
    refine XS.lsub X3.here hx rfl (hb hby at_77) rfl ?_
    show Steps p.tables e below (T3.setTop (mkF m 78 #[.val (.int p1), .val (.int p2), .val (.int pg), .val (.int pn), .val (.ref b1), .val (.long (own_off pg pn)), .second, .unset, .unset] [(.long (((pg.toInt64) * (pn.toInt64)) - (pn.toInt64))), (.long (own_off pg pn))])) _
    refine XS.lcmp X3.here hx rfl (hb hby at_78) rfl ?_
    show Steps p.tables e below (T3.setTop (mkF m 79 #[.val (.int p1), .val (.int p2), .val (.int pg), .val (.int pn), .val (.ref b1), .val (.long (own_off pg pn)), .second, .unset, .unset] [(.int (lcmpW (own_off pg pn) (((pg.toInt64) * (pn.toInt64)) - (pn.toInt64))))])) _
    exact k
  refine OEnds.go (t' := T3.setTop (mkF m 82 #[.val (.int p1), .val (.int p2), .val (.int pg), .val (.int pn), .val (.ref b1), .val (.long (own_off pg pn)), .second, .unset, .unset] [])) (fun _ k => XS.ifNo X3.here hx rfl (hb hby at_79) rfl ((if0 _ _).trans (teq (own_r4 hp hn)).2) k) ?_
  refine OEnds.go (t' := T3.setTop (mkF m 92 #[.val (.int p1), .val (.int p2), .val (.int pg), .val (.int pn), .val (.ref b1), .val (.long (own_off pg pn)), .second, .val (.int (1 : Int32)), .unset] [(.int (2147483647 : Int32)), (.int pg)])) (fun _ k => ?_) ?_
  · show Steps p.tables e below (T3.setTop (mkF m 82 #[.val (.int p1), .val (.int p2), .val (.int pg), .val (.int pn), .val (.ref b1), .val (.long (own_off pg pn)), .second, .unset, .unset] [])) _
    refine XS.iconst X3.here hx rfl (hb hby at_82) ?_
    show Steps p.tables e below (T3.setTop (mkF m 83 #[.val (.int p1), .val (.int p2), .val (.int pg), .val (.int pn), .val (.ref b1), .val (.long (own_off pg pn)), .second, .unset, .unset] [(.int (1 : Int32))])) _
    refine XS.goto X3.here hx rfl (pc0 := 83) (pc' := 87) rfl (hb hby at_83) (by decide) (by decide) ?_
    show Steps p.tables e below (T3.setTop (mkF m 87 #[.val (.int p1), .val (.int p2), .val (.int pg), .val (.int pn), .val (.ref b1), .val (.long (own_off pg pn)), .second, .unset, .unset] [(.int (1 : Int32))])) _
    refine XS.istore X3.here hx rfl (hb hby at_87) rfl (l' := #[.val (.int p1), .val (.int p2), .val (.int pg), .val (.int pn), .val (.ref b1), .val (.long (own_off pg pn)), .second, .val (.int (1 : Int32)), .unset]) rfl ?_
    show Steps p.tables e below (T3.setTop (mkF m 89 #[.val (.int p1), .val (.int p2), .val (.int pg), .val (.int pn), .val (.ref b1), .val (.long (own_off pg pn)), .second, .val (.int (1 : Int32)), .unset] [])) _
    refine XS.iloadN X3.here hx rfl (hb hby at_89) rfl ?_
    show Steps p.tables e below (T3.setTop (mkF m 90 #[.val (.int p1), .val (.int p2), .val (.int pg), .val (.int pn), .val (.ref b1), .val (.long (own_off pg pn)), .second, .val (.int (1 : Int32)), .unset] [(.int pg)])) _
    refine X3.ldcInt hx hown (mvT hZ (hw _ (List.mem_of_getElem? (i := 0) rfl))) (g := (mkF m 90 #[.val (.int p1), .val (.int p2), .val (.int pg), .val (.int pn), .val (.ref b1), .val (.long (own_off pg pn)), .second, .val (.int (1 : Int32)), .unset] [(.int pg)])) rfl (hb hby at_90) _ ?_
    show Steps p.tables e below (T3.setTop (mkF m 92 #[.val (.int p1), .val (.int p2), .val (.int pg), .val (.int pn), .val (.ref b1), .val (.long (own_off pg pn)), .second, .val (.int (1 : Int32)), .unset] [(.int (2147483647 : Int32)), (.int pg)])) _
    exact k
  by_cases h92 : pg < (2147483647 : Int32)
  · refine OEnds.go (t' := T3.setTop (mkF m 95 #[.val (.int p1), .val (.int p2), .val (.int pg), .val (.int pn), .val (.ref b1), .val (.long (own_off pg pn)), .second, .val (.int (1 : Int32)), .unset] [])) (fun _ k => XS.icmpNo X3.here hx rfl (hb hby at_92) rfl (tlt h92).2.1 k) ?_
    obtain ⟨T4, h4, X4, e4, E4, A4, D4, -, st4⟩ := newO X3 hx hZ hown (hw _ (List.mem_of_getElem? (i := 1) rfl)) (hw _ (List.mem_of_getElem? (i := 2) rfl)) (hw _ (List.mem_of_getElem? (i := 3) rfl)) eh3 (g := (mkF m 95 #[.val (.int p1), .val (.int p2), .val (.int pg), .val (.int pn), .val (.ref b1), .val (.long (own_off pg pn)), .second, .val (.int (1 : Int32)), .unset] [])) rfl (hb hby at_95) (by decide) (by decide)
    obtain ⟨b2, gz4⟩ : ∃ z, z = T2.heap.size := ⟨_, rfl⟩
    rw [← gz4] at A4 D4 st4
    have ne_b1_b2 : b1 ≠ b2 := Nat.ne_of_lt (Nat.lt_of_lt_of_le E_b1.lt (Nat.le_of_eq gz4.symm))
    have g_b2 : n0 ≤ b2 := Nat.le_trans Z2 (Nat.le_of_eq gz4.symm)
    have E_b1 := E_b1.ext E4
    have F_page_b1 := F_page_b1.ext E4
    have F_perPage_b1 := F_perPage_b1.ext E4
    have Z4 : n0 ≤ h4.size := Nat.le_trans Z2 E4.1
    have E_b2 := A4
    have F_page_b2 : Fld Z h4 b2 "com/example/token_mint/tokenmint/model/PageRequest" "page" "I" (.int (0 : Int32)) := D4 (Or.inr (hw _ (List.mem_of_getElem? (i := 16) rfl))) (ty := .int) (by decide)
    have F_perPage_b2 : Fld Z h4 b2 "com/example/token_mint/tokenmint/model/PageRequest" "perPage" "I" (.int (0 : Int32)) := D4 (Or.inr (hw _ (List.mem_of_getElem? (i := 18) rfl))) (ty := .int) (by decide)
    refine OEnds.go (t' := T4.setTop (mkF m 98 #[.val (.int p1), .val (.int p2), .val (.int pg), .val (.int pn), .val (.ref b1), .val (.long (own_off pg pn)), .second, .val (.int (1 : Int32)), .unset] [(.ref b2)])) (fun _ k => st4 _ k) ?_
    refine OEnds.go (t' := T4.setTop (mkF m 103 #[.val (.int p1), .val (.int p2), .val (.int pg), .val (.int pn), .val (.ref b1), .val (.long (own_off pg pn)), .second, .val (.int (1 : Int32)), .unset] [(.int pn), (.int (pg + (1 : Int32))), (.ref b2), (.ref b2)])) (fun _ k => ?_) ?_
    · show Steps p.tables e below (T4.setTop (mkF m 98 #[.val (.int p1), .val (.int p2), .val (.int pg), .val (.int pn), .val (.ref b1), .val (.long (own_off pg pn)), .second, .val (.int (1 : Int32)), .unset] [(.ref b2)])) _
      refine XS.dup X4.here hx rfl (hb hby at_98) rfl rfl ?_
      show Steps p.tables e below (T4.setTop (mkF m 99 #[.val (.int p1), .val (.int p2), .val (.int pg), .val (.int pn), .val (.ref b1), .val (.long (own_off pg pn)), .second, .val (.int (1 : Int32)), .unset] [(.ref b2), (.ref b2)])) _
      refine XS.iloadN X4.here hx rfl (hb hby at_99) rfl ?_
      show Steps p.tables e below (T4.setTop (mkF m 100 #[.val (.int p1), .val (.int p2), .val (.int pg), .val (.int pn), .val (.ref b1), .val (.long (own_off pg pn)), .second, .val (.int (1 : Int32)), .unset] [(.int pg), (.ref b2), (.ref b2)])) _
      refine XS.iconst X4.here hx rfl (hb hby at_100) ?_
      show Steps p.tables e below (T4.setTop (mkF m 101 #[.val (.int p1), .val (.int p2), .val (.int pg), .val (.int pn), .val (.ref b1), .val (.long (own_off pg pn)), .second, .val (.int (1 : Int32)), .unset] [(.int (1 : Int32)), (.int pg), (.ref b2), (.ref b2)])) _
      refine XS.iadd X4.here hx rfl (hb hby at_101) rfl ?_
      show Steps p.tables e below (T4.setTop (mkF m 102 #[.val (.int p1), .val (.int p2), .val (.int pg), .val (.int pn), .val (.ref b1), .val (.long (own_off pg pn)), .second, .val (.int (1 : Int32)), .unset] [(.int (pg + (1 : Int32))), (.ref b2), (.ref b2)])) _
      refine XS.iloadN X4.here hx rfl (hb hby at_102) rfl ?_
      show Steps p.tables e below (T4.setTop (mkF m 103 #[.val (.int p1), .val (.int p2), .val (.int pg), .val (.int pn), .val (.ref b1), .val (.long (own_off pg pn)), .second, .val (.int (1 : Int32)), .unset] [(.int pn), (.int (pg + (1 : Int32))), (.ref b2), (.ref b2)])) _
      exact k
    obtain ⟨_, _, ⟨T5, L5, k5, n5⟩, -, X5, ⟨Lc5, hQ5, l5, y5, z5⟩, st5⟩ := X4.specialBack hx (y := (⟨"com/example/token_mint/tokenmint/model/PageRequest", "<init>", "(II)V"⟩ : MethodName)) rfl hown (mvT hZ (hw _ (List.mem_of_getElem? (i := 4) rfl))) (mvT hZ (hw _ (List.mem_of_getElem? (i := 5) rfl))) (mvT hZ (hw _ (List.mem_of_getElem? (i := 6) rfl))) (by decide) (backOf (W := 1) (rm1 l Z a0 hw [] b2 (pg + 1) pn h4 n0 Z4 F_page_b2 F_perPage_b2 E_b2 g_b2 (own_c1 (by rw [own_next h92]; omega)) (own_c1 hn.1) (own_c100 hn.2)) hZ (hw _ (List.mem_of_getElem? (i := 6) rfl)) (hw _ (List.mem_of_getElem? (i := 3) rfl)) (by decide) (by decide)) (g := (mkF m 103 #[.val (.int p1), .val (.int p2), .val (.int pg), .val (.int pn), .val (.ref b1), .val (.long (own_off pg pn)), .second, .val (.int (1 : Int32)), .unset] [(.int pn), (.int (pg + (1 : Int32))), (.ref b2), (.ref b2)])) rfl (by rw [hml]; rfl) (Steps.refl _) (a := b2) (argsL := [(.int (pg + (1 : Int32))), (.int pn)]) (rest := [(.ref b2)]) (lenOf pd_rm0_0 rfl) rfl (by show 2 * 0 + _ ≤ _; exact Nat.le_of_eq rfl) (hb hby at_103) (fun _ _ => ⟨rfl, e4, (by decide : 2 + 0 ≤ _), (by decide : 4 + 0 ≤ _)⟩)
    dsimp only [Pt.U, Pt.locs, Pt.cells, Pt.slots] at X5 l5 y5 z5 st5 hQ5
    subst l5 y5 z5
    obtain ⟨rfl, N5q, Kc5, Ea5, Fa5, Fb5⟩ := hQ5
    have N5 := Fr.app N3 N5q
    have E_b1 := E_b1.keep Kc5
    have F_page_b1 := F_page_b1.keep Kc5 (ninS ne_b1_b2 nin0)
    have F_perPage_b1 := F_perPage_b1.keep Kc5 (ninS ne_b1_b2 nin0)
    have Z5 : n0 ≤ T5.heap.size := Nat.le_trans Z4 Kc5.1
    refine OEnds.go (t' := T5.setTop (mkF m 106 #[.val (.int p1), .val (.int p2), .val (.int pg), .val (.int pn), .val (.ref b1), .val (.long (own_off pg pn)), .second, .val (.int (1 : Int32)), .unset] [(.ref b2)])) (fun _ k => st5.trans k) ?_
    refine OEnds.go (t' := T5.setTop (mkF m 110 #[.val (.int p1), .val (.int p2), .val (.int pg), .val (.int pn), .val (.ref b1), .val (.long (own_off pg pn)), .second, .val (.int (1 : Int32)), .val (.ref b2)] [(.int (1 : Int32))])) (fun _ k => ?_) ?_
    · show Steps p.tables e below (T5.setTop (mkF m 106 #[.val (.int p1), .val (.int p2), .val (.int pg), .val (.int pn), .val (.ref b1), .val (.long (own_off pg pn)), .second, .val (.int (1 : Int32)), .unset] [(.ref b2)])) _
      refine XS.astore X5.here hx rfl (hb hby at_106) rfl rfl (l' := #[.val (.int p1), .val (.int p2), .val (.int pg), .val (.int pn), .val (.ref b1), .val (.long (own_off pg pn)), .second, .val (.int (1 : Int32)), .val (.ref b2)]) rfl ?_
      show Steps p.tables e below (T5.setTop (mkF m 108 #[.val (.int p1), .val (.int p2), .val (.int pg), .val (.int pn), .val (.ref b1), .val (.long (own_off pg pn)), .second, .val (.int (1 : Int32)), .val (.ref b2)] [])) _
      refine XS.iload X5.here hx rfl (hb hby at_108) rfl ?_
      show Steps p.tables e below (T5.setTop (mkF m 110 #[.val (.int p1), .val (.int p2), .val (.int pg), .val (.int pn), .val (.ref b1), .val (.long (own_off pg pn)), .second, .val (.int (1 : Int32)), .val (.ref b2)] [(.int (1 : Int32))])) _
      exact k
    refine OEnds.go (t' := T5.setTop (mkF m 113 #[.val (.int p1), .val (.int p2), .val (.int pg), .val (.int pn), .val (.ref b1), .val (.long (own_off pg pn)), .second, .val (.int (1 : Int32)), .val (.ref b2)] [])) (fun _ k => XS.ifNo X5.here hx rfl (hb hby at_110) rfl ((if0 _ _).trans (feq (by decide)).1) k) ?_
    refine OEnds.go (t' := T5.setTop (mkF m 115 #[.val (.int p1), .val (.int p2), .val (.int pg), .val (.int pn), .val (.ref b1), .val (.long (own_off pg pn)), .second, .val (.int (1 : Int32)), .val (.ref b2)] [(.ref b2)])) (fun _ k => ?_) ?_
    · show Steps p.tables e below (T5.setTop (mkF m 113 #[.val (.int p1), .val (.int p2), .val (.int pg), .val (.int pn), .val (.ref b1), .val (.long (own_off pg pn)), .second, .val (.int (1 : Int32)), .val (.ref b2)] [])) _
      refine XS.aload X5.here hx rfl (hb hby at_113) rfl rfl ?_
      show Steps p.tables e below (T5.setTop (mkF m 115 #[.val (.int p1), .val (.int p2), .val (.int pg), .val (.int pn), .val (.ref b1), .val (.long (own_off pg pn)), .second, .val (.int (1 : Int32)), .val (.ref b2)] [(.ref b2)])) _
      exact k
    obtain ⟨cq6, kq6, q6a, q6b, q6c⟩ := isOf hZ rfl Ea5
    obtain ⟨_, _, ⟨T6, L6, k6, n6⟩, -, X6, ⟨Lc6, hQ6, l6, y6, z6⟩, st6⟩ := X5.virtualBack hx (y := (⟨"com/example/token_mint/tokenmint/model/PageRequest", "offset", "()J"⟩ : MethodName)) (z := (⟨"com/example/token_mint/tokenmint/model/PageRequest", "offset", "()J"⟩ : MethodName)) hown (mvT hZ (hw _ (List.mem_of_getElem? (i := 19) rfl))) (mvT hZ (hw _ (List.mem_of_getElem? (i := 20) rfl))) (notFace_of_selects (args := #[]) (mvT hZ (hw _ (List.mem_of_getElem? (i := 22) rfl)))) (mvT hZ (hw _ (List.mem_of_getElem? (i := 22) rfl))) (mvT hZ (hw _ (List.mem_of_getElem? (i := 21) rfl))) (by decide) (backOf (W := 0) (rm4 l Z a0 hw [] b2 (pg + 1) pn T5.heap n0 Z5 Fa5 Fb5) hZ (hw _ (List.mem_of_getElem? (i := 23) rfl)) (hw _ (List.mem_of_getElem? (i := 3) rfl)) (by decide) (by decide)) q6a q6c (g := (mkF m 115 #[.val (.int p1), .val (.int p2), .val (.int pg), .val (.int pn), .val (.ref b1), .val (.long (own_off pg pn)), .second, .val (.int (1 : Int32)), .val (.ref b2)] [(.ref b2)])) rfl (by rw [hml]; rfl) (Steps.refl _) (argsL := []) (rest := []) (lenOf pd_rm0_1 rfl) rfl (by show 2 * 0 + _ ≤ _; exact Nat.le_of_eq rfl) (hb hby at_115) (fun _ _ => ⟨rfl, rfl, (by decide : 2 + 0 ≤ _), (by decide : 4 + 0 ≤ _)⟩)
    dsimp only [Pt.U, Pt.locs, Pt.cells, Pt.slots] at X6 l6 y6 z6 st6 hQ6
    subst l6 y6 z6
    obtain ⟨rfl, N6q, eh⟩ := hQ6
    have N6 := Fr.app N5 N6q
    have eh6 := eh
    refine OEnds.go (t' := T6.setTop (mkF m 118 #[.val (.int p1), .val (.int p2), .val (.int pg), .val (.int pn), .val (.ref b1), .val (.long (own_off pg pn)), .second, .val (.int (1 : Int32)), .val (.ref b2)] [(.long (own_off (pg + 1) pn))])) (fun _ k => st6.trans k) ?_
    refine OEnds.go (t' := T6.setTop (mkF m 124 #[.val (.int p1), .val (.int p2), .val (.int pg), .val (.int pn), .val (.ref b1), .val (.long (own_off pg pn)), .second, .val (.int (1 : Int32)), .val (.ref b2)] [(.int (lcmpW (own_off (pg + 1) pn) ((own_off pg pn) + (pn.toInt64))))])) (fun _ k => ?_) ?_
    · show Steps p.tables e below (T6.setTop (mkF m 118 #[.val (.int p1), .val (.int p2), .val (.int pg), .val (.int pn), .val (.ref b1), .val (.long (own_off pg pn)), .second, .val (.int (1 : Int32)), .val (.ref b2)] [(.long (own_off (pg + 1) pn))])) _
      refine XS.lload X6.here hx rfl (hb hby at_118) rfl ?_
      show Steps p.tables e below (T6.setTop (mkF m 120 #[.val (.int p1), .val (.int p2), .val (.int pg), .val (.int pn), .val (.ref b1), .val (.long (own_off pg pn)), .second, .val (.int (1 : Int32)), .val (.ref b2)] [(.long (own_off pg pn)), (.long (own_off (pg + 1) pn))])) _
      refine XS.iloadN X6.here hx rfl (hb hby at_120) rfl ?_
      show Steps p.tables e below (T6.setTop (mkF m 121 #[.val (.int p1), .val (.int p2), .val (.int pg), .val (.int pn), .val (.ref b1), .val (.long (own_off pg pn)), .second, .val (.int (1 : Int32)), .val (.ref b2)] [(.int pn), (.long (own_off pg pn)), (.long (own_off (pg + 1) pn))])) _
      refine XS.i2l X6.here hx rfl (hb hby at_121) rfl ?_
      show Steps p.tables e below (T6.setTop (mkF m 122 #[.val (.int p1), .val (.int p2), .val (.int pg), .val (.int pn), .val (.ref b1), .val (.long (own_off pg pn)), .second, .val (.int (1 : Int32)), .val (.ref b2)] [(.long (pn.toInt64)), (.long (own_off pg pn)), (.long (own_off (pg + 1) pn))])) _
      refine XS.ladd X6.here hx rfl (hb hby at_122) rfl ?_
      show Steps p.tables e below (T6.setTop (mkF m 123 #[.val (.int p1), .val (.int p2), .val (.int pg), .val (.int pn), .val (.ref b1), .val (.long (own_off pg pn)), .second, .val (.int (1 : Int32)), .val (.ref b2)] [(.long ((own_off pg pn) + (pn.toInt64))), (.long (own_off (pg + 1) pn))])) _
      refine XS.lcmp X6.here hx rfl (hb hby at_123) rfl ?_
      show Steps p.tables e below (T6.setTop (mkF m 124 #[.val (.int p1), .val (.int p2), .val (.int pg), .val (.int pn), .val (.ref b1), .val (.long (own_off pg pn)), .second, .val (.int (1 : Int32)), .val (.ref b2)] [(.int (lcmpW (own_off (pg + 1) pn) ((own_off pg pn) + (pn.toInt64))))])) _
      exact k
    refine OEnds.go (t' := T6.setTop (mkF m 127 #[.val (.int p1), .val (.int p2), .val (.int pg), .val (.int pn), .val (.ref b1), .val (.long (own_off pg pn)), .second, .val (.int (1 : Int32)), .val (.ref b2)] [])) (fun _ k => XS.ifNo X6.here hx rfl (hb hby at_124) rfl ((if0 _ _).trans (teq (own_r5 hp hn h92)).2) k) ?_
    refine OEnds.go (t' := T6.setTop (mkF m 136 #[.val (.int p1), .val (.int p2), .val (.int pg), .val (.int pn), .val (.ref b1), .val (.long (own_off pg pn)), .second, .val (.int (1 : Int32)), .val (.ref b2)] [(.int (1 : Int32))])) (fun _ k => ?_) ?_
    · show Steps p.tables e below (T6.setTop (mkF m 127 #[.val (.int p1), .val (.int p2), .val (.int pg), .val (.int pn), .val (.ref b1), .val (.long (own_off pg pn)), .second, .val (.int (1 : Int32)), .val (.ref b2)] [])) _
      refine XS.iconst X6.here hx rfl (hb hby at_127) ?_
      show Steps p.tables e below (T6.setTop (mkF m 128 #[.val (.int p1), .val (.int p2), .val (.int pg), .val (.int pn), .val (.ref b1), .val (.long (own_off pg pn)), .second, .val (.int (1 : Int32)), .val (.ref b2)] [(.int (1 : Int32))])) _
      refine XS.goto X6.here hx rfl (pc0 := 128) (pc' := 132) rfl (hb hby at_128) (by decide) (by decide) ?_
      show Steps p.tables e below (T6.setTop (mkF m 132 #[.val (.int p1), .val (.int p2), .val (.int pg), .val (.int pn), .val (.ref b1), .val (.long (own_off pg pn)), .second, .val (.int (1 : Int32)), .val (.ref b2)] [(.int (1 : Int32))])) _
      refine XS.istore X6.here hx rfl (hb hby at_132) rfl (l' := #[.val (.int p1), .val (.int p2), .val (.int pg), .val (.int pn), .val (.ref b1), .val (.long (own_off pg pn)), .second, .val (.int (1 : Int32)), .val (.ref b2)]) rfl ?_
      show Steps p.tables e below (T6.setTop (mkF m 134 #[.val (.int p1), .val (.int p2), .val (.int pg), .val (.int pn), .val (.ref b1), .val (.long (own_off pg pn)), .second, .val (.int (1 : Int32)), .val (.ref b2)] [])) _
      refine XS.iload X6.here hx rfl (hb hby at_134) rfl ?_
      show Steps p.tables e below (T6.setTop (mkF m 136 #[.val (.int p1), .val (.int p2), .val (.int pg), .val (.int pn), .val (.ref b1), .val (.long (own_off pg pn)), .second, .val (.int (1 : Int32)), .val (.ref b2)] [(.int (1 : Int32))])) _
      exact k
    refine OEnds.back X6 hlk (v := (some (.int (1 : Int32)))) (fun h => by rw [hrt] at h; cases h) (fun fs hr => ?_) ?_ (by decide) (by decide)
    · exact retN X6 hx (t := .boolean) hrt (by simp) (hb hby at_136) hr
    · show Q0 Z p1 p2  h0 n0 _ T6.heap _
      rw [eh6]
      exact ⟨rfl, N6⟩
  · refine OEnds.go (t' := T3.setTop (mkF m 134 #[.val (.int p1), .val (.int p2), .val (.int pg), .val (.int pn), .val (.ref b1), .val (.long (own_off pg pn)), .second, .val (.int (1 : Int32)), .unset] [])) (fun _ k => XS.icmpYes X3.here hx rfl (pc0 := 92) (pc' := 134) rfl (hb hby at_92) rfl (flt h92).2.1 (by decide) (by decide) k) ?_
    refine OEnds.go (t' := T3.setTop (mkF m 136 #[.val (.int p1), .val (.int p2), .val (.int pg), .val (.int pn), .val (.ref b1), .val (.long (own_off pg pn)), .second, .val (.int (1 : Int32)), .unset] [(.int (1 : Int32))])) (fun _ k => ?_) ?_
    · show Steps p.tables e below (T3.setTop (mkF m 134 #[.val (.int p1), .val (.int p2), .val (.int pg), .val (.int pn), .val (.ref b1), .val (.long (own_off pg pn)), .second, .val (.int (1 : Int32)), .unset] [])) _
      refine XS.iload X3.here hx rfl (hb hby at_134) rfl ?_
      show Steps p.tables e below (T3.setTop (mkF m 136 #[.val (.int p1), .val (.int p2), .val (.int pg), .val (.int pn), .val (.ref b1), .val (.long (own_off pg pn)), .second, .val (.int (1 : Int32)), .unset] [(.int (1 : Int32))])) _
      exact k
    refine OEnds.back X3 hlk (v := (some (.int (1 : Int32)))) (fun h => by rw [hrt] at h; cases h) (fun fs hr => ?_) ?_ (by decide) (by decide)
    · exact retN X3 hx (t := .boolean) hrt (by simp) (hb hby at_136) hr
    · show Q0 Z p1 p2  h0 n0 _ T3.heap _
      rw [eh3]
      exact ⟨rfl, N3⟩
set_option maxRecDepth 65536 in
set_option maxHeartbeats 40000000 in
theorem comes_1 {Post : Tables → Env → Array Value → State → Outcome → State → Prop} (hpost : ∀ tb e args s v u, (limb_1_1.after args s (.returned v) u = true ∧ limb_1_2.after args s (.returned v) u = true ∧ True) → FrameEnd s (.returned v) u (Jvm.fieldLocs frame_1_writes args s ++ Jvm.arrayLocs frame_1_arrays args s ++ Jvm.staticLocs frame_1_statics s) 16 128 → Post tb e args s (.returned v) u) :
    ArmFor flags0 classFile x code maxLocals ret World_1 tables_1 room_1 Calls_1 rest_1 Pre_1 Post := by
  intro l hfl _ _ p e ha hc hk s m args below hf hA hF happ hP
  obtain ⟨hcalls, hrest, hpre⟩ := hP
  obtain ⟨-, -, -, hnamed, -, -, -, hat⟩ := (Spec.applies_iff hf).mp happ
  obtain ⟨hg, hn⟩ := and_e (Cond.before_iff.mp (show (Jvm.Cond.and given_1 narrow_1).before args s = true from hpre))
  obtain ⟨gc, g0⟩ := and_e hg
  obtain ⟨ga0, g1⟩ := and_e g0
  obtain ⟨w0, w1, rfl⟩ : ∃ w0 w1 : Value, args = #[w0, w1] := by
    have hs : args.size = 2 := by simpa [Cond.value, given_1] using gc
    obtain ⟨L⟩ := args
    match L, hs with
    | [w0, w1], _ => exact ⟨w0, w1, rfl⟩
  have hw := fun d (hd : d ∈ tables_1) => atoms_spec (ws := Jvm.Cond.code x code maxLocals ret :: tables_1) hat d (List.mem_cons_of_mem _ hd)
  have hfit : Fit s := fun {y c} hc i hi => by
    obtain ⟨ha, rfl⟩ := Array.getElem?_eq_some_iff.mp hc
    have q := List.all_eq_true.mp ((Array.all_eq_true_iff_forall_mem.mp hF) _ (Array.getElem_mem ha)) i (List.mem_range.mpr hi)
    simpa [Array.getElem?_eq_getElem hi] using q
  obtain ⟨i0, ei0⟩ := is_v ga0
  obtain rfl : w0 = (.int i0) := Option.some.inj ei0
  obtain ⟨i1, ei1⟩ := is_v g1
  obtain rfl : w1 = (.int i1) := Option.some.inj ei1
  obtain ⟨n, o, h1, h2, h3, _, L, rfl, ⟨rfl, N⟩, hq⟩ := rm0 l s _ hw tables_1 i0 i1  s.heap s.heap.size (Nat.le_refl _)  p e ha hc hk s m _ below hf ((Spec.applies_iff_loose hf).mp happ).1 ⟨rfl, State.Warmed39.refl s, rfl⟩ trivial
  refine ⟨n, _, h1, h2, h3, hpost _ _ _ _ _ _ ⟨Cond.after_iff.mpr rfl, Cond.after_iff.mpr (eq_i res_at (Term.int_eval (1)) rfl), trivial⟩ ⟨hq.1, hq.2.1, (hq.2.2.sift fun y hy => Or.inr (N y hy)).mono (by decide) (by decide)⟩⟩
theorem main_1_1 : Claimed_1_1 := comes_1 fun _ _ _ _ _ _ h hF => ⟨h.1, hF⟩
theorem main_1_2 : Claimed_1_2 := comes_1 fun _ _ _ _ _ _ h hF => ⟨h.2.1, hF⟩
end Jvm.Pilot.@@N@@
namespace Jvm.Pilot.@@N@@
open Jvm Jvm.ClassFile Sem Op Lib Jvm.Free Jvm.Stand Jvm.Pilot.@@N@@.Jvm.D
/-! MADE BY PROGRAM (witnessworld.py) out of the Statement's table words and the real class files: 8 classes; the members and pool entries that the words name. The judged class is class 1, her method 1. -/
namespace start1
open Jvm.ClassFile
def u (s : String) : CpInfo := .utf8 (stringToUtf16 s)
/-- a pool by its gaps: so many unusable entries, then the entry; so many at the end -/
def gap : Nat → List CpInfo → List CpInfo
  | 0, r => r
  | n + 1, r => .unusable :: gap n r
def poolList (es : List (Nat × CpInfo)) (last : Nat) : List CpInfo := es.foldr (fun e r => gap e.1 (e.2 :: r)) (gap last [])
def pool (es : List (Nat × CpInfo)) (last : Nat) : Array CpInfo := ⟨poolList es last⟩
def fileOf (pool : Array CpInfo) (this : Nat) (attrs : Array Attribute := #[]) (ms : Array MethodInfo := #[]) (fl : Nat := 33) (sup : Nat := 0) (ifs : Array Nat := #[]) (fds : Array FieldInfo := #[]) : ClassFile where
  minorVersion := 0
  majorVersion := 65
  constantPool := pool
  accessFlags := fl
  thisClass := this
  superClass := sup
  interfaces := ifs
  fields := fds
  methods := ms
  attributes := attrs
def plain (name : String) (sup : Option ClassId) : Class where
  name := name
  kind := .ordinary
  loader := none
  accessFlags := 33
  super := sup
  interfaces := #[]
  cf := none
  fields := #[]
  methods := #[]
  instanceTypes := #[]
  staticTypes := #[]
  resolved := #[]
  callSites := []
  init := .initialized
  statics := none
  mirror := none

def pool0 : Array CpInfo := pool [(5, u "<init>"), (0, u "()V"), (1, .class_ 10), (1, u "java/lang/Object")] 113

def k0c0 : Code := { maxStack := 0, maxLocals := 1, code := object_method_1_code, exceptionTable := #[], attributes := #[] }
def k0m0 : Method := { name := "<init>", desc := "()V", sig := { parameters := [], returnType := none }, accessFlags := 1, code := some k0c0 }
/-- java/lang/Object -/
def k0 : Class := { plain "java/lang/Object" none with
  accessFlags := 33
  interfaces := #[]
  cf := some (fileOf pool0 8 #[] #[{ accessFlags := 1, nameIndex := 5, descriptorIndex := 6, attributes := #[] }] 33 0 #[] #[])
  fields := #[]
  methods := #[k0m0]
  instanceTypes := #[]
  staticTypes := #[]
  resolved := Array.replicate 124 none
  statics := none }

def pool1 : Array CpInfo := pool [(2, .class_ 4), (1, u "java/lang/Object"), (0, u "<init>"), (0, u "()V"), (0, .integer 2147483647), (0, .class_ 9), (0, u "com/example/token_mint/tokenmint/model/PageRequest"), (0, .methodref 8 11), (0, .nameAndType 5 12), (0, u "(II)V"), (0, .methodref 8 14), (0, .nameAndType 15 16), (0, u "offset"), (0, u "()J"), (2, .class_ 20), (0, u "com/example/token_mint/tokenmint/model/PageRequestOffsetPinLaw"), (2, u "law"), (0, u "(II)Z")] 3

def k1m0 : Method := { name := "<init>", desc := "()V", sig := { parameters := [], returnType := none }, accessFlags := 1, code := none }
def k1c1 : Code := { maxStack := 6, maxLocals := 9, code := code, exceptionTable := #[], attributes := #[] }
def k1m1 : Method := { name := "law", desc := "(II)Z", sig := { parameters := [.int, .int], returnType := some .boolean }, accessFlags := 9, code := some k1c1 }
/-- com/example/token_mint/tokenmint/model/PageRequestOffsetPinLaw -/
def k1 : Class := { plain "com/example/token_mint/tokenmint/model/PageRequestOffsetPinLaw" (some 0) with
  accessFlags := 49
  interfaces := #[]
  cf := some (fileOf pool1 19 #[] #[{ accessFlags := 1, nameIndex := 5, descriptorIndex := 6, attributes := #[] }, { accessFlags := 9, nameIndex := 23, descriptorIndex := 24, attributes := #[] }] 49 2 #[] #[])
  fields := #[]
  methods := #[k1m0, k1m1]
  instanceTypes := #[]
  staticTypes := #[]
  resolved := Array.replicate 28 none
  statics := none }

def pool2 : Array CpInfo := pool [(1, .methodref 2 3), (0, .class_ 4), (0, .nameAndType 5 6), (0, u "java/lang/Object"), (0, u "<init>"), (0, u "()V"), (0, .class_ 8), (0, u "java/lang/Record")] 13

def k2c0 : Code := { maxStack := 1, maxLocals := 1, code := jdk_30_method_1_code, exceptionTable := #[], attributes := #[] }
def k2m0 : Method := { name := "<init>", desc := "()V", sig := { parameters := [], returnType := none }, accessFlags := 4, code := some k2c0 }
/-- java/lang/Record -/
def k2 : Class := { plain "java/lang/Record" (some 0) with
  accessFlags := 1057
  interfaces := #[]
  cf := some (fileOf pool2 7 #[] #[{ accessFlags := 4, nameIndex := 5, descriptorIndex := 6, attributes := #[] }] 1057 2 #[] #[])
  fields := #[]
  methods := #[k2m0]
  instanceTypes := #[]
  staticTypes := #[]
  resolved := Array.replicate 22 none
  statics := none }

def pool3 : Array CpInfo := pool [(1, .methodref 2 3), (0, .class_ 4), (0, .nameAndType 5 6), (0, u "java/lang/Record"), (0, u "<init>"), (0, u "()V"), (0, .class_ 8), (0, u "com/example/token_mint/tokenmint/model/PageRequest"), (9, .fieldref 7 19), (0, .nameAndType 20 21), (0, u "page"), (0, u "I"), (0, .fieldref 7 23), (0, .nameAndType 24 21), (0, u "perPage"), (4, u "offset"), (0, u "()J"), (18, u "DEFAULT_PER_PAGE"), (2, u "MAX_PER_PAGE"), (1, u "MAX_TOLD_TOTAL"), (1, u "(II)V")] 37

def k3c0 : Code := { maxStack := 4, maxLocals := 3, code := prog_16_method_1_code, exceptionTable := #[], attributes := #[] }
def k3m0 : Method := { name := "<init>", desc := "(II)V", sig := { parameters := [.int, .int], returnType := none }, accessFlags := 1, code := some k3c0 }
def k3c1 : Code := { maxStack := 4, maxLocals := 1, code := prog_16_method_2_code, exceptionTable := #[], attributes := #[] }
def k3m1 : Method := { name := "offset", desc := "()J", sig := { parameters := [], returnType := some .long }, accessFlags := 1, code := some k3c1 }
/-- com/example/token_mint/tokenmint/model/PageRequest -/
def k3 : Class := { plain "com/example/token_mint/tokenmint/model/PageRequest" (some 2) with
  accessFlags := 49
  interfaces := #[]
  cf := some (fileOf pool3 7 #[] #[{ accessFlags := 1, nameIndex := 5, descriptorIndex := 56, attributes := #[] }, { accessFlags := 1, nameIndex := 29, descriptorIndex := 30, attributes := #[] }] 49 2 #[] #[{ accessFlags := 18, nameIndex := 20, descriptorIndex := 21, attributes := #[] }, { accessFlags := 18, nameIndex := 24, descriptorIndex := 21, attributes := #[] }, { accessFlags := 25, nameIndex := 49, descriptorIndex := 21, attributes := #[] }, { accessFlags := 25, nameIndex := 52, descriptorIndex := 21, attributes := #[] }, { accessFlags := 25, nameIndex := 54, descriptorIndex := 21, attributes := #[] }])
  fields := #[{ name := "page", type := .int, accessFlags := 18, slot := 0, constantValue := 0 }, { name := "perPage", type := .int, accessFlags := 18, slot := 1, constantValue := 0 }, { name := "DEFAULT_PER_PAGE", type := .int, accessFlags := 25, slot := 0, constantValue := 0 }, { name := "MAX_PER_PAGE", type := .int, accessFlags := 25, slot := 1, constantValue := 0 }, { name := "MAX_TOLD_TOTAL", type := .int, accessFlags := 25, slot := 2, constantValue := 0 }]
  methods := #[k3m0, k3m1]
  instanceTypes := #[.int, .int]
  staticTypes := #[.int, .int, .int]
  resolved := Array.replicate 94 none
  statics := none }

def pool4 : Array CpInfo := pool [(1, u "java/lang/Cloneable"), (0, .class_ 1), (0, u "java/lang/Object"), (0, .class_ 3)] 3

/-- java/lang/Cloneable -/
def k4 : Class := { plain "java/lang/Cloneable" (some 0) with
  accessFlags := 1537
  interfaces := #[]
  cf := some (fileOf pool4 2 #[] #[] 1537 4 #[] #[])
  fields := #[]
  methods := #[]
  instanceTypes := #[]
  staticTypes := #[]
  resolved := Array.replicate 8 none
  statics := none }

def pool5 : Array CpInfo := pool [(1, u "java/io/Serializable"), (0, .class_ 1), (0, u "java/lang/Object"), (0, .class_ 3)] 3

/-- java/io/Serializable -/
def k5 : Class := { plain "java/io/Serializable" (some 0) with
  accessFlags := 1537
  interfaces := #[]
  cf := some (fileOf pool5 2 #[] #[] 1537 4 #[] #[])
  fields := #[]
  methods := #[]
  instanceTypes := #[]
  staticTypes := #[]
  resolved := Array.replicate 8 none
  statics := none }

/-- the primitive byte -/
def k6 : Class := { plain "byte" none with kind := .primitive 'B', accessFlags := 0x411 }
/-- [B -/
def k7 : Class := { plain "[B" (some 0) with kind := .array 6 .byte, interfaces := #[4, 5], accessFlags := 1041 }

def heap : Heap := #[]
def classes : Array Class := #[k0, k1, k2, k3, k4, k5, k6, k7]
def interned : List (Array UInt16 × Addr) := []
def slotsUsed : Nat := 0
def theMethod : MethodId := ⟨1, 1⟩
def args0 : Array Value := #[.int 4, .int 7]
def aboutOver (below : List Frame) : State where
  vm := { classes := classes, interned := interned.toArray }
  heap := heap
  slotsUsed := slotsUsed
  threads := #[{ frames := .invoking theMethod args0 :: below }]
def below0 : List Frame := [.native { method := ⟨0, 0⟩, args := #[] }]
def about1 : State := aboutOver below0
def p0 : Program := .bare "" "" ""
def e0 : Env := launch0.env 0 0 0
theorem w_frames : about1.frames = Frame.invoking theMethod args0 :: below0 := rfl
set_option maxRecDepth 65536 in
theorem w_args : argsFit about1.vm theMethod args0 = true := by decide +kernel
set_option maxRecDepth 65536 in
theorem w_heap : heapFits about1 = true := by decide +kernel
set_option maxRecDepth 65536 in
theorem w_runnable : about1.curStatus? = some .runnable := by decide +kernel
set_option maxRecDepth 65536 in
theorem w_alone : about1.alone = true := by decide +kernel
set_option maxRecDepth 65536 in
theorem w_named : about1.methodNamed? x = some theMethod := by decide +kernel
set_option maxRecDepth 65536 in
theorem w_hears : about1.hears theMethod below0 = true := by decide +kernel
set_option maxRecDepth 65536 in
theorem w_ripe : about1.ripe theMethod args0 below0 = true := by decide +kernel
theorem w_running : about1.status = .running := rfl
set_option maxRecDepth 65536 in
theorem w_room : about1.hasRoom e0.platform room_1 = true :=
  launch0.hasRoom_least _ room_1 (by decide +kernel) (by decide +kernel) (by decide +kernel) (by decide +kernel) (by decide +kernel) (by decide +kernel)
theorem allAtoms_all (ts : List Jvm.Cond) (a : Array Jvm.Value) (st : Jvm.State) : (allAtoms ts).before a st = ts.all (fun c => c.before a st) := by
  induction ts with
  | nil => rfl
  | cons c t ih =>
    show (Jvm.Cond.and c (allAtoms t)).before a st = _
    rw [Jvm.Cond.before_and, ih, List.all_cons]
def words1 : List Jvm.Cond := Jvm.Cond.code x code maxLocals ret :: tables_1
/-- a 'code' word, met by the world's own term for the bytes: nothing is compared byte by byte -/
theorem code_word {y : MethodName} {bytes : ByteArray} {mx : Nat} {rt : Option FieldType} {a : Array Value} {s : State} {m : MethodId} {meth : Method} {c : Code} (h1 : s.methodNamed? y = some m) (h2 : s.vm.method? m = some meth) (h3 : meth.code = some c) (h4 : c.code = bytes)
    (h5 : (c.maxLocals == mx && c.exceptionTable.isEmpty && decide (c.maxStack ≤ mostOperands) && decide (meth.sig.returnType = rt) && !meth.locks && decide (parseMethodDescriptor y.desc = some meth.sig)) = true) : (Jvm.Cond.code y bytes mx rt).before a s = true := by
  simp only [Bool.and_eq_true, beq_iff_eq, Bool.not_eq_true', decide_eq_true_eq] at h5
  obtain ⟨⟨⟨⟨⟨g1, g2⟩, g3⟩, g4⟩, g5⟩, g6⟩ := h5
  simp [Cond.before, Cond.holds, Cond.value, h1, h2, h3, h4, g1, g2, g3, g4, g5, g6]
def isCode : Jvm.Cond → Bool
  | .code _ _ _ _ => true
  | _ => false
theorem all_split {L : List Jvm.Cond} {P : Jvm.Cond → Bool} (h1 : L.all (fun c => isCode c || P c) = true) (h2 : ∀ c ∈ L.filter isCode, P c = true) : L.all P = true := by
  refine List.all_eq_true.mpr fun c hc => ?_
  have h := List.all_eq_true.mp h1 c hc
  rcases Bool.eq_false_or_eq_true (isCode c) with hi | hi
  · exact h2 c (List.mem_filter.mpr ⟨hc, hi⟩)
  · simpa [hi] using h
set_option maxRecDepth 65536 in
theorem w_c0 : (Jvm.Cond.code x code maxLocals ret).before args0 about1 = true := code_word (m := ⟨1, 1⟩) (meth := k1m1) (c := k1c1) (by decide +kernel) rfl rfl rfl (by decide +kernel)
set_option maxRecDepth 65536 in
theorem w_c1 : (Jvm.Cond.code ({ cls := "com/example/token_mint/tokenmint/model/PageRequest", name := "<init>", desc := "(II)V" } : Jvm.MethodName) prog_16_method_1_code (3 : Nat) (Option.none : Option Jvm.ClassFile.FieldType)).before args0 about1 = true := code_word (m := ⟨3, 0⟩) (meth := k3m0) (c := k3c0) (by decide +kernel) rfl rfl rfl (by decide +kernel)
set_option maxRecDepth 65536 in
theorem w_c2 : (Jvm.Cond.code ({ cls := "java/lang/Record", name := "<init>", desc := "()V" } : Jvm.MethodName) jdk_30_method_1_code (1 : Nat) (Option.none : Option Jvm.ClassFile.FieldType)).before args0 about1 = true := code_word (m := ⟨2, 0⟩) (meth := k2m0) (c := k2c0) (by decide +kernel) rfl rfl rfl (by decide +kernel)
set_option maxRecDepth 65536 in
theorem w_c3 : (Jvm.Cond.code ({ cls := "java/lang/Object", name := "<init>", desc := "()V" } : Jvm.MethodName) object_method_1_code (1 : Nat) (Option.none : Option Jvm.ClassFile.FieldType)).before args0 about1 = true := code_word (m := ⟨0, 0⟩) (meth := k0m0) (c := k0c0) (by decide +kernel) rfl rfl rfl (by decide +kernel)
set_option maxRecDepth 65536 in
theorem w_c4 : (Jvm.Cond.code ({ cls := "com/example/token_mint/tokenmint/model/PageRequest", name := "offset", desc := "()J" } : Jvm.MethodName) prog_16_method_2_code (1 : Nat) (Option.some Jvm.ClassFile.FieldType.long)).before args0 about1 = true := code_word (m := ⟨3, 1⟩) (meth := k3m1) (c := k3c1) (by decide +kernel) rfl rfl rfl (by decide +kernel)
def codes1 : List Jvm.Cond := [Jvm.Cond.code x code maxLocals ret, Jvm.Cond.code ({ cls := "com/example/token_mint/tokenmint/model/PageRequest", name := "<init>", desc := "(II)V" } : Jvm.MethodName) prog_16_method_1_code (3 : Nat) (Option.none : Option Jvm.ClassFile.FieldType), Jvm.Cond.code ({ cls := "java/lang/Record", name := "<init>", desc := "()V" } : Jvm.MethodName) jdk_30_method_1_code (1 : Nat) (Option.none : Option Jvm.ClassFile.FieldType), Jvm.Cond.code ({ cls := "java/lang/Object", name := "<init>", desc := "()V" } : Jvm.MethodName) object_method_1_code (1 : Nat) (Option.none : Option Jvm.ClassFile.FieldType), Jvm.Cond.code ({ cls := "com/example/token_mint/tokenmint/model/PageRequest", name := "offset", desc := "()J" } : Jvm.MethodName) prog_16_method_2_code (1 : Nat) (Option.some Jvm.ClassFile.FieldType.long)]
set_option maxRecDepth 65536 in
theorem codes_eq : words1.filter isCode = codes1 := rfl
theorem w_codes : ∀ c ∈ words1.filter isCode, c.before args0 about1 = true := by
  rw [codes_eq]
  intro c hc
  simp only [codes1, List.mem_cons, List.not_mem_nil, or_false] at hc
  rcases hc with rfl | rfl | rfl | rfl | rfl
  · exact w_c0
  · exact w_c1
  · exact w_c2
  · exact w_c3
  · exact w_c4
set_option maxRecDepth 65536 in
theorem w_t1 : (words1.take 24).all (fun c => isCode c || c.before args0 about1) = true := by decide +kernel
set_option maxRecDepth 65536 in
theorem w_t2 : (words1.drop 24).all (fun c => isCode c || c.before args0 about1) = true := by decide +kernel
theorem w_tables : (allAtoms (Jvm.Cond.code x code maxLocals ret :: tables_1)).before args0 about1 = true := by
  rw [allAtoms_all]
  show words1.all (fun c => c.before args0 about1) = true
  refine all_split ?_ w_codes
  rw [← List.take_append_drop 24 words1, List.all_append, w_t1, w_t2]
  rfl
set_option maxRecDepth 65536 in
theorem w_case : (Jvm.Cond.and given_1 narrow_1).before args0 about1 = true := by decide +kernel
theorem w_applies : (headSpec (Jvm.Cond.code x code maxLocals ret :: tables_1) room_1).applies x e0.platform about1 = true :=
  (Spec.applies_iff w_frames).mpr ⟨w_running, w_runnable, w_alone, w_named, w_hears, w_ripe, w_room, w_tables⟩
theorem atStart : AtStart classFile x code maxLocals ret World_1 tables_1 room_1 Calls_1 rest_1 Pre_1 launch0 p0 e0 about1 theMethod args0 below0 :=
  ⟨lists_1, trivial, launch0.admits_env _ _ _, launch0.least_env, fairChoices_fair.cas, fairChoices_fair.clock, w_frames, w_args, w_heap, w_applies, trivial, trivial, w_case⟩
end start1
theorem witness_1 : WitnessClaimed_1 := ⟨start1.p0, start1.e0, start1.about1, start1.theMethod, start1.args0, start1.below0, start1.atStart⟩
end Jvm.Pilot.@@N@@
