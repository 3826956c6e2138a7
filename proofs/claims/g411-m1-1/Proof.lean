import JvmDerived
import JvmDerived.Pilot.@@N@@Statement
import JvmDerived.Pilot.@@N@@Code
set_option linter.unusedVariables false
set_option linter.unusedSimpArgs false
@@BLOCK:NumsL.lean.txt@@
namespace Jvm.RoadKit
open Sem ClassFile Op Lib Jvm.Stand Jvm.Free Jvm.LawKit
section New
variable {p : Program} {l : Launch} {e : Env} {R : Room} {s : State} {m : MethodId} {args : Array Value} {below : List Frame} {meth : Method} {c : Code} {T : State} {locs : List Loc} {cells slots : Nat}
theorem retI (X : Stand p l e R s m args below meth c T locs cells slots) (hx : p.tables.exec = Jvm.exec) {pc : Nat} {Ls : Array Slot} {z : Int32} {rest : List Value} (hret : meth.sig.returnType = some .int) (hd : decode c.code pc = .ok (.ireturn, 1)) {fs : List Frame}
    (hl : ∀ (f : JFrame) (acts : List Action), f.method = m → f.locked = none → f.entered = [] → (doReturn e (T.setTop f) acts (some (.int z))).1 = T.setFrames fs) : Steps p.tables e below (T.setTop (mkF m pc Ls (.int z :: rest))) (T.setFrames fs) :=
  retOut X hx hret rfl (Or.inl ⟨rfl, Or.inl rfl, z, rfl⟩) hd hl
theorem retJ (X : Stand p l e R s m args below meth c T locs cells slots) (hx : p.tables.exec = Jvm.exec) {pc : Nat} {Ls : Array Slot} {z : Int64} {rest : List Value} (hret : meth.sig.returnType = some .long) (hd : decode c.code pc = .ok (.lreturn, 1)) {fs : List Frame}
    (hl : ∀ (f : JFrame) (acts : List Action), f.method = m → f.locked = none → f.entered = [] → (doReturn e (T.setTop f) acts (some (.long z))).1 = T.setFrames fs) : Steps p.tables e below (T.setTop (mkF m pc Ls (.long z :: rest))) (T.setFrames fs) :=
  retOut X hx hret rfl (Or.inr (Or.inl ⟨rfl, rfl, z, rfl⟩)) hd hl
theorem retA (X : Stand p l e R s m args below meth c T locs cells slots) (hx : p.tables.exec = Jvm.exec) {pc : Nat} {Ls : Array Slot} {w : Value} {t : FieldType} {rest : List Value} (hret : meth.sig.returnType = some t) (ht : t.isReference = true) (hw : w.isRef = true) (hn : narrow t w = w) (hd : decode c.code pc = .ok (.areturn, 1)) {fs : List Frame}
    (hl : ∀ (f : JFrame) (acts : List Action), f.method = m → f.locked = none → f.entered = [] → (doReturn e (T.setTop f) acts (some w)).1 = T.setFrames fs) : Steps p.tables e below (T.setTop (mkF m pc Ls (w :: rest))) (T.setFrames fs) :=
  retOut X hx hret hn (Or.inr (Or.inr (Or.inr (Or.inr ⟨rfl, ht, hw⟩)))) hd hl
end New
end Jvm.RoadKit
namespace Jvm.Pilot.@@N@@
open Jvm Jvm.ClassFile Sem Op Lib Jvm.Free Jvm.Stand Jvm.LawKit Jvm.RoadKit Bundle Jvm.Pilot.@@N@@.Jvm.D
/-- the run from t ends by returning, as Q and the frame say -/
def OEnds (p : Program) (e : Env) (below : List Frame) (s : State) (Q : Option Value → Heap → List Loc → Prop) (C S : Nat) (t : State) : Prop :=
  ∃ s₂ o, Steps p.tables e below t s₂ ∧ s₂.status = .running ∧ Ended s₂ below o ∧ ∃ v L, o = .returned v ∧ Q v s₂.heap L ∧ FrameEnd s o s₂ L C S
theorem OEnds.go {p : Program} {e : Env} {below : List Frame} {s : State} {Q : Option Value → Heap → List Loc → Prop} {C S : Nat} {t t' : State} (h : ∀ u, Steps p.tables e below t' u → Steps p.tables e below t u) (k : OEnds p e below s Q C S t') : OEnds p e below s Q C S t := by
  obtain ⟨s₂, o, h1, h2⟩ := k
  exact ⟨s₂, o, h _ h1, h2⟩
theorem OEnds.cut {p : Program} {e : Env} {below : List Frame} {s : State} {Q : Option Value → Heap → List Loc → Prop} {C S : Nat} {t : State} (P : (State → Prop) → Prop) (k2 : P (OEnds p e below s Q C S)) (k1 : P (OEnds p e below s Q C S) → OEnds p e below s Q C S t) : OEnds p e below s Q C S t := k1 k2
theorem OEnds.back {p : Program} {l : Launch} {e : Env} {R : Room} {s : State} {m : MethodId} {args : Array Value} {below : List Frame} {meth : Method} {c : Code} {T : State} {locs : List Loc} {cells slots : Nat} (X : Stand p l e R s m args below meth c T locs cells slots) (hlk : meth.locks = false) {v : Option Value} (hv : meth.sig.returnType = none → v = none) {t : State} {Q : Option Value → Heap → List Loc → Prop} {C S : Nat}
    (st : ∀ fs, (∀ (f : JFrame) (acts : List Action), f.method = m → f.locked = none → f.entered = [] → (doReturn e (T.setTop f) acts v).1 = T.setFrames fs) → Steps p.tables e below t (T.setFrames fs)) (q : Q v T.heap locs) (hc : cells ≤ C) (hs : slots ≤ S) : OEnds p e below s Q C S t := by
  obtain ⟨fs, hr, hrun, hended, hW, hsame⟩ := X.leave hv hlk
  exact ⟨_, _, st fs hr, hrun, hended, _, _, rfl, q, ⟨_, rfl⟩, hW, hsame.mono hc hs⟩

theorem own_lt (x y : Int64) : lcmpW x y < 0 ↔ x < y := by rw [lcW, lc_lt]
theorem own_gt (x y : Int64) : 0 < lcmpW x y ↔ y < x := by rw [lcW, lc_gt]
theorem own_eq (x y : Int64) : lcmpW x y = 0 ↔ x = y := by rw [lcW, lc_eq]
/-- a term that equals a number, as the sheet says it -/
theorem own_eqi {args : Array Value} {s : State} {t : Term} {k : Int32} (h : (Jvm.Cond.eq t (Term.int k)).value args s none s [] = some true) : t.eval args s none [] s = some (.int k) := by
  obtain ⟨x, y, hx, hy, h1, h2⟩ := cmp_v (Or.inl h)
  have hy' : y = .int k := Option.some.inj (hy.symm.trans (Term.int_eval k))
  subst hy'
  obtain ⟨z, rfl⟩ : ∃ z, x = .int z := h2
  simp [Cond.value, hx, hy] at h
  rw [hx, h]
theorem own_fldi {args : Array Value} {s : State} {t : Term} {C n d : String} {a : Addr} {k : Int32} (ht : t.eval args s none [] s = some (.ref a)) (h : (Jvm.Cond.eq (Term.field t C n d) (Term.int k)).value args s none s [] = some true) : s.fieldOf? a C n d = some (.int k) := by
  rw [← fld_at ht]; exact own_eqi h
theorem own_ne {s : State} {C n d : String} {a b : Addr} {j k : Int32} (h1 : s.fieldOf? a C n d = some (.int j)) (h2 : s.fieldOf? b C n d = some (.int k)) (hk : j ≠ k) : a ≠ b := by
  intro e; subst e
  exact hk (Value.int.inj (Option.some.inj (h1.symm.trans h2)))

theorem own_mod (x m : Int32) (hm : 0 < m.toInt) : 0 ≤ ((x &&& 2147483647) % m).toInt ∧ ((x &&& 2147483647) % m).toInt < m.toInt := by
  have h : 0 ≤ (x &&& 2147483647).toInt := by
    rw [Jvm.Kit.i32_mask x 2147483647 (k := 31) (by decide) (by decide)]; omega
  rw [Jvm.Kit.i32_rem_nonneg h]
  exact ⟨Int.emod_nonneg _ (by omega), Int.emod_lt_of_pos _ hm⟩
theorem own_range {r : Int32} {n : Nat} (h0 : 0 ≤ r.toInt) (h1 : r.toInt < n) (hn : n ≤ 2 ^ 31) : ∃ k : Nat, k < n ∧ r = Int32.ofNat k := by
  refine ⟨r.toInt.toNat, by omega, ?_⟩
  rw [← Int32.toInt_inj, Int32.toInt_ofNat_small (by omega)]; omega


abbrev own_U (p : Int32) : Prop := (¬ p < 65 ∧ ¬ 90 < p) ∨ (¬ p < 97 ∧ ¬ 122 < p) ∨ (¬ p < 48 ∧ ¬ 57 < p) ∨ p = 45 ∨ p = 46 ∨ p = 95 ∨ p = 126
def own_u (p : Int32) : Int32 := if own_U p then 1 else 0
def own_bit (w : Int64) (i : Int32) : Int64 := ((w.toUInt64 >>> (i &&& 0x3f).toInt64.toUInt64).toInt64) &&& 1
def own_x (p : Int32) : Int32 := if p < 64 then (if own_bit 288054454291267584 p = 0 then 0 else 1) else if p < 128 then (if own_bit 5188146764422578174 (p - 64) = 0 then 0 else 1) else 0
theorem own_small : ∀ n : Nat, n < 128 → own_u (Int32.ofNat n) = own_x (Int32.ofNat n) := by decide +kernel
theorem own_law (p : Int32) (h0 : 0 ≤ p.toInt) : own_u p = own_x p := by
  by_cases h : p < 128
  · rw [Int32.lt_iff_toInt_lt] at h
    have e : p = Int32.ofNat p.toInt.toNat := by
      rw [← Int32.toInt_inj, Int32.toInt_ofNat_small (by have : (128 : Int32).toInt = 128 := rfl; omega)]; omega
    have e128 : (128 : Int32).toInt = 128 := rfl
    rw [e]
    exact own_small _ (by omega)
  · have h2 : ¬ p < 64 := by
      rw [Int32.lt_iff_toInt_lt] at h ⊢
      have e128 : (128 : Int32).toInt = 128 := rfl
      have e64 : (64 : Int32).toInt = 64 := rfl
      omega
    have h3 : ¬ own_U p := by
      rw [Int32.lt_iff_toInt_lt] at h
      simp only [own_U, Int32.lt_iff_toInt_lt, ← Int32.toInt_inj]
      have e128 : (128 : Int32).toInt = 128 := rfl
      have c1 : (65 : Int32).toInt = 65 := rfl
      have c2 : (90 : Int32).toInt = 90 := rfl
      have c3 : (97 : Int32).toInt = 97 := rfl
      have c4 : (122 : Int32).toInt = 122 := rfl
      have c5 : (48 : Int32).toInt = 48 := rfl
      have c6 : (57 : Int32).toInt = 57 := rfl
      have c7 : (45 : Int32).toInt = 45 := rfl
      have c8 : (46 : Int32).toInt = 46 := rfl
      have c9 : (95 : Int32).toInt = 95 := rfl
      have c10 : (126 : Int32).toInt = 126 := rfl
      omega
    rw [own_u, own_x, if_neg h3, if_neg h2, if_neg h]
theorem own_i2c (x : Int32) : 0 ≤ (x.toUInt32.toUInt16.toUInt32.toInt32).toInt := by
  have h := fits_nar_char x
  simp only [fits, nar, Bool.and_eq_true] at h
  have := of_decide_eq_true h.1
  rw [Int32.le_iff_toInt_le] at this
  exact this

theorem d1_0 : decode prog_41_method_2_code 0 = .ok (.iload_n 0, 1) := by decide +kernel
theorem d1_1 : decode prog_41_method_2_code 1 = .ok (.bipush 65, 2) := by decide +kernel
theorem d1_3 : decode prog_41_method_2_code 3 = .ok (.if_icmp .lt 9, 3) := by decide +kernel
theorem d1_6 : decode prog_41_method_2_code 6 = .ok (.iload_n 0, 1) := by decide +kernel
theorem d1_7 : decode prog_41_method_2_code 7 = .ok (.bipush 90, 2) := by decide +kernel
theorem d1_9 : decode prog_41_method_2_code 9 = .ok (.if_icmp .le 51, 3) := by decide +kernel
theorem d1_12 : decode prog_41_method_2_code 12 = .ok (.iload_n 0, 1) := by decide +kernel
theorem d1_13 : decode prog_41_method_2_code 13 = .ok (.bipush 97, 2) := by decide +kernel
theorem d1_15 : decode prog_41_method_2_code 15 = .ok (.if_icmp .lt 9, 3) := by decide +kernel
theorem d1_18 : decode prog_41_method_2_code 18 = .ok (.iload_n 0, 1) := by decide +kernel
theorem d1_19 : decode prog_41_method_2_code 19 = .ok (.bipush 122, 2) := by decide +kernel
theorem d1_21 : decode prog_41_method_2_code 21 = .ok (.if_icmp .le 39, 3) := by decide +kernel
theorem d1_24 : decode prog_41_method_2_code 24 = .ok (.iload_n 0, 1) := by decide +kernel
theorem d1_25 : decode prog_41_method_2_code 25 = .ok (.bipush 48, 2) := by decide +kernel
theorem d1_27 : decode prog_41_method_2_code 27 = .ok (.if_icmp .lt 9, 3) := by decide +kernel
theorem d1_30 : decode prog_41_method_2_code 30 = .ok (.iload_n 0, 1) := by decide +kernel
theorem d1_31 : decode prog_41_method_2_code 31 = .ok (.bipush 57, 2) := by decide +kernel
theorem d1_33 : decode prog_41_method_2_code 33 = .ok (.if_icmp .le 27, 3) := by decide +kernel
theorem d1_36 : decode prog_41_method_2_code 36 = .ok (.iload_n 0, 1) := by decide +kernel
theorem d1_37 : decode prog_41_method_2_code 37 = .ok (.bipush 45, 2) := by decide +kernel
theorem d1_39 : decode prog_41_method_2_code 39 = .ok (.if_icmp .eq 21, 3) := by decide +kernel
theorem d1_42 : decode prog_41_method_2_code 42 = .ok (.iload_n 0, 1) := by decide +kernel
theorem d1_43 : decode prog_41_method_2_code 43 = .ok (.bipush 46, 2) := by decide +kernel
theorem d1_45 : decode prog_41_method_2_code 45 = .ok (.if_icmp .eq 15, 3) := by decide +kernel
theorem d1_48 : decode prog_41_method_2_code 48 = .ok (.iload_n 0, 1) := by decide +kernel
theorem d1_49 : decode prog_41_method_2_code 49 = .ok (.bipush 95, 2) := by decide +kernel
theorem d1_51 : decode prog_41_method_2_code 51 = .ok (.if_icmp .eq 9, 3) := by decide +kernel
theorem d1_54 : decode prog_41_method_2_code 54 = .ok (.iload_n 0, 1) := by decide +kernel
theorem d1_55 : decode prog_41_method_2_code 55 = .ok (.bipush 126, 2) := by decide +kernel
theorem d1_57 : decode prog_41_method_2_code 57 = .ok (.if_icmp .ne 7, 3) := by decide +kernel
theorem d1_60 : decode prog_41_method_2_code 60 = .ok (.iconst 1, 1) := by decide +kernel
theorem d1_61 : decode prog_41_method_2_code 61 = .ok (.goto 4, 3) := by decide +kernel
theorem d1_64 : decode prog_41_method_2_code 64 = .ok (.iconst 0, 1) := by decide +kernel
theorem d1_65 : decode prog_41_method_2_code 65 = .ok (.ireturn, 1) := by decide +kernel
theorem pn_1 : plainName "com/example/fullmakt/fullmakt/core/UriCharacters" = true := by first | (simp [plainName, overriddenIn]; done) | decide +kernel
theorem ef_rm1 (m : MethodId) (p1 : Int32) : entryFrame m #[(.int p1)] 1 = mkF m 0 #[.val (.int p1)] [] := by first | (simp [entryFrame, mkF, argsToLocals, Value.category]; done) | rfl
def Q1 (Z : State) (p1 : Int32)  (h0 : Heap) (n0 : Nat) (v : Option Value) (h : Heap) (L : List Loc) : Prop := v = some (.int (own_u p1)) ∧ Fr n0 L ∧ h = h0
set_option maxRecDepth 65536 in
set_option maxHeartbeats 40000000 in
theorem rm1 (l : Launch) (Z : State) (a0 : Array Value) (hw : ∀ d ∈ tables_1, d.before a0 Z = true) (ws : List Jvm.Cond) (p1 : Int32)  (h0 : Heap) (n0 : Nat) (Z0 : n0 ≤ h0.size)  :
    MetFree l (⟨"com/example/fullmakt/fullmakt/core/UriCharacters", "isUnreserved", "(C)Z"⟩ : MethodName) (head1 (Jvm.Cond.code (⟨"com/example/fullmakt/fullmakt/core/UriCharacters", "isUnreserved", "(C)Z"⟩ : MethodName) prog_41_method_2_code 1 (some .boolean) :: ws) ({ frames := 0, cells := 0, slots := 0, locals := 0 } : Room)) (fun a U => a = #[(.int p1)] ∧ Z.Warmed39 U.vm ∧ U.heap = h0) (fun _ _ _ _ _ => True) (fun _ U o U' => ∃ v L, o = .returned v ∧ Q1 Z p1  h0 n0 v U'.heap L ∧ FrameEnd U o U' L ({ frames := 0, cells := 0, slots := 0, locals := 0 } : Room).cells ({ frames := 0, cells := 0, slots := 0, locals := 0 } : Room).slots) := by
  refine MetFree.of_bodySF (plainFor_of_name pn_1) hisR ?_
  intro p e s m args below meth c s₁ Bd hml0 hP hK
  obtain ⟨rfl, hZ, hh⟩ := hP
  have hx := Bd.exec
  have hby := Bd.bytes
  have hml : c.maxLocals = 1 := hml0
  have hown : s.vm.findClass "com/example/fullmakt/fullmakt/core/UriCharacters" = some m.cls := findClass_of_methodNamed Bd.named
  have hnm := (name_of_methodNamed Bd.named Bd.method).1
  have hlk := BodyLoose.notSynchronized Bd
  have hrt := Bd.returns
  have X0 : Stand p l e ({ frames := 0, cells := 0, slots := 0, locals := 0 } : Room) s m #[(.int p1)] below meth c s₁ [] 0 0 := Stand.of_body Bd
  have e0 : s₁.heap = h0 := by rw [← hh, Bd.state]; rfl
  have N0 := Fr.nil n0
  show OEnds p e below s (Q1 Z p1  h0 n0) ({ frames := 0, cells := 0, slots := 0, locals := 0 } : Room).cells ({ frames := 0, cells := 0, slots := 0, locals := 0 } : Room).slots (s₁.setTop (entryFrame m #[(.int p1)] 1))
  refine OEnds.go (t' := s₁.setTop (mkF m 0 #[.val (.int p1)] [])) (fun t k => castTop (ef_rm1 m p1) k) ?_
  refine OEnds.cut (fun En => own_U p1 → En (s₁.setTop (mkF m 60 #[.val (.int p1)] []))) ?_ (fun K60 => ?_)
  · intro hU
    refine OEnds.go (t' := s₁.setTop (mkF m 65 #[.val (.int p1)] [(.int (1 : Int32))])) (fun _ k => ?_) ?_
    · show Steps p.tables e below (s₁.setTop (mkF m 60 #[.val (.int p1)] [])) _
      refine XS.iconst X0.here hx rfl (hb hby d1_60) ?_
      show Steps p.tables e below (s₁.setTop (mkF m 61 #[.val (.int p1)] [(.int (1 : Int32))])) _
      refine XS.goto X0.here hx rfl (pc0 := 61) (pc' := 65) rfl (hb hby d1_61) (by decide) (by decide) ?_
      show Steps p.tables e below (s₁.setTop (mkF m 65 #[.val (.int p1)] [(.int (1 : Int32))])) _
      exact k
    refine OEnds.back X0 hlk (v := (some (.int (1 : Int32)))) (fun h => by rw [hrt] at h; cases h) (fun fs hr => ?_) ?_ (by decide) (by decide)
    · exact retN X0 hx (t := .boolean) hrt (by simp) (hb hby d1_65) hr
    · show Q1 Z p1  h0 n0 _ s₁.heap _
      rw [e0]
      exact ⟨by rw [own_u, if_pos hU], N0, rfl⟩
  refine OEnds.cut (fun En => ¬ own_U p1 → En (s₁.setTop (mkF m 64 #[.val (.int p1)] []))) ?_ (fun K64 => ?_)
  · intro hU
    refine OEnds.go (t' := s₁.setTop (mkF m 65 #[.val (.int p1)] [(.int (0 : Int32))])) (fun _ k => ?_) ?_
    · show Steps p.tables e below (s₁.setTop (mkF m 64 #[.val (.int p1)] [])) _
      refine XS.iconst X0.here hx rfl (hb hby d1_64) ?_
      show Steps p.tables e below (s₁.setTop (mkF m 65 #[.val (.int p1)] [(.int (0 : Int32))])) _
      exact k
    refine OEnds.back X0 hlk (v := (some (.int (0 : Int32)))) (fun h => by rw [hrt] at h; cases h) (fun fs hr => ?_) ?_ (by decide) (by decide)
    · exact retN X0 hx (t := .boolean) hrt (by simp) (hb hby d1_65) hr
    · show Q1 Z p1  h0 n0 _ s₁.heap _
      rw [e0]
      exact ⟨by rw [own_u, if_neg hU], N0, rfl⟩
  refine OEnds.cut (fun En => ¬ (¬ p1 < 65 ∧ ¬ 90 < p1) → ¬ (¬ p1 < 97 ∧ ¬ 122 < p1) → ¬ (¬ p1 < 48 ∧ ¬ 57 < p1) → En (s₁.setTop (mkF m 36 #[.val (.int p1)] []))) ?_ (fun K36 => ?_)
  · intro h1 h2 h3
    refine OEnds.go (t' := s₁.setTop (mkF m 39 #[.val (.int p1)] [(.int (45 : Int32)), (.int p1)])) (fun _ k => ?_) ?_
    · show Steps p.tables e below (s₁.setTop (mkF m 36 #[.val (.int p1)] [])) _
      refine XS.iloadN X0.here hx rfl (hb hby d1_36) rfl ?_
      show Steps p.tables e below (s₁.setTop (mkF m 37 #[.val (.int p1)] [(.int p1)])) _
      refine XS.bipush X0.here hx rfl (hb hby d1_37) ?_
      show Steps p.tables e below (s₁.setTop (mkF m 39 #[.val (.int p1)] [(.int (45 : Int32)), (.int p1)])) _
      exact k
    by_cases e1 : p1 = (45 : Int32)
    · refine OEnds.go (t' := s₁.setTop (mkF m 60 #[.val (.int p1)] [])) (fun _ k => XS.icmpYes X0.here hx rfl (pc0 := 39) (pc' := 60) rfl (hb hby d1_39) rfl (teq e1).1 (by decide) (by decide) k) ?_
      exact K60 (Or.inr (Or.inr (Or.inr (Or.inl e1))))
    · refine OEnds.go (t' := s₁.setTop (mkF m 42 #[.val (.int p1)] [])) (fun _ k => XS.icmpNo X0.here hx rfl (hb hby d1_39) rfl (feq e1).1 k) ?_
      refine OEnds.go (t' := s₁.setTop (mkF m 45 #[.val (.int p1)] [(.int (46 : Int32)), (.int p1)])) (fun _ k => ?_) ?_
      · show Steps p.tables e below (s₁.setTop (mkF m 42 #[.val (.int p1)] [])) _
        refine XS.iloadN X0.here hx rfl (hb hby d1_42) rfl ?_
        show Steps p.tables e below (s₁.setTop (mkF m 43 #[.val (.int p1)] [(.int p1)])) _
        refine XS.bipush X0.here hx rfl (hb hby d1_43) ?_
        show Steps p.tables e below (s₁.setTop (mkF m 45 #[.val (.int p1)] [(.int (46 : Int32)), (.int p1)])) _
        exact k
      by_cases e2 : p1 = (46 : Int32)
      · refine OEnds.go (t' := s₁.setTop (mkF m 60 #[.val (.int p1)] [])) (fun _ k => XS.icmpYes X0.here hx rfl (pc0 := 45) (pc' := 60) rfl (hb hby d1_45) rfl (teq e2).1 (by decide) (by decide) k) ?_
        exact K60 (Or.inr (Or.inr (Or.inr (Or.inr (Or.inl e2)))))
      · refine OEnds.go (t' := s₁.setTop (mkF m 48 #[.val (.int p1)] [])) (fun _ k => XS.icmpNo X0.here hx rfl (hb hby d1_45) rfl (feq e2).1 k) ?_
        refine OEnds.go (t' := s₁.setTop (mkF m 51 #[.val (.int p1)] [(.int (95 : Int32)), (.int p1)])) (fun _ k => ?_) ?_
        · show Steps p.tables e below (s₁.setTop (mkF m 48 #[.val (.int p1)] [])) _
          refine XS.iloadN X0.here hx rfl (hb hby d1_48) rfl ?_
          show Steps p.tables e below (s₁.setTop (mkF m 49 #[.val (.int p1)] [(.int p1)])) _
          refine XS.bipush X0.here hx rfl (hb hby d1_49) ?_
          show Steps p.tables e below (s₁.setTop (mkF m 51 #[.val (.int p1)] [(.int (95 : Int32)), (.int p1)])) _
          exact k
        by_cases e3 : p1 = (95 : Int32)
        · refine OEnds.go (t' := s₁.setTop (mkF m 60 #[.val (.int p1)] [])) (fun _ k => XS.icmpYes X0.here hx rfl (pc0 := 51) (pc' := 60) rfl (hb hby d1_51) rfl (teq e3).1 (by decide) (by decide) k) ?_
          exact K60 (Or.inr (Or.inr (Or.inr (Or.inr (Or.inr (Or.inl e3))))))
        · refine OEnds.go (t' := s₁.setTop (mkF m 54 #[.val (.int p1)] [])) (fun _ k => XS.icmpNo X0.here hx rfl (hb hby d1_51) rfl (feq e3).1 k) ?_
          refine OEnds.go (t' := s₁.setTop (mkF m 57 #[.val (.int p1)] [(.int (126 : Int32)), (.int p1)])) (fun _ k => ?_) ?_
          · show Steps p.tables e below (s₁.setTop (mkF m 54 #[.val (.int p1)] [])) _
            refine XS.iloadN X0.here hx rfl (hb hby d1_54) rfl ?_
            show Steps p.tables e below (s₁.setTop (mkF m 55 #[.val (.int p1)] [(.int p1)])) _
            refine XS.bipush X0.here hx rfl (hb hby d1_55) ?_
            show Steps p.tables e below (s₁.setTop (mkF m 57 #[.val (.int p1)] [(.int (126 : Int32)), (.int p1)])) _
            exact k
          by_cases e4 : p1 = (126 : Int32)
          · refine OEnds.go (t' := s₁.setTop (mkF m 60 #[.val (.int p1)] [])) (fun _ k => XS.icmpNo X0.here hx rfl (hb hby d1_57) rfl (teq e4).2 k) ?_
            exact K60 (Or.inr (Or.inr (Or.inr (Or.inr (Or.inr (Or.inr e4))))))
          · refine OEnds.go (t' := s₁.setTop (mkF m 64 #[.val (.int p1)] [])) (fun _ k => XS.icmpYes X0.here hx rfl (pc0 := 57) (pc' := 64) rfl (hb hby d1_57) rfl (feq e4).2 (by decide) (by decide) k) ?_
            exact K64 (fun q => q.elim h1 (fun q => q.elim h2 (fun q => q.elim h3 (fun q => q.elim e1 (fun q => q.elim e2 (fun q => q.elim e3 e4))))))
  refine OEnds.cut (fun En => ¬ (¬ p1 < 65 ∧ ¬ 90 < p1) → ¬ (¬ p1 < 97 ∧ ¬ 122 < p1) → En (s₁.setTop (mkF m 24 #[.val (.int p1)] []))) ?_ (fun K24 => ?_)
  · intro h1 h2
    refine OEnds.go (t' := s₁.setTop (mkF m 27 #[.val (.int p1)] [(.int (48 : Int32)), (.int p1)])) (fun _ k => ?_) ?_
    · show Steps p.tables e below (s₁.setTop (mkF m 24 #[.val (.int p1)] [])) _
      refine XS.iloadN X0.here hx rfl (hb hby d1_24) rfl ?_
      show Steps p.tables e below (s₁.setTop (mkF m 25 #[.val (.int p1)] [(.int p1)])) _
      refine XS.bipush X0.here hx rfl (hb hby d1_25) ?_
      show Steps p.tables e below (s₁.setTop (mkF m 27 #[.val (.int p1)] [(.int (48 : Int32)), (.int p1)])) _
      exact k
    by_cases ha : p1 < (48 : Int32)
    · refine OEnds.go (t' := s₁.setTop (mkF m 36 #[.val (.int p1)] [])) (fun _ k => XS.icmpYes X0.here hx rfl (pc0 := 27) (pc' := 36) rfl (hb hby d1_27) rfl (tlt ha).1 (by decide) (by decide) k) ?_
      exact K36 h1 h2 (fun q => q.1 ha)
    · refine OEnds.go (t' := s₁.setTop (mkF m 30 #[.val (.int p1)] [])) (fun _ k => XS.icmpNo X0.here hx rfl (hb hby d1_27) rfl (flt ha).1 k) ?_
      refine OEnds.go (t' := s₁.setTop (mkF m 33 #[.val (.int p1)] [(.int (57 : Int32)), (.int p1)])) (fun _ k => ?_) ?_
      · show Steps p.tables e below (s₁.setTop (mkF m 30 #[.val (.int p1)] [])) _
        refine XS.iloadN X0.here hx rfl (hb hby d1_30) rfl ?_
        show Steps p.tables e below (s₁.setTop (mkF m 31 #[.val (.int p1)] [(.int p1)])) _
        refine XS.bipush X0.here hx rfl (hb hby d1_31) ?_
        show Steps p.tables e below (s₁.setTop (mkF m 33 #[.val (.int p1)] [(.int (57 : Int32)), (.int p1)])) _
        exact k
      by_cases hbb : (57 : Int32) < p1
      · refine OEnds.go (t' := s₁.setTop (mkF m 36 #[.val (.int p1)] [])) (fun _ k => XS.icmpNo X0.here hx rfl (hb hby d1_33) rfl (tlt hbb).2.2.2 k) ?_
        exact K36 h1 h2 (fun q => q.2 hbb)
      · refine OEnds.go (t' := s₁.setTop (mkF m 60 #[.val (.int p1)] [])) (fun _ k => XS.icmpYes X0.here hx rfl (pc0 := 33) (pc' := 60) rfl (hb hby d1_33) rfl (flt hbb).2.2.2 (by decide) (by decide) k) ?_
        exact K60 (Or.inr (Or.inr (Or.inl ⟨ha, hbb⟩)))
  refine OEnds.cut (fun En => ¬ (¬ p1 < 65 ∧ ¬ 90 < p1) → En (s₁.setTop (mkF m 12 #[.val (.int p1)] []))) ?_ (fun K12 => ?_)
  · intro h1
    refine OEnds.go (t' := s₁.setTop (mkF m 15 #[.val (.int p1)] [(.int (97 : Int32)), (.int p1)])) (fun _ k => ?_) ?_
    · show Steps p.tables e below (s₁.setTop (mkF m 12 #[.val (.int p1)] [])) _
      refine XS.iloadN X0.here hx rfl (hb hby d1_12) rfl ?_
      show Steps p.tables e below (s₁.setTop (mkF m 13 #[.val (.int p1)] [(.int p1)])) _
      refine XS.bipush X0.here hx rfl (hb hby d1_13) ?_
      show Steps p.tables e below (s₁.setTop (mkF m 15 #[.val (.int p1)] [(.int (97 : Int32)), (.int p1)])) _
      exact k
    by_cases ha : p1 < (97 : Int32)
    · refine OEnds.go (t' := s₁.setTop (mkF m 24 #[.val (.int p1)] [])) (fun _ k => XS.icmpYes X0.here hx rfl (pc0 := 15) (pc' := 24) rfl (hb hby d1_15) rfl (tlt ha).1 (by decide) (by decide) k) ?_
      exact K24 h1 (fun q => q.1 ha)
    · refine OEnds.go (t' := s₁.setTop (mkF m 18 #[.val (.int p1)] [])) (fun _ k => XS.icmpNo X0.here hx rfl (hb hby d1_15) rfl (flt ha).1 k) ?_
      refine OEnds.go (t' := s₁.setTop (mkF m 21 #[.val (.int p1)] [(.int (122 : Int32)), (.int p1)])) (fun _ k => ?_) ?_
      · show Steps p.tables e below (s₁.setTop (mkF m 18 #[.val (.int p1)] [])) _
        refine XS.iloadN X0.here hx rfl (hb hby d1_18) rfl ?_
        show Steps p.tables e below (s₁.setTop (mkF m 19 #[.val (.int p1)] [(.int p1)])) _
        refine XS.bipush X0.here hx rfl (hb hby d1_19) ?_
        show Steps p.tables e below (s₁.setTop (mkF m 21 #[.val (.int p1)] [(.int (122 : Int32)), (.int p1)])) _
        exact k
      by_cases hbb : (122 : Int32) < p1
      · refine OEnds.go (t' := s₁.setTop (mkF m 24 #[.val (.int p1)] [])) (fun _ k => XS.icmpNo X0.here hx rfl (hb hby d1_21) rfl (tlt hbb).2.2.2 k) ?_
        exact K24 h1 (fun q => q.2 hbb)
      · refine OEnds.go (t' := s₁.setTop (mkF m 60 #[.val (.int p1)] [])) (fun _ k => XS.icmpYes X0.here hx rfl (pc0 := 21) (pc' := 60) rfl (hb hby d1_21) rfl (flt hbb).2.2.2 (by decide) (by decide) k) ?_
        exact K60 (Or.inr (Or.inl ⟨ha, hbb⟩))
  refine OEnds.go (t' := s₁.setTop (mkF m 3 #[.val (.int p1)] [(.int (65 : Int32)), (.int p1)])) (fun _ k => ?_) ?_
  · show Steps p.tables e below (s₁.setTop (mkF m 0 #[.val (.int p1)] [])) _
    refine XS.iloadN X0.here hx rfl (hb hby d1_0) rfl ?_
    show Steps p.tables e below (s₁.setTop (mkF m 1 #[.val (.int p1)] [(.int p1)])) _
    refine XS.bipush X0.here hx rfl (hb hby d1_1) ?_
    show Steps p.tables e below (s₁.setTop (mkF m 3 #[.val (.int p1)] [(.int (65 : Int32)), (.int p1)])) _
    exact k
  by_cases ha : p1 < (65 : Int32)
  · refine OEnds.go (t' := s₁.setTop (mkF m 12 #[.val (.int p1)] [])) (fun _ k => XS.icmpYes X0.here hx rfl (pc0 := 3) (pc' := 12) rfl (hb hby d1_3) rfl (tlt ha).1 (by decide) (by decide) k) ?_
    exact K12  (fun q => q.1 ha)
  · refine OEnds.go (t' := s₁.setTop (mkF m 6 #[.val (.int p1)] [])) (fun _ k => XS.icmpNo X0.here hx rfl (hb hby d1_3) rfl (flt ha).1 k) ?_
    refine OEnds.go (t' := s₁.setTop (mkF m 9 #[.val (.int p1)] [(.int (90 : Int32)), (.int p1)])) (fun _ k => ?_) ?_
    · show Steps p.tables e below (s₁.setTop (mkF m 6 #[.val (.int p1)] [])) _
      refine XS.iloadN X0.here hx rfl (hb hby d1_6) rfl ?_
      show Steps p.tables e below (s₁.setTop (mkF m 7 #[.val (.int p1)] [(.int p1)])) _
      refine XS.bipush X0.here hx rfl (hb hby d1_7) ?_
      show Steps p.tables e below (s₁.setTop (mkF m 9 #[.val (.int p1)] [(.int (90 : Int32)), (.int p1)])) _
      exact k
    by_cases hbb : (90 : Int32) < p1
    · refine OEnds.go (t' := s₁.setTop (mkF m 12 #[.val (.int p1)] [])) (fun _ k => XS.icmpNo X0.here hx rfl (hb hby d1_9) rfl (tlt hbb).2.2.2 k) ?_
      exact K12  (fun q => q.2 hbb)
    · refine OEnds.go (t' := s₁.setTop (mkF m 60 #[.val (.int p1)] [])) (fun _ k => XS.icmpYes X0.here hx rfl (pc0 := 9) (pc' := 60) rfl (hb hby d1_9) rfl (flt hbb).2.2.2 (by decide) (by decide) k) ?_
      exact K60 (Or.inl ⟨ha, hbb⟩)
theorem d2_0 : decode method_2_code 0 = .ok (.iload_n 0, 1) := by decide +kernel
theorem d2_1 : decode method_2_code 1 = .ok (.bipush 64, 2) := by decide +kernel
theorem d2_3 : decode method_2_code 3 = .ok (.if_icmp .ge 21, 3) := by decide +kernel
theorem d2_6 : decode method_2_code 6 = .ok (.ldc2_w 9, 3) := by decide +kernel
theorem d2_9 : decode method_2_code 9 = .ok (.iload_n 0, 1) := by decide +kernel
theorem d2_10 : decode method_2_code 10 = .ok (.lushr, 1) := by decide +kernel
theorem d2_11 : decode method_2_code 11 = .ok (.lconst 1, 1) := by decide +kernel
theorem d2_12 : decode method_2_code 12 = .ok (.land, 1) := by decide +kernel
theorem d2_13 : decode method_2_code 13 = .ok (.lconst 0, 1) := by decide +kernel
theorem d2_14 : decode method_2_code 14 = .ok (.lcmp, 1) := by decide +kernel
theorem d2_15 : decode method_2_code 15 = .ok (.ifCond .eq 7, 3) := by decide +kernel
theorem d2_18 : decode method_2_code 18 = .ok (.iconst 1, 1) := by decide +kernel
theorem d2_19 : decode method_2_code 19 = .ok (.goto 4, 3) := by decide +kernel
theorem d2_22 : decode method_2_code 22 = .ok (.iconst 0, 1) := by decide +kernel
theorem d2_23 : decode method_2_code 23 = .ok (.ireturn, 1) := by decide +kernel
theorem d2_24 : decode method_2_code 24 = .ok (.iload_n 0, 1) := by decide +kernel
theorem d2_25 : decode method_2_code 25 = .ok (.sipush 128, 3) := by decide +kernel
theorem d2_28 : decode method_2_code 28 = .ok (.if_icmp .ge 24, 3) := by decide +kernel
theorem d2_31 : decode method_2_code 31 = .ok (.ldc2_w 11, 3) := by decide +kernel
theorem d2_34 : decode method_2_code 34 = .ok (.iload_n 0, 1) := by decide +kernel
theorem d2_35 : decode method_2_code 35 = .ok (.bipush 64, 2) := by decide +kernel
theorem d2_37 : decode method_2_code 37 = .ok (.isub, 1) := by decide +kernel
theorem d2_38 : decode method_2_code 38 = .ok (.lushr, 1) := by decide +kernel
theorem d2_39 : decode method_2_code 39 = .ok (.lconst 1, 1) := by decide +kernel
theorem d2_40 : decode method_2_code 40 = .ok (.land, 1) := by decide +kernel
theorem d2_41 : decode method_2_code 41 = .ok (.lconst 0, 1) := by decide +kernel
theorem d2_42 : decode method_2_code 42 = .ok (.lcmp, 1) := by decide +kernel
theorem d2_43 : decode method_2_code 43 = .ok (.ifCond .eq 7, 3) := by decide +kernel
theorem d2_46 : decode method_2_code 46 = .ok (.iconst 1, 1) := by decide +kernel
theorem d2_47 : decode method_2_code 47 = .ok (.goto 4, 3) := by decide +kernel
theorem d2_50 : decode method_2_code 50 = .ok (.iconst 0, 1) := by decide +kernel
theorem d2_51 : decode method_2_code 51 = .ok (.ireturn, 1) := by decide +kernel
theorem d2_52 : decode method_2_code 52 = .ok (.iconst 0, 1) := by decide +kernel
theorem d2_53 : decode method_2_code 53 = .ok (.ireturn, 1) := by decide +kernel
theorem pn_2 : plainName "com/example/fullmakt/fullmakt/core/UriCharactersIsUnreservedPinLaw" = true := by first | (simp [plainName, overriddenIn]; done) | decide +kernel
theorem ef_rm2 (m : MethodId) (p1 : Int32) : entryFrame m #[(.int p1)] 1 = mkF m 0 #[.val (.int p1)] [] := by first | (simp [entryFrame, mkF, argsToLocals, Value.category]; done) | rfl
def Q2 (Z : State) (p1 : Int32)  (h0 : Heap) (n0 : Nat) (v : Option Value) (h : Heap) (L : List Loc) : Prop := v = some (.int (own_x p1)) ∧ Fr n0 L ∧ h = h0
set_option maxRecDepth 65536 in
set_option maxHeartbeats 40000000 in
theorem rm2 (l : Launch) (Z : State) (a0 : Array Value) (hw : ∀ d ∈ tables_1, d.before a0 Z = true) (ws : List Jvm.Cond) (p1 : Int32)  (h0 : Heap) (n0 : Nat) (Z0 : n0 ≤ h0.size)  :
    MetFree l (⟨"com/example/fullmakt/fullmakt/core/UriCharactersIsUnreservedPinLaw", "expected", "(C)Z"⟩ : MethodName) (head1 (Jvm.Cond.code (⟨"com/example/fullmakt/fullmakt/core/UriCharactersIsUnreservedPinLaw", "expected", "(C)Z"⟩ : MethodName) method_2_code 1 (some .boolean) :: ws) ({ frames := 0, cells := 0, slots := 0, locals := 0 } : Room)) (fun a U => a = #[(.int p1)] ∧ Z.Warmed39 U.vm ∧ U.heap = h0) (fun _ _ _ _ _ => True) (fun _ U o U' => ∃ v L, o = .returned v ∧ Q2 Z p1  h0 n0 v U'.heap L ∧ FrameEnd U o U' L ({ frames := 0, cells := 0, slots := 0, locals := 0 } : Room).cells ({ frames := 0, cells := 0, slots := 0, locals := 0 } : Room).slots) := by
  refine MetFree.of_bodySF (plainFor_of_name pn_2) hisR ?_
  intro p e s m args below meth c s₁ Bd hml0 hP hK
  obtain ⟨rfl, hZ, hh⟩ := hP
  have hx := Bd.exec
  have hby := Bd.bytes
  have hml : c.maxLocals = 1 := hml0
  have hown : s.vm.findClass "com/example/fullmakt/fullmakt/core/UriCharactersIsUnreservedPinLaw" = some m.cls := findClass_of_methodNamed Bd.named
  have hnm := (name_of_methodNamed Bd.named Bd.method).1
  have hlk := BodyLoose.notSynchronized Bd
  have hrt := Bd.returns
  have X0 : Stand p l e ({ frames := 0, cells := 0, slots := 0, locals := 0 } : Room) s m #[(.int p1)] below meth c s₁ [] 0 0 := Stand.of_body Bd
  have e0 : s₁.heap = h0 := by rw [← hh, Bd.state]; rfl
  have N0 := Fr.nil n0
  show OEnds p e below s (Q2 Z p1  h0 n0) ({ frames := 0, cells := 0, slots := 0, locals := 0 } : Room).cells ({ frames := 0, cells := 0, slots := 0, locals := 0 } : Room).slots (s₁.setTop (entryFrame m #[(.int p1)] 1))
  refine OEnds.go (t' := s₁.setTop (mkF m 0 #[.val (.int p1)] [])) (fun t k => castTop (ef_rm2 m p1) k) ?_
  refine OEnds.go (t' := s₁.setTop (mkF m 3 #[.val (.int p1)] [(.int (64 : Int32)), (.int p1)])) (fun _ k => ?_) ?_
  · show Steps p.tables e below (s₁.setTop (mkF m 0 #[.val (.int p1)] [])) _
    refine XS.iloadN X0.here hx rfl (hb hby d2_0) rfl ?_
    show Steps p.tables e below (s₁.setTop (mkF m 1 #[.val (.int p1)] [(.int p1)])) _
    refine XS.bipush X0.here hx rfl (hb hby d2_1) ?_
    show Steps p.tables e below (s₁.setTop (mkF m 3 #[.val (.int p1)] [(.int (64 : Int32)), (.int p1)])) _
    exact k
  by_cases h3 : p1 < (64 : Int32)
  · refine OEnds.go (t' := s₁.setTop (mkF m 6 #[.val (.int p1)] [])) (fun _ k => XS.icmpNo X0.here hx rfl (hb hby d2_3) rfl (tlt h3).2.1 k) ?_
    refine OEnds.go (t' := s₁.setTop (mkF m 15 #[.val (.int p1)] [(.int (lcmpW ((((288054454291267584 : Int64).toUInt64 >>> (p1 &&& 0x3f).toInt64.toUInt64).toInt64) &&& (1 : Int64)) (0 : Int64)))])) (fun _ k => ?_) ?_
    · show Steps p.tables e below (s₁.setTop (mkF m 6 #[.val (.int p1)] [])) _
      refine X0.ldc2Long hx hown (mvT hZ (hw _ (List.mem_of_getElem? (i := 8) rfl))) (g := (mkF m 6 #[.val (.int p1)] [])) rfl (hb hby d2_6) _ ?_
      show Steps p.tables e below (s₁.setTop (mkF m 9 #[.val (.int p1)] [(.long (288054454291267584 : Int64))])) _
      refine XS.iloadN X0.here hx rfl (hb hby d2_9) rfl ?_
      show Steps p.tables e below (s₁.setTop (mkF m 10 #[.val (.int p1)] [(.int p1), (.long (288054454291267584 : Int64))])) _
      refine XS.lushr X0.here hx rfl (hb hby d2_10) rfl ?_
      show Steps p.tables e below (s₁.setTop (mkF m 11 #[.val (.int p1)] [(.long (((288054454291267584 : Int64).toUInt64 >>> (p1 &&& 0x3f).toInt64.toUInt64).toInt64))])) _
      refine XS.lconst X0.here hx rfl (hb hby d2_11) ?_
      show Steps p.tables e below (s₁.setTop (mkF m 12 #[.val (.int p1)] [(.long (1 : Int64)), (.long (((288054454291267584 : Int64).toUInt64 >>> (p1 &&& 0x3f).toInt64.toUInt64).toInt64))])) _
      refine XS.land X0.here hx rfl (hb hby d2_12) rfl ?_
      show Steps p.tables e below (s₁.setTop (mkF m 13 #[.val (.int p1)] [(.long ((((288054454291267584 : Int64).toUInt64 >>> (p1 &&& 0x3f).toInt64.toUInt64).toInt64) &&& (1 : Int64)))])) _
      refine XS.lconst X0.here hx rfl (hb hby d2_13) ?_
      show Steps p.tables e below (s₁.setTop (mkF m 14 #[.val (.int p1)] [(.long (0 : Int64)), (.long ((((288054454291267584 : Int64).toUInt64 >>> (p1 &&& 0x3f).toInt64.toUInt64).toInt64) &&& (1 : Int64)))])) _
      refine XS.lcmp X0.here hx rfl (hb hby d2_14) rfl ?_
      show Steps p.tables e below (s₁.setTop (mkF m 15 #[.val (.int p1)] [(.int (lcmpW ((((288054454291267584 : Int64).toUInt64 >>> (p1 &&& 0x3f).toInt64.toUInt64).toInt64) &&& (1 : Int64)) (0 : Int64)))])) _
      exact k
    by_cases h15 : (lcmpW ((((288054454291267584 : Int64).toUInt64 >>> (p1 &&& 0x3f).toInt64.toUInt64).toInt64) &&& (1 : Int64)) (0 : Int64)) = (0 : Int32)
    · refine OEnds.go (t' := s₁.setTop (mkF m 22 #[.val (.int p1)] [])) (fun _ k => XS.ifYes X0.here hx rfl (pc0 := 15) (pc' := 22) rfl (hb hby d2_15) rfl ((if0 _ _).trans (teq h15).1) (by decide) (by decide) k) ?_
      refine OEnds.go (t' := s₁.setTop (mkF m 23 #[.val (.int p1)] [(.int (0 : Int32))])) (fun _ k => ?_) ?_
      · show Steps p.tables e below (s₁.setTop (mkF m 22 #[.val (.int p1)] [])) _
        refine XS.iconst X0.here hx rfl (hb hby d2_22) ?_
        show Steps p.tables e below (s₁.setTop (mkF m 23 #[.val (.int p1)] [(.int (0 : Int32))])) _
        exact k
      refine OEnds.back X0 hlk (v := (some (.int (0 : Int32)))) (fun h => by rw [hrt] at h; cases h) (fun fs hr => ?_) ?_ (by decide) (by decide)
      · exact retN X0 hx (t := .boolean) hrt (by simp) (hb hby d2_23) hr
      · show Q2 Z p1  h0 n0 _ s₁.heap _
        rw [e0]
        exact ⟨by rw [own_x, if_pos h3, if_pos (show own_bit 288054454291267584 p1 = 0 from (own_eq _ _).mp h15)], N0, rfl⟩
    · refine OEnds.go (t' := s₁.setTop (mkF m 18 #[.val (.int p1)] [])) (fun _ k => XS.ifNo X0.here hx rfl (hb hby d2_15) rfl ((if0 _ _).trans (feq h15).1) k) ?_
      refine OEnds.go (t' := s₁.setTop (mkF m 23 #[.val (.int p1)] [(.int (1 : Int32))])) (fun _ k => ?_) ?_
      · show Steps p.tables e below (s₁.setTop (mkF m 18 #[.val (.int p1)] [])) _
        refine XS.iconst X0.here hx rfl (hb hby d2_18) ?_
        show Steps p.tables e below (s₁.setTop (mkF m 19 #[.val (.int p1)] [(.int (1 : Int32))])) _
        refine XS.goto X0.here hx rfl (pc0 := 19) (pc' := 23) rfl (hb hby d2_19) (by decide) (by decide) ?_
        show Steps p.tables e below (s₁.setTop (mkF m 23 #[.val (.int p1)] [(.int (1 : Int32))])) _
        exact k
      refine OEnds.back X0 hlk (v := (some (.int (1 : Int32)))) (fun h => by rw [hrt] at h; cases h) (fun fs hr => ?_) ?_ (by decide) (by decide)
      · exact retN X0 hx (t := .boolean) hrt (by simp) (hb hby d2_23) hr
      · show Q2 Z p1  h0 n0 _ s₁.heap _
        rw [e0]
        exact ⟨by rw [own_x, if_pos h3, if_neg (fun q => h15 ((own_eq _ _).mpr (show own_bit 288054454291267584 p1 = 0 from q)))], N0, rfl⟩
  · refine OEnds.go (t' := s₁.setTop (mkF m 24 #[.val (.int p1)] [])) (fun _ k => XS.icmpYes X0.here hx rfl (pc0 := 3) (pc' := 24) rfl (hb hby d2_3) rfl (flt h3).2.1 (by decide) (by decide) k) ?_
    refine OEnds.go (t' := s₁.setTop (mkF m 28 #[.val (.int p1)] [(.int (128 : Int32)), (.int p1)])) (fun _ k => ?_) ?_
    · show Steps p.tables e below (s₁.setTop (mkF m 24 #[.val (.int p1)] [])) _
      refine XS.iloadN X0.here hx rfl (hb hby d2_24) rfl ?_
      show Steps p.tables e below (s₁.setTop (mkF m 25 #[.val (.int p1)] [(.int p1)])) _
      refine XS.sipush X0.here hx rfl (hb hby d2_25) ?_
      show Steps p.tables e below (s₁.setTop (mkF m 28 #[.val (.int p1)] [(.int (128 : Int32)), (.int p1)])) _
      exact k
    by_cases h28 : p1 < (128 : Int32)
    · refine OEnds.go (t' := s₁.setTop (mkF m 31 #[.val (.int p1)] [])) (fun _ k => XS.icmpNo X0.here hx rfl (hb hby d2_28) rfl (tlt h28).2.1 k) ?_
      refine OEnds.go (t' := s₁.setTop (mkF m 43 #[.val (.int p1)] [(.int (lcmpW ((((5188146764422578174 : Int64).toUInt64 >>> ((p1 - (64 : Int32)) &&& 0x3f).toInt64.toUInt64).toInt64) &&& (1 : Int64)) (0 : Int64)))])) (fun _ k => ?_) ?_
      · show Steps p.tables e below (s₁.setTop (mkF m 31 #[.val (.int p1)] [])) _
        refine X0.ldc2Long hx hown (mvT hZ (hw _ (List.mem_of_getElem? (i := 9) rfl))) (g := (mkF m 31 #[.val (.int p1)] [])) rfl (hb hby d2_31) _ ?_
        show Steps p.tables e below (s₁.setTop (mkF m 34 #[.val (.int p1)] [(.long (5188146764422578174 : Int64))])) _
        refine XS.iloadN X0.here hx rfl (hb hby d2_34) rfl ?_
        show Steps p.tables e below (s₁.setTop (mkF m 35 #[.val (.int p1)] [(.int p1), (.long (5188146764422578174 : Int64))])) _
        refine XS.bipush X0.here hx rfl (hb hby d2_35) ?_
        show Steps p.tables e below (s₁.setTop (mkF m 37 #[.val (.int p1)] [(.int (64 : Int32)), (.int p1), (.long (5188146764422578174 : Int64))])) _
        refine XS.isub X0.here hx rfl (hb hby d2_37) rfl ?_
        show Steps p.tables e below (s₁.setTop (mkF m 38 #[.val (.int p1)] [(.int (p1 - (64 : Int32))), (.long (5188146764422578174 : Int64))])) _
        refine XS.lushr X0.here hx rfl (hb hby d2_38) rfl ?_
        show Steps p.tables e below (s₁.setTop (mkF m 39 #[.val (.int p1)] [(.long (((5188146764422578174 : Int64).toUInt64 >>> ((p1 - (64 : Int32)) &&& 0x3f).toInt64.toUInt64).toInt64))])) _
        refine XS.lconst X0.here hx rfl (hb hby d2_39) ?_
        show Steps p.tables e below (s₁.setTop (mkF m 40 #[.val (.int p1)] [(.long (1 : Int64)), (.long (((5188146764422578174 : Int64).toUInt64 >>> ((p1 - (64 : Int32)) &&& 0x3f).toInt64.toUInt64).toInt64))])) _
        refine XS.land X0.here hx rfl (hb hby d2_40) rfl ?_
        show Steps p.tables e below (s₁.setTop (mkF m 41 #[.val (.int p1)] [(.long ((((5188146764422578174 : Int64).toUInt64 >>> ((p1 - (64 : Int32)) &&& 0x3f).toInt64.toUInt64).toInt64) &&& (1 : Int64)))])) _
        refine XS.lconst X0.here hx rfl (hb hby d2_41) ?_
        show Steps p.tables e below (s₁.setTop (mkF m 42 #[.val (.int p1)] [(.long (0 : Int64)), (.long ((((5188146764422578174 : Int64).toUInt64 >>> ((p1 - (64 : Int32)) &&& 0x3f).toInt64.toUInt64).toInt64) &&& (1 : Int64)))])) _
        refine XS.lcmp X0.here hx rfl (hb hby d2_42) rfl ?_
        show Steps p.tables e below (s₁.setTop (mkF m 43 #[.val (.int p1)] [(.int (lcmpW ((((5188146764422578174 : Int64).toUInt64 >>> ((p1 - (64 : Int32)) &&& 0x3f).toInt64.toUInt64).toInt64) &&& (1 : Int64)) (0 : Int64)))])) _
        exact k
      by_cases h43 : (lcmpW ((((5188146764422578174 : Int64).toUInt64 >>> ((p1 - (64 : Int32)) &&& 0x3f).toInt64.toUInt64).toInt64) &&& (1 : Int64)) (0 : Int64)) = (0 : Int32)
      · refine OEnds.go (t' := s₁.setTop (mkF m 50 #[.val (.int p1)] [])) (fun _ k => XS.ifYes X0.here hx rfl (pc0 := 43) (pc' := 50) rfl (hb hby d2_43) rfl ((if0 _ _).trans (teq h43).1) (by decide) (by decide) k) ?_
        refine OEnds.go (t' := s₁.setTop (mkF m 51 #[.val (.int p1)] [(.int (0 : Int32))])) (fun _ k => ?_) ?_
        · show Steps p.tables e below (s₁.setTop (mkF m 50 #[.val (.int p1)] [])) _
          refine XS.iconst X0.here hx rfl (hb hby d2_50) ?_
          show Steps p.tables e below (s₁.setTop (mkF m 51 #[.val (.int p1)] [(.int (0 : Int32))])) _
          exact k
        refine OEnds.back X0 hlk (v := (some (.int (0 : Int32)))) (fun h => by rw [hrt] at h; cases h) (fun fs hr => ?_) ?_ (by decide) (by decide)
        · exact retN X0 hx (t := .boolean) hrt (by simp) (hb hby d2_51) hr
        · show Q2 Z p1  h0 n0 _ s₁.heap _
          rw [e0]
          exact ⟨by rw [own_x, if_neg h3, if_pos h28, if_pos (show own_bit 5188146764422578174 (p1 - 64) = 0 from (own_eq _ _).mp h43)], N0, rfl⟩
      · refine OEnds.go (t' := s₁.setTop (mkF m 46 #[.val (.int p1)] [])) (fun _ k => XS.ifNo X0.here hx rfl (hb hby d2_43) rfl ((if0 _ _).trans (feq h43).1) k) ?_
        refine OEnds.go (t' := s₁.setTop (mkF m 51 #[.val (.int p1)] [(.int (1 : Int32))])) (fun _ k => ?_) ?_
        · show Steps p.tables e below (s₁.setTop (mkF m 46 #[.val (.int p1)] [])) _
          refine XS.iconst X0.here hx rfl (hb hby d2_46) ?_
          show Steps p.tables e below (s₁.setTop (mkF m 47 #[.val (.int p1)] [(.int (1 : Int32))])) _
          refine XS.goto X0.here hx rfl (pc0 := 47) (pc' := 51) rfl (hb hby d2_47) (by decide) (by decide) ?_
          show Steps p.tables e below (s₁.setTop (mkF m 51 #[.val (.int p1)] [(.int (1 : Int32))])) _
          exact k
        refine OEnds.back X0 hlk (v := (some (.int (1 : Int32)))) (fun h => by rw [hrt] at h; cases h) (fun fs hr => ?_) ?_ (by decide) (by decide)
        · exact retN X0 hx (t := .boolean) hrt (by simp) (hb hby d2_51) hr
        · show Q2 Z p1  h0 n0 _ s₁.heap _
          rw [e0]
          exact ⟨by rw [own_x, if_neg h3, if_pos h28, if_neg (fun q => h43 ((own_eq _ _).mpr (show own_bit 5188146764422578174 (p1 - 64) = 0 from q)))], N0, rfl⟩
    · refine OEnds.go (t' := s₁.setTop (mkF m 52 #[.val (.int p1)] [])) (fun _ k => XS.icmpYes X0.here hx rfl (pc0 := 28) (pc' := 52) rfl (hb hby d2_28) rfl (flt h28).2.1 (by decide) (by decide) k) ?_
      refine OEnds.go (t' := s₁.setTop (mkF m 53 #[.val (.int p1)] [(.int (0 : Int32))])) (fun _ k => ?_) ?_
      · show Steps p.tables e below (s₁.setTop (mkF m 52 #[.val (.int p1)] [])) _
        refine XS.iconst X0.here hx rfl (hb hby d2_52) ?_
        show Steps p.tables e below (s₁.setTop (mkF m 53 #[.val (.int p1)] [(.int (0 : Int32))])) _
        exact k
      refine OEnds.back X0 hlk (v := (some (.int (0 : Int32)))) (fun h => by rw [hrt] at h; cases h) (fun fs hr => ?_) ?_ (by decide) (by decide)
      · exact retN X0 hx (t := .boolean) hrt (by simp) (hb hby d2_53) hr
      · show Q2 Z p1  h0 n0 _ s₁.heap _
        rw [e0]
        exact ⟨by rw [own_x, if_neg h3, if_neg h28], N0, rfl⟩
theorem pn_0 : plainName "com/example/fullmakt/fullmakt/core/UriCharactersIsUnreservedPinLaw" = true := by first | (simp [plainName, overriddenIn]; done) | decide +kernel
theorem pd_rm0_0 : parseMethodDescriptor "(C)Z" = some ⟨[.char], some .boolean⟩ := by decide +kernel
theorem ef_rm0 (m : MethodId) (p1 : Int32) (p2 : Int32) : entryFrame m #[(.int p1), (.int p2)] maxLocals = mkF m 0 #[.val (.int p1), .val (.int p2), .unset] [] := by first | (simp [entryFrame, mkF, argsToLocals, Value.category, maxLocals]; done) | rfl
def Q0 (Z : State) (p1 : Int32) (p2 : Int32)  (h0 : Heap) (n0 : Nat) (v : Option Value) (h : Heap) (L : List Loc) : Prop := v = some (.int 1) ∧ Fr n0 L
set_option maxRecDepth 65536 in
set_option maxHeartbeats 40000000 in
theorem rm0 (l : Launch) (Z : State) (a0 : Array Value) (hw : ∀ d ∈ tables_1, d.before a0 Z = true) (ws : List Jvm.Cond) (p1 : Int32) (p2 : Int32)  (h0 : Heap) (n0 : Nat) (Z0 : n0 ≤ h0.size)  :
    MetFree l x (head1 (Jvm.Cond.code x code maxLocals ret :: ws) room_1) (fun a U => a = #[(.int p1), (.int p2)] ∧ Z.Warmed39 U.vm ∧ U.heap = h0) (fun _ _ _ _ _ => True) (fun _ U o U' => ∃ v L, o = .returned v ∧ Q0 Z p1 p2  h0 n0 v U'.heap L ∧ FrameEnd U o U' L room_1.cells room_1.slots) := by
  refine MetFree.of_bodySF (plainFor_of_name pn_0) hisR ?_
  intro p e s m args below meth c s₁ Bd hml0 hP hK
  obtain ⟨rfl, hZ, hh⟩ := hP
  have hx := Bd.exec
  have hby := Bd.bytes
  have hml : c.maxLocals = 3 := hml0
  have hown : s.vm.findClass "com/example/fullmakt/fullmakt/core/UriCharactersIsUnreservedPinLaw" = some m.cls := findClass_of_methodNamed Bd.named
  have hnm := (name_of_methodNamed Bd.named Bd.method).1
  have hlk := BodyLoose.notSynchronized Bd
  have hrt := Bd.returns
  have X0 : Stand p l e room_1 s m #[(.int p1), (.int p2)] below meth c s₁ [] 0 0 := Stand.of_body Bd
  have e0 : s₁.heap = h0 := by rw [← hh, Bd.state]; rfl
  have N0 := Fr.nil n0
  show OEnds p e below s (Q0 Z p1 p2  h0 n0) room_1.cells room_1.slots (s₁.setTop (entryFrame m #[(.int p1), (.int p2)] maxLocals))
  refine OEnds.go (t' := s₁.setTop (mkF m 0 #[.val (.int p1), .val (.int p2), .unset] [])) (fun t k => castTop (ef_rm0 m p1 p2) k) ?_
  refine OEnds.cut (fun En => ∀ (ch : Int32), 0 ≤ ch.toInt → En (s₁.setTop (mkF m 16 #[.val (.int p1), .val (.int p2), .unset] [(.int ch)]))) ?_ (fun K16 => ?_)
  · intro ch hlo
    refine OEnds.go (t' := s₁.setTop (mkF m 18 #[.val (.int p1), .val (.int p2), .val (.int ch)] [(.int ch)])) (fun _ k => ?_) ?_
    · show Steps p.tables e below (s₁.setTop (mkF m 16 #[.val (.int p1), .val (.int p2), .unset] [(.int ch)])) _
      refine XS.istoreN X0.here hx rfl (hb hby at_16) rfl (l' := #[.val (.int p1), .val (.int p2), .val (.int ch)]) rfl ?_
      show Steps p.tables e below (s₁.setTop (mkF m 17 #[.val (.int p1), .val (.int p2), .val (.int ch)] [])) _
      refine XS.iloadN X0.here hx rfl (hb hby at_17) rfl ?_
      show Steps p.tables e below (s₁.setTop (mkF m 18 #[.val (.int p1), .val (.int p2), .val (.int ch)] [(.int ch)])) _
      exact k
    obtain ⟨_, _, ⟨T1, L1, k1, n1⟩, -, X1, ⟨Lc1, hQ1, l1, y1, z1⟩, st1⟩ := Jvm.LawKit.callS X0 hx (y := (⟨"com/example/fullmakt/fullmakt/core/UriCharacters", "isUnreserved", "(C)Z"⟩ : MethodName)) hown (mvT hZ (hw _ (List.mem_of_getElem? (i := 0) rfl))) (mvT hZ (hw _ (List.mem_of_getElem? (i := 1) rfl))) (mvT hZ (hw _ (List.mem_of_getElem? (i := 2) rfl))) (mvT hZ (hw _ (List.mem_of_getElem? (i := 3) rfl))) (by decide) (backOf (W := 0) (rm1 l Z a0 hw [] ch h0 n0 Z0 ) hZ (hw _ (List.mem_of_getElem? (i := 3) rfl)) (hw _ (List.mem_of_getElem? (i := 2) rfl)) (by decide) (by decide)) (g := (mkF m 18 #[.val (.int p1), .val (.int p2), .val (.int ch)] [(.int ch)])) rfl (by rw [hml]; rfl) (argsL := [(.int ch)]) (rest := []) (lenOf pd_rm0_0 rfl) rfl (by show 2 * 0 + _ ≤ _; exact Nat.le_of_eq rfl) (hb hby at_18) (fun _ _ => ⟨rfl, e0, (by decide : 0 + 0 ≤ _), (by decide : 0 + 0 ≤ _)⟩)
    dsimp only [Pt.U, Pt.locs, Pt.cells, Pt.slots] at X1 l1 y1 z1 st1 hQ1
    subst l1 y1 z1
    obtain ⟨rfl, N1q, eh⟩ := hQ1
    have N1 := Fr.app N0 N1q
    have eh1 := eh
    refine OEnds.go (t' := T1.setTop (mkF m 21 #[.val (.int p1), .val (.int p2), .val (.int ch)] [(.int (own_u ch))])) (fun _ k => st1 _ k) ?_
    refine OEnds.go (t' := T1.setTop (mkF m 22 #[.val (.int p1), .val (.int p2), .val (.int ch)] [(.int ch), (.int (own_u ch))])) (fun _ k => ?_) ?_
    · show Steps p.tables e below (T1.setTop (mkF m 21 #[.val (.int p1), .val (.int p2), .val (.int ch)] [(.int (own_u ch))])) _
      refine XS.iloadN X1.here hx rfl (hb hby at_21) rfl ?_
      show Steps p.tables e below (T1.setTop (mkF m 22 #[.val (.int p1), .val (.int p2), .val (.int ch)] [(.int ch), (.int (own_u ch))])) _
      exact k
    obtain ⟨_, _, ⟨T2, L2, k2, n2⟩, -, X2, ⟨Lc2, hQ2, l2, y2, z2⟩, st2⟩ := Jvm.LawKit.callS X1 hx (y := (⟨"com/example/fullmakt/fullmakt/core/UriCharactersIsUnreservedPinLaw", "expected", "(C)Z"⟩ : MethodName)) hown (mvT hZ (hw _ (List.mem_of_getElem? (i := 4) rfl))) (mvT hZ (hw _ (List.mem_of_getElem? (i := 5) rfl))) (mvT hZ (hw _ (List.mem_of_getElem? (i := 6) rfl))) (mvT hZ (hw _ (List.mem_of_getElem? (i := 7) rfl))) (by decide) (backOf (W := 1) (rm2 l Z a0 hw [] ch h0 n0 Z0 ) hZ (hw _ (List.mem_of_getElem? (i := 7) rfl)) (hw _ (List.mem_of_getElem? (i := 6) rfl)) (by decide) (by decide)) (g := (mkF m 22 #[.val (.int p1), .val (.int p2), .val (.int ch)] [(.int ch), (.int (own_u ch))])) rfl (by rw [hml]; rfl) (argsL := [(.int ch)]) (rest := [(.int (own_u ch))]) (lenOf pd_rm0_0 rfl) rfl (by show 2 * 0 + _ ≤ _; exact Nat.le_of_eq rfl) (hb hby at_22) (fun _ _ => ⟨rfl, eh1, (by decide : 0 + 0 ≤ _), (by decide : 0 + 0 ≤ _)⟩)
    dsimp only [Pt.U, Pt.locs, Pt.cells, Pt.slots] at X2 l2 y2 z2 st2 hQ2
    subst l2 y2 z2
    obtain ⟨rfl, N2q, eh⟩ := hQ2
    have N2 := Fr.app N1 N2q
    have eh2 := eh
    refine OEnds.go (t' := T2.setTop (mkF m 25 #[.val (.int p1), .val (.int p2), .val (.int ch)] [(.int (own_x ch)), (.int (own_u ch))])) (fun _ k => st2 _ k) ?_
    refine OEnds.go (t' := T2.setTop (mkF m 28 #[.val (.int p1), .val (.int p2), .val (.int ch)] [])) (fun _ k => XS.icmpNo X2.here hx rfl (hb hby at_25) rfl (teq (own_law ch hlo)).2 k) ?_
    refine OEnds.go (t' := T2.setTop (mkF m 33 #[.val (.int p1), .val (.int p2), .val (.int ch)] [(.int (1 : Int32))])) (fun _ k => ?_) ?_
    · show Steps p.tables e below (T2.setTop (mkF m 28 #[.val (.int p1), .val (.int p2), .val (.int ch)] [])) _
      refine XS.iconst X2.here hx rfl (hb hby at_28) ?_
      show Steps p.tables e below (T2.setTop (mkF m 29 #[.val (.int p1), .val (.int p2), .val (.int ch)] [(.int (1 : Int32))])) _
      refine XS.goto X2.here hx rfl (pc0 := 29) (pc' := 33) rfl (hb hby at_29) (by decide) (by decide) ?_
      show Steps p.tables e below (T2.setTop (mkF m 33 #[.val (.int p1), .val (.int p2), .val (.int ch)] [(.int (1 : Int32))])) _
      exact k
    refine OEnds.back X2 hlk (v := (some (.int (1 : Int32)))) (fun h => by rw [hrt] at h; cases h) (fun fs hr => ?_) ?_ (by decide) (by decide)
    · exact retN X2 hx (t := .boolean) hrt (by simp) (hb hby at_33) hr
    · show Q0 Z p1 p2  h0 n0 _ T2.heap _
      rw [eh2]
      exact ⟨rfl, N2⟩
  refine OEnds.go (t' := s₁.setTop (mkF m 3 #[.val (.int p1), .val (.int p2), .unset] [(.int (p2 &&& (1 : Int32)))])) (fun _ k => ?_) ?_
  · show Steps p.tables e below (s₁.setTop (mkF m 0 #[.val (.int p1), .val (.int p2), .unset] [])) _
    refine XS.iloadN X0.here hx rfl (hb hby at_0) rfl ?_
    show Steps p.tables e below (s₁.setTop (mkF m 1 #[.val (.int p1), .val (.int p2), .unset] [(.int p2)])) _
    refine XS.iconst X0.here hx rfl (hb hby at_1) ?_
    show Steps p.tables e below (s₁.setTop (mkF m 2 #[.val (.int p1), .val (.int p2), .unset] [(.int (1 : Int32)), (.int p2)])) _
    refine XS.iand X0.here hx rfl (hb hby at_2) rfl ?_
    show Steps p.tables e below (s₁.setTop (mkF m 3 #[.val (.int p1), .val (.int p2), .unset] [(.int (p2 &&& (1 : Int32)))])) _
    exact k
  by_cases h3 : (p2 &&& (1 : Int32)) = (0 : Int32)
  · refine OEnds.go (t' := s₁.setTop (mkF m 14 #[.val (.int p1), .val (.int p2), .unset] [])) (fun _ k => XS.ifYes X0.here hx rfl (pc0 := 3) (pc' := 14) rfl (hb hby at_3) rfl ((if0 _ _).trans (teq h3).1) (by decide) (by decide) k) ?_
    refine OEnds.go (t' := s₁.setTop (mkF m 16 #[.val (.int p1), .val (.int p2), .unset] [(.int (p1.toUInt32.toUInt16.toUInt32.toInt32))])) (fun _ k => ?_) ?_
    · show Steps p.tables e below (s₁.setTop (mkF m 14 #[.val (.int p1), .val (.int p2), .unset] [])) _
      refine XS.iloadN X0.here hx rfl (hb hby at_14) rfl ?_
      show Steps p.tables e below (s₁.setTop (mkF m 15 #[.val (.int p1), .val (.int p2), .unset] [(.int p1)])) _
      refine XS.i2c X0.here hx rfl (hb hby at_15) rfl ?_
      show Steps p.tables e below (s₁.setTop (mkF m 16 #[.val (.int p1), .val (.int p2), .unset] [(.int (p1.toUInt32.toUInt16.toUInt32.toInt32))])) _
      exact k
    exact K16 _ (own_i2c _)
  · refine OEnds.go (t' := s₁.setTop (mkF m 6 #[.val (.int p1), .val (.int p2), .unset] [])) (fun _ k => XS.ifNo X0.here hx rfl (hb hby at_3) rfl ((if0 _ _).trans (feq h3).1) k) ?_
    refine OEnds.go (t' := s₁.setTop (mkF m 16 #[.val (.int p1), .val (.int p2), .unset] [(.int ((p1 &&& (127 : Int32)).toUInt32.toUInt16.toUInt32.toInt32))])) (fun _ k => ?_) ?_
    · show Steps p.tables e below (s₁.setTop (mkF m 6 #[.val (.int p1), .val (.int p2), .unset] [])) _
      refine XS.iloadN X0.here hx rfl (hb hby at_6) rfl ?_
      show Steps p.tables e below (s₁.setTop (mkF m 7 #[.val (.int p1), .val (.int p2), .unset] [(.int p1)])) _
      refine XS.bipush X0.here hx rfl (hb hby at_7) ?_
      show Steps p.tables e below (s₁.setTop (mkF m 9 #[.val (.int p1), .val (.int p2), .unset] [(.int (127 : Int32)), (.int p1)])) _
      refine XS.iand X0.here hx rfl (hb hby at_9) rfl ?_
      show Steps p.tables e below (s₁.setTop (mkF m 10 #[.val (.int p1), .val (.int p2), .unset] [(.int (p1 &&& (127 : Int32)))])) _
      refine XS.i2c X0.here hx rfl (hb hby at_10) rfl ?_
      show Steps p.tables e below (s₁.setTop (mkF m 11 #[.val (.int p1), .val (.int p2), .unset] [(.int ((p1 &&& (127 : Int32)).toUInt32.toUInt16.toUInt32.toInt32))])) _
      refine XS.goto X0.here hx rfl (pc0 := 11) (pc' := 16) rfl (hb hby at_11) (by decide) (by decide) ?_
      show Steps p.tables e below (s₁.setTop (mkF m 16 #[.val (.int p1), .val (.int p2), .unset] [(.int ((p1 &&& (127 : Int32)).toUInt32.toUInt16.toUInt32.toInt32))])) _
      exact k
    exact K16 _ (own_i2c _)
set_option maxRecDepth 65536 in
set_option maxHeartbeats 40000000 in
theorem comes_1 {Post : Tables → Env → Array Value → State → Outcome → State → Prop} (hpost : ∀ tb e args s v u, (limb_1_1.after args s (.returned v) u = true ∧ limb_1_2.after args s (.returned v) u = true ∧ True) → FrameEnd s (.returned v) u (Jvm.fieldLocs frame_1_writes args s ++ Jvm.arrayLocs frame_1_arrays args s ++ Jvm.staticLocs frame_1_statics s) 0 0 → Post tb e args s (.returned v) u) :
    ArmFor flags0 classFile x code maxLocals ret World_1 tables_1 room_1 Calls_1 rest_1 Pre_1 Post := by
  intro l hfl _ _ p e ha hc hk s m args below hf hA hF happ hP
  obtain ⟨hcalls, hrest, hpre⟩ := hP
  obtain ⟨-, -, -, hnamed, -, -, -, hat⟩ := (Spec.applies_iff hf).mp happ
  obtain ⟨hg, hn⟩ := and_e (Cond.before_iff.mp (show (Jvm.Cond.and given_1 narrow_1).before args s = true from hpre))
  obtain ⟨gc, g0⟩ := and_e hg
  obtain ⟨ga0, g1⟩ := and_e g0
  obtain ⟨w0, w1, rfl⟩ : ∃ w0 w1 : Value, args = #[w0, w1] := by
    have hs : args.size = 2 := by simpa [Cond.value, given_1] using gc
    obtain ⟨L⟩ := args
    match L, hs with
    | [w0, w1], _ => exact ⟨w0, w1, rfl⟩
  have hw := fun d (hd : d ∈ tables_1) => atoms_spec (ws := Jvm.Cond.code x code maxLocals ret :: tables_1) hat d (List.mem_cons_of_mem _ hd)
  have hfit : Fit s := fun {y c} hc i hi => by
    obtain ⟨ha, rfl⟩ := Array.getElem?_eq_some_iff.mp hc
    have q := List.all_eq_true.mp ((Array.all_eq_true_iff_forall_mem.mp hF) _ (Array.getElem_mem ha)) i (List.mem_range.mpr hi)
    simpa [Array.getElem?_eq_getElem hi] using q
  obtain ⟨i0, ei0⟩ := is_v ga0
  obtain rfl : w0 = (.int i0) := Option.some.inj ei0
  obtain ⟨i1, ei1⟩ := is_v g1
  obtain rfl : w1 = (.int i1) := Option.some.inj ei1
  obtain ⟨n, o, h1, h2, h3, _, L, rfl, ⟨rfl, N⟩, hq⟩ := rm0 l s _ hw tables_1 i0 i1  s.heap s.heap.size (Nat.le_refl _)  p e ha hc hk s m _ below hf ((Spec.applies_iff_loose hf).mp happ).1 ⟨rfl, State.Warmed39.refl s, rfl⟩ trivial
  refine ⟨n, _, h1, h2, h3, hpost _ _ _ _ _ _ ⟨Cond.after_iff.mpr rfl, Cond.after_iff.mpr (eq_i res_at (Term.int_eval (1)) rfl), trivial⟩ ⟨hq.1, hq.2.1, (hq.2.2.sift fun y hy => Or.inr (N y hy)).mono (by decide) (by decide)⟩⟩
theorem main_1_1 : Claimed_1_1 := comes_1 fun _ _ _ _ _ _ h hF => ⟨h.1, hF⟩
theorem main_1_2 : Claimed_1_2 := comes_1 fun _ _ _ _ _ _ h hF => ⟨h.2.1, hF⟩
end Jvm.Pilot.@@N@@
namespace Jvm.Pilot.@@N@@
open Jvm Jvm.ClassFile Sem Op Lib Jvm.Free Jvm.Stand Jvm.Pilot.@@N@@.Jvm.D
/-! MADE BY PROGRAM (witnessworld.py) out of the Statement's table words and the real class files: 9 classes; the members and pool entries that the words name. The judged class is class 1, her method 2. -/
namespace start1
open Jvm.ClassFile
def u (s : String) : CpInfo := .utf8 (stringToUtf16 s)
/-- a pool by its gaps: so many unusable entries, then the entry; so many at the end -/
def gap : Nat → List CpInfo → List CpInfo
  | 0, r => r
  | n + 1, r => .unusable :: gap n r
def poolList (es : List (Nat × CpInfo)) (last : Nat) : List CpInfo := es.foldr (fun e r => gap e.1 (e.2 :: r)) (gap last [])
def pool (es : List (Nat × CpInfo)) (last : Nat) : Array CpInfo := ⟨poolList es last⟩
def fileOf (pool : Array CpInfo) (this : Nat) (attrs : Array Attribute := #[]) (ms : Array MethodInfo := #[]) (fl : Nat := 33) (sup : Nat := 0) (ifs : Array Nat := #[]) (fds : Array FieldInfo := #[]) : ClassFile where
  minorVersion := 0
  majorVersion := 65
  constantPool := pool
  accessFlags := fl
  thisClass := this
  superClass := sup
  interfaces := ifs
  fields := fds
  methods := ms
  attributes := attrs
def plain (name : String) (sup : Option ClassId) : Class where
  name := name
  kind := .ordinary
  loader := none
  accessFlags := 33
  super := sup
  interfaces := #[]
  cf := none
  fields := #[]
  methods := #[]
  instanceTypes := #[]
  staticTypes := #[]
  resolved := #[]
  callSites := []
  init := .initialized
  statics := none
  mirror := none

def pool0 : Array CpInfo := pool [(5, u "<init>"), (0, u "()V"), (1, .class_ 10), (1, u "java/lang/Object")] 113

def k0m0 : Method := { name := "<init>", desc := "()V", sig := { parameters := [], returnType := none }, accessFlags := 1, code := none }
/-- java/lang/Object -/
def k0 : Class := { plain "java/lang/Object" none with
  accessFlags := 33
  interfaces := #[]
  cf := some (fileOf pool0 8 #[] #[{ accessFlags := 1, nameIndex := 5, descriptorIndex := 6, attributes := #[] }] 33 0 #[] #[])
  fields := #[]
  methods := #[k0m0]
  instanceTypes := #[]
  staticTypes := #[]
  resolved := Array.replicate 124 none
  statics := none }

def pool1 : Array CpInfo := pool [(2, .class_ 4), (1, u "java/lang/Object"), (0, u "<init>"), (0, u "()V"), (0, .class_ 8), (0, u "com/example/fullmakt/fullmakt/core/UriCharactersIsUnreservedPinLaw"), (0, .long 288054454291267584), (1, .long 5188146764422578174), (1, .methodref 14 15), (0, .class_ 16), (0, .nameAndType 17 18), (0, u "com/example/fullmakt/fullmakt/core/UriCharacters"), (0, u "isUnreserved"), (0, u "(C)Z"), (0, .methodref 7 20), (0, .nameAndType 21 18), (0, u "expected"), (0, u "LO"), (0, u "J"), (1, u "HI"), (3, u "law"), (0, u "(II)Z")] 2

def k1m0 : Method := { name := "<init>", desc := "()V", sig := { parameters := [], returnType := none }, accessFlags := 1, code := none }
def k1c1 : Code := { maxStack := 4, maxLocals := 1, code := method_2_code, exceptionTable := #[], attributes := #[] }
def k1m1 : Method := { name := "expected", desc := "(C)Z", sig := { parameters := [.char], returnType := some .boolean }, accessFlags := 10, code := some k1c1 }
def k1c2 : Code := { maxStack := 2, maxLocals := 3, code := code, exceptionTable := #[], attributes := #[] }
def k1m2 : Method := { name := "law", desc := "(II)Z", sig := { parameters := [.int, .int], returnType := some .boolean }, accessFlags := 9, code := some k1c2 }
/-- com/example/fullmakt/fullmakt/core/UriCharactersIsUnreservedPinLaw -/
def k1 : Class := { plain "com/example/fullmakt/fullmakt/core/UriCharactersIsUnreservedPinLaw" (some 0) with
  accessFlags := 49
  interfaces := #[]
  cf := some (fileOf pool1 7 #[] #[{ accessFlags := 1, nameIndex := 5, descriptorIndex := 6, attributes := #[] }, { accessFlags := 10, nameIndex := 21, descriptorIndex := 18, attributes := #[] }, { accessFlags := 9, nameIndex := 29, descriptorIndex := 30, attributes := #[] }] 49 2 #[] #[{ accessFlags := 26, nameIndex := 22, descriptorIndex := 23, attributes := #[] }, { accessFlags := 26, nameIndex := 25, descriptorIndex := 23, attributes := #[] }])
  fields := #[{ name := "LO", type := .long, accessFlags := 26, slot := 0, constantValue := 0 }, { name := "HI", type := .long, accessFlags := 26, slot := 1, constantValue := 0 }]
  methods := #[k1m0, k1m1, k1m2]
  instanceTypes := #[]
  staticTypes := #[.long, .long]
  resolved := Array.replicate 33 none
  statics := none }

def pool2 : Array CpInfo := pool [(2, .class_ 4), (1, u "java/lang/Object"), (0, u "<init>"), (0, u "()V"), (22, .class_ 31), (1, u "com/example/fullmakt/fullmakt/core/UriCharacters"), (0, u "isUnreserved"), (0, u "(C)Z"), (6, u "HEX_DIGITS"), (0, u "[C")] 20

def k2m0 : Method := { name := "<init>", desc := "()V", sig := { parameters := [], returnType := none }, accessFlags := 2, code := none }
def k2c1 : Code := { maxStack := 2, maxLocals := 1, code := prog_41_method_2_code, exceptionTable := #[], attributes := #[] }
def k2m1 : Method := { name := "isUnreserved", desc := "(C)Z", sig := { parameters := [.char], returnType := some .boolean }, accessFlags := 9, code := some k2c1 }
/-- com/example/fullmakt/fullmakt/core/UriCharacters -/
def k2 : Class := { plain "com/example/fullmakt/fullmakt/core/UriCharacters" (some 0) with
  accessFlags := 49
  interfaces := #[]
  cf := some (fileOf pool2 29 #[] #[{ accessFlags := 2, nameIndex := 5, descriptorIndex := 6, attributes := #[] }, { accessFlags := 9, nameIndex := 32, descriptorIndex := 33, attributes := #[] }] 49 2 #[] #[{ accessFlags := 26, nameIndex := 40, descriptorIndex := 41, attributes := #[] }])
  fields := #[{ name := "HEX_DIGITS", type := (.array .char), accessFlags := 26, slot := 0, constantValue := 0 }]
  methods := #[k2m0, k2m1]
  instanceTypes := #[]
  staticTypes := #[(.array .char)]
  resolved := Array.replicate 62 none
  statics := none }

def pool3 : Array CpInfo := pool [(1, u "java/lang/Cloneable"), (0, .class_ 1), (0, u "java/lang/Object"), (0, .class_ 3)] 3

/-- java/lang/Cloneable -/
def k3 : Class := { plain "java/lang/Cloneable" (some 0) with
  accessFlags := 1537
  interfaces := #[]
  cf := some (fileOf pool3 2 #[] #[] 1537 4 #[] #[])
  fields := #[]
  methods := #[]
  instanceTypes := #[]
  staticTypes := #[]
  resolved := Array.replicate 8 none
  statics := none }

def pool4 : Array CpInfo := pool [(1, u "java/io/Serializable"), (0, .class_ 1), (0, u "java/lang/Object"), (0, .class_ 3)] 3

/-- java/io/Serializable -/
def k4 : Class := { plain "java/io/Serializable" (some 0) with
  accessFlags := 1537
  interfaces := #[]
  cf := some (fileOf pool4 2 #[] #[] 1537 4 #[] #[])
  fields := #[]
  methods := #[]
  instanceTypes := #[]
  staticTypes := #[]
  resolved := Array.replicate 8 none
  statics := none }

/-- the primitive byte -/
def k5 : Class := { plain "byte" none with kind := .primitive 'B', accessFlags := 0x411 }
/-- [B -/
def k6 : Class := { plain "[B" (some 0) with kind := .array 5 .byte, interfaces := #[3, 4], accessFlags := 1041 }

/-- the primitive int -/
def k7 : Class := { plain "int" none with kind := .primitive 'I', accessFlags := 0x411 }
/-- [I -/
def k8 : Class := { plain "[I" (some 0) with kind := .array 7 .int, interfaces := #[3, 4], accessFlags := 1041 }

def heap : Heap := #[]
def classes : Array Class := #[k0, k1, k2, k3, k4, k5, k6, k7, k8]
def interned : List (Array UInt16 × Addr) := []
def slotsUsed : Nat := 0
def theMethod : MethodId := ⟨1, 2⟩
def args0 : Array Value := #[.int 65, .int 1]
def aboutOver (below : List Frame) : State where
  vm := { classes := classes, interned := interned.toArray }
  heap := heap
  slotsUsed := slotsUsed
  threads := #[{ frames := .invoking theMethod args0 :: below }]
def below0 : List Frame := [.native { method := ⟨0, 0⟩, args := #[] }]
def about1 : State := aboutOver below0
def p0 : Program := .bare "" "" ""
def e0 : Env := launch0.env 0 0 0
theorem w_frames : about1.frames = Frame.invoking theMethod args0 :: below0 := rfl
set_option maxRecDepth 65536 in
theorem w_args : argsFit about1.vm theMethod args0 = true := by decide +kernel
set_option maxRecDepth 65536 in
theorem w_heap : heapFits about1 = true := by decide +kernel
set_option maxRecDepth 65536 in
theorem w_runnable : about1.curStatus? = some .runnable := by decide +kernel
set_option maxRecDepth 65536 in
theorem w_alone : about1.alone = true := by decide +kernel
set_option maxRecDepth 65536 in
theorem w_named : about1.methodNamed? x = some theMethod := by decide +kernel
set_option maxRecDepth 65536 in
theorem w_hears : about1.hears theMethod below0 = true := by decide +kernel
set_option maxRecDepth 65536 in
theorem w_ripe : about1.ripe theMethod args0 below0 = true := by decide +kernel
theorem w_running : about1.status = .running := rfl
set_option maxRecDepth 65536 in
theorem w_room : about1.hasRoom e0.platform room_1 = true :=
  launch0.hasRoom_least _ room_1 (by decide +kernel) (by decide +kernel) (by decide +kernel) (by decide +kernel) (by decide +kernel) (by decide +kernel)
theorem allAtoms_all (ts : List Jvm.Cond) (a : Array Jvm.Value) (st : Jvm.State) : (allAtoms ts).before a st = ts.all (fun c => c.before a st) := by
  induction ts with
  | nil => rfl
  | cons c t ih =>
    show (Jvm.Cond.and c (allAtoms t)).before a st = _
    rw [Jvm.Cond.before_and, ih, List.all_cons]
def words1 : List Jvm.Cond := Jvm.Cond.code x code maxLocals ret :: tables_1
/-- a 'code' word, met by the world's own term for the bytes: nothing is compared byte by byte -/
theorem code_word {y : MethodName} {bytes : ByteArray} {mx : Nat} {rt : Option FieldType} {a : Array Value} {s : State} {m : MethodId} {meth : Method} {c : Code} (h1 : s.methodNamed? y = some m) (h2 : s.vm.method? m = some meth) (h3 : meth.code = some c) (h4 : c.code = bytes)
    (h5 : (c.maxLocals == mx && c.exceptionTable.isEmpty && decide (c.maxStack ≤ mostOperands) && decide (meth.sig.returnType = rt) && !meth.locks && decide (parseMethodDescriptor y.desc = some meth.sig)) = true) : (Jvm.Cond.code y bytes mx rt).before a s = true := by
  simp only [Bool.and_eq_true, beq_iff_eq, Bool.not_eq_true', decide_eq_true_eq] at h5
  obtain ⟨⟨⟨⟨⟨g1, g2⟩, g3⟩, g4⟩, g5⟩, g6⟩ := h5
  simp [Cond.before, Cond.holds, Cond.value, h1, h2, h3, h4, g1, g2, g3, g4, g5, g6]
def isCode : Jvm.Cond → Bool
  | .code _ _ _ _ => true
  | _ => false
theorem all_split {L : List Jvm.Cond} {P : Jvm.Cond → Bool} (h1 : L.all (fun c => isCode c || P c) = true) (h2 : ∀ c ∈ L.filter isCode, P c = true) : L.all P = true := by
  refine List.all_eq_true.mpr fun c hc => ?_
  have h := List.all_eq_true.mp h1 c hc
  rcases Bool.eq_false_or_eq_true (isCode c) with hi | hi
  · exact h2 c (List.mem_filter.mpr ⟨hc, hi⟩)
  · simpa [hi] using h
set_option maxRecDepth 65536 in
theorem w_c0 : (Jvm.Cond.code x code maxLocals ret).before args0 about1 = true := code_word (m := ⟨1, 2⟩) (meth := k1m2) (c := k1c2) (by decide +kernel) rfl rfl rfl (by decide +kernel)
set_option maxRecDepth 65536 in
theorem w_c1 : (Jvm.Cond.code ({ cls := "com/example/fullmakt/fullmakt/core/UriCharacters", name := "isUnreserved", desc := "(C)Z" } : Jvm.MethodName) prog_41_method_2_code (1 : Nat) (Option.some Jvm.ClassFile.FieldType.boolean)).before args0 about1 = true := code_word (m := ⟨2, 1⟩) (meth := k2m1) (c := k2c1) (by decide +kernel) rfl rfl rfl (by decide +kernel)
set_option maxRecDepth 65536 in
theorem w_c2 : (Jvm.Cond.code ({ cls := "com/example/fullmakt/fullmakt/core/UriCharactersIsUnreservedPinLaw", name := "expected", desc := "(C)Z" } : Jvm.MethodName) method_2_code (1 : Nat) (Option.some Jvm.ClassFile.FieldType.boolean)).before args0 about1 = true := code_word (m := ⟨1, 1⟩) (meth := k1m1) (c := k1c1) (by decide +kernel) rfl rfl rfl (by decide +kernel)
def codes1 : List Jvm.Cond := [Jvm.Cond.code x code maxLocals ret, Jvm.Cond.code ({ cls := "com/example/fullmakt/fullmakt/core/UriCharacters", name := "isUnreserved", desc := "(C)Z" } : Jvm.MethodName) prog_41_method_2_code (1 : Nat) (Option.some Jvm.ClassFile.FieldType.boolean), Jvm.Cond.code ({ cls := "com/example/fullmakt/fullmakt/core/UriCharactersIsUnreservedPinLaw", name := "expected", desc := "(C)Z" } : Jvm.MethodName) method_2_code (1 : Nat) (Option.some Jvm.ClassFile.FieldType.boolean)]
set_option maxRecDepth 65536 in
theorem codes_eq : words1.filter isCode = codes1 := rfl
theorem w_codes : ∀ c ∈ words1.filter isCode, c.before args0 about1 = true := by
  rw [codes_eq]
  intro c hc
  simp only [codes1, List.mem_cons, List.not_mem_nil, or_false] at hc
  rcases hc with rfl | rfl | rfl
  · exact w_c0
  · exact w_c1
  · exact w_c2
set_option maxRecDepth 65536 in
theorem w_t1 : words1.all (fun c => isCode c || c.before args0 about1) = true := by decide +kernel
theorem w_tables : (allAtoms (Jvm.Cond.code x code maxLocals ret :: tables_1)).before args0 about1 = true := by
  rw [allAtoms_all]
  show words1.all (fun c => c.before args0 about1) = true
  refine all_split ?_ w_codes
  rw [w_t1]
set_option maxRecDepth 65536 in
theorem w_case : (Jvm.Cond.and given_1 narrow_1).before args0 about1 = true := by decide +kernel
theorem w_applies : (headSpec (Jvm.Cond.code x code maxLocals ret :: tables_1) room_1).applies x e0.platform about1 = true :=
  (Spec.applies_iff w_frames).mpr ⟨w_running, w_runnable, w_alone, w_named, w_hears, w_ripe, w_room, w_tables⟩
theorem atStart : AtStart classFile x code maxLocals ret World_1 tables_1 room_1 Calls_1 rest_1 Pre_1 launch0 p0 e0 about1 theMethod args0 below0 :=
  ⟨lists_1, trivial, launch0.admits_env _ _ _, launch0.least_env, fairChoices_fair.cas, fairChoices_fair.clock, w_frames, w_args, w_heap, w_applies, trivial, trivial, w_case⟩
end start1
theorem witness_1 : WitnessClaimed_1 := ⟨start1.p0, start1.e0, start1.about1, start1.theMethod, start1.args0, start1.below0, start1.atStart⟩
end Jvm.Pilot.@@N@@
