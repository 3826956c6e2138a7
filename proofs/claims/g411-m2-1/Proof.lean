import JvmDerived
import JvmDerived.Pilot.@@N@@Statement
import JvmDerived.Pilot.@@N@@Code
set_option linter.unusedVariables false
set_option linter.unusedSimpArgs false
@@BLOCK:NumsL.lean.txt@@
namespace Jvm.RoadKit
open Sem ClassFile Op Lib Jvm.Stand Jvm.Free Jvm.LawKit
section New
variable {p : Program} {l : Launch} {e : Env} {R : Room} {s : State} {m : MethodId} {args : Array Value} {below : List Frame} {meth : Method} {c : Code} {T : State} {locs : List Loc} {cells slots : Nat}
theorem retI (X : Stand p l e R s m args below meth c T locs cells slots) (hx : p.tables.exec = Jvm.exec) {pc : Nat} {Ls : Array Slot} {z : Int32} {rest : List Value} (hret : meth.sig.returnType = some .int) (hd : decode c.code pc = .ok (.ireturn, 1)) {fs : List Frame}
    (hl : ∀ (f : JFrame) (acts : List Action), f.method = m → f.locked = none → f.entered = [] → (doReturn e (T.setTop f) acts (some (.int z))).1 = T.setFrames fs) : Steps p.tables e below (T.setTop (mkF m pc Ls (.int z :: rest))) (T.setFrames fs) :=
  retOut X hx hret rfl (Or.inl ⟨rfl, Or.inl rfl, z, rfl⟩) hd hl
theorem retJ (X : Stand p l e R s m args below meth c T locs cells slots) (hx : p.tables.exec = Jvm.exec) {pc : Nat} {Ls : Array Slot} {z : Int64} {rest : List Value} (hret : meth.sig.returnType = some .long) (hd : decode c.code pc = .ok (.lreturn, 1)) {fs : List Frame}
    (hl : ∀ (f : JFrame) (acts : List Action), f.method = m → f.locked = none → f.entered = [] → (doReturn e (T.setTop f) acts (some (.long z))).1 = T.setFrames fs) : Steps p.tables e below (T.setTop (mkF m pc Ls (.long z :: rest))) (T.setFrames fs) :=
  retOut X hx hret rfl (Or.inr (Or.inl ⟨rfl, rfl, z, rfl⟩)) hd hl
theorem retA (X : Stand p l e R s m args below meth c T locs cells slots) (hx : p.tables.exec = Jvm.exec) {pc : Nat} {Ls : Array Slot} {w : Value} {t : FieldType} {rest : List Value} (hret : meth.sig.returnType = some t) (ht : t.isReference = true) (hw : w.isRef = true) (hn : narrow t w = w) (hd : decode c.code pc = .ok (.areturn, 1)) {fs : List Frame}
    (hl : ∀ (f : JFrame) (acts : List Action), f.method = m → f.locked = none → f.entered = [] → (doReturn e (T.setTop f) acts (some w)).1 = T.setFrames fs) : Steps p.tables e below (T.setTop (mkF m pc Ls (w :: rest))) (T.setFrames fs) :=
  retOut X hx hret hn (Or.inr (Or.inr (Or.inr (Or.inr ⟨rfl, ht, hw⟩)))) hd hl
end New
end Jvm.RoadKit
namespace Jvm.Pilot.@@N@@
open Jvm Jvm.ClassFile Sem Op Lib Jvm.Free Jvm.Stand Jvm.LawKit Jvm.RoadKit Bundle Jvm.Pilot.@@N@@.Jvm.D
/-- the run from t ends by returning, as Q and the frame say -/
def OEnds (p : Program) (e : Env) (below : List Frame) (s : State) (Q : Option Value → Heap → List Loc → Prop) (C S : Nat) (t : State) : Prop :=
  ∃ s₂ o, Steps p.tables e below t s₂ ∧ s₂.status = .running ∧ Ended s₂ below o ∧ ∃ v L, o = .returned v ∧ Q v s₂.heap L ∧ FrameEnd s o s₂ L C S
theorem OEnds.go {p : Program} {e : Env} {below : List Frame} {s : State} {Q : Option Value → Heap → List Loc → Prop} {C S : Nat} {t t' : State} (h : ∀ u, Steps p.tables e below t' u → Steps p.tables e below t u) (k : OEnds p e below s Q C S t') : OEnds p e below s Q C S t := by
  obtain ⟨s₂, o, h1, h2⟩ := k
  exact ⟨s₂, o, h _ h1, h2⟩
theorem OEnds.cut {p : Program} {e : Env} {below : List Frame} {s : State} {Q : Option Value → Heap → List Loc → Prop} {C S : Nat} {t : State} (P : (State → Prop) → Prop) (k2 : P (OEnds p e below s Q C S)) (k1 : P (OEnds p e below s Q C S) → OEnds p e below s Q C S t) : OEnds p e below s Q C S t := k1 k2
theorem OEnds.back {p : Program} {l : Launch} {e : Env} {R : Room} {s : State} {m : MethodId} {args : Array Value} {below : List Frame} {meth : Method} {c : Code} {T : State} {locs : List Loc} {cells slots : Nat} (X : Stand p l e R s m args below meth c T locs cells slots) (hlk : meth.locks = false) {v : Option Value} (hv : meth.sig.returnType = none → v = none) {t : State} {Q : Option Value → Heap → List Loc → Prop} {C S : Nat}
    (st : ∀ fs, (∀ (f : JFrame) (acts : List Action), f.method = m → f.locked = none → f.entered = [] → (doReturn e (T.setTop f) acts v).1 = T.setFrames fs) → Steps p.tables e below t (T.setFrames fs)) (q : Q v T.heap locs) (hc : cells ≤ C) (hs : slots ≤ S) : OEnds p e below s Q C S t := by
  obtain ⟨fs, hr, hrun, hended, hW, hsame⟩ := X.leave hv hlk
  exact ⟨_, _, st fs hr, hrun, hended, _, _, rfl, q, ⟨_, rfl⟩, hW, hsame.mono hc hs⟩

theorem own_lt (x y : Int64) : lcmpW x y < 0 ↔ x < y := by rw [lcW, lc_lt]
theorem own_gt (x y : Int64) : 0 < lcmpW x y ↔ y < x := by rw [lcW, lc_gt]
theorem own_eq (x y : Int64) : lcmpW x y = 0 ↔ x = y := by rw [lcW, lc_eq]
/-- a term that equals a number, as the sheet says it -/
theorem own_eqi {args : Array Value} {s : State} {t : Term} {k : Int32} (h : (Jvm.Cond.eq t (Term.int k)).value args s none s [] = some true) : t.eval args s none [] s = some (.int k) := by
  obtain ⟨x, y, hx, hy, h1, h2⟩ := cmp_v (Or.inl h)
  have hy' : y = .int k := Option.some.inj (hy.symm.trans (Term.int_eval k))
  subst hy'
  obtain ⟨z, rfl⟩ : ∃ z, x = .int z := h2
  simp [Cond.value, hx, hy] at h
  rw [hx, h]
theorem own_fldi {args : Array Value} {s : State} {t : Term} {C n d : String} {a : Addr} {k : Int32} (ht : t.eval args s none [] s = some (.ref a)) (h : (Jvm.Cond.eq (Term.field t C n d) (Term.int k)).value args s none s [] = some true) : s.fieldOf? a C n d = some (.int k) := by
  rw [← fld_at ht]; exact own_eqi h
theorem own_ne {s : State} {C n d : String} {a b : Addr} {j k : Int32} (h1 : s.fieldOf? a C n d = some (.int j)) (h2 : s.fieldOf? b C n d = some (.int k)) (hk : j ≠ k) : a ≠ b := by
  intro e; subst e
  exact hk (Value.int.inj (Option.some.inj (h1.symm.trans h2)))

theorem own_mod (x m : Int32) (hm : 0 < m.toInt) : 0 ≤ ((x &&& 2147483647) % m).toInt ∧ ((x &&& 2147483647) % m).toInt < m.toInt := by
  have h : 0 ≤ (x &&& 2147483647).toInt := by
    rw [Jvm.Kit.i32_mask x 2147483647 (k := 31) (by decide) (by decide)]; omega
  rw [Jvm.Kit.i32_rem_nonneg h]
  exact ⟨Int.emod_nonneg _ (by omega), Int.emod_lt_of_pos _ hm⟩
theorem own_range {r : Int32} {n : Nat} (h0 : 0 ≤ r.toInt) (h1 : r.toInt < n) (hn : n ≤ 2 ^ 31) : ∃ k : Nat, k < n ∧ r = Int32.ofNat k := by
  refine ⟨r.toInt.toNat, by omega, ?_⟩
  rw [← Int32.toInt_inj, Int32.toInt_ofNat_small (by omega)]; omega


def own_ends (a aD aX : Addr) : Int32 := if a = aD ∨ a = aX then 1 else 0

theorem d1_0 : decode prog_22_method_4_code 0 = .ok (.aload_n 0, 1) := by decide +kernel
theorem d1_1 : decode prog_22_method_4_code 1 = .ok (.getstatic 13, 3) := by decide +kernel
theorem d1_4 : decode prog_22_method_4_code 4 = .ok (.if_acmp .eq 10, 3) := by decide +kernel
theorem d1_7 : decode prog_22_method_4_code 7 = .ok (.aload_n 0, 1) := by decide +kernel
theorem d1_8 : decode prog_22_method_4_code 8 = .ok (.getstatic 16, 3) := by decide +kernel
theorem d1_11 : decode prog_22_method_4_code 11 = .ok (.if_acmp .ne 7, 3) := by decide +kernel
theorem d1_14 : decode prog_22_method_4_code 14 = .ok (.iconst 1, 1) := by decide +kernel
theorem d1_15 : decode prog_22_method_4_code 15 = .ok (.goto 4, 3) := by decide +kernel
theorem d1_18 : decode prog_22_method_4_code 18 = .ok (.iconst 0, 1) := by decide +kernel
theorem d1_19 : decode prog_22_method_4_code 19 = .ok (.ireturn, 1) := by decide +kernel
theorem pn_1 : plainName "com/example/fullmakt/fullmakt/core/Login$Phase" = true := by first | (simp [plainName, overriddenIn]; done) | decide +kernel
theorem ef_rm1 (m : MethodId) (a1 : Addr) : entryFrame m #[(.ref a1)] 1 = mkF m 0 #[.val (.ref a1)] [] := by first | (simp [entryFrame, mkF, argsToLocals, Value.category]; done) | rfl
def Q1 (Z : State) (a1 : Addr) (aD aX : Addr) (h0 : Heap) (n0 : Nat) (v : Option Value) (h : Heap) (L : List Loc) : Prop := v = some (.int (own_ends a1 aD aX)) ∧ Fr n0 L ∧ h = h0
set_option maxRecDepth 65536 in
set_option maxHeartbeats 40000000 in
theorem rm1 (l : Launch) (Z : State) (a0 : Array Value) (hw : ∀ d ∈ tables_1, d.before a0 Z = true) (ws : List Jvm.Cond) (a1 : Addr) (aD aX : Addr) (h0 : Heap) (n0 : Nat) (Z0 : n0 ≤ h0.size) (S_DENIED : Sta Z h0 "com/example/fullmakt/fullmakt/core/Login$Phase" "DENIED" "Lcom/example/fullmakt/fullmakt/core/Login$Phase;" (.ref aD)) (S_EXPIRED : Sta Z h0 "com/example/fullmakt/fullmakt/core/Login$Phase" "EXPIRED" "Lcom/example/fullmakt/fullmakt/core/Login$Phase;" (.ref aX)) :
    MetFree l (⟨"com/example/fullmakt/fullmakt/core/Login$Phase", "endsWithoutCode", "()Z"⟩ : MethodName) (head1 (Jvm.Cond.code (⟨"com/example/fullmakt/fullmakt/core/Login$Phase", "endsWithoutCode", "()Z"⟩ : MethodName) prog_22_method_4_code 1 (some .boolean) :: ws) ({ frames := 0, cells := 0, slots := 0, locals := 0 } : Room)) (fun a U => a = #[(.ref a1)] ∧ Z.Warmed39 U.vm ∧ U.heap = h0) (fun _ _ _ _ _ => True) (fun _ U o U' => ∃ v L, o = .returned v ∧ Q1 Z a1 aD aX h0 n0 v U'.heap L ∧ FrameEnd U o U' L ({ frames := 0, cells := 0, slots := 0, locals := 0 } : Room).cells ({ frames := 0, cells := 0, slots := 0, locals := 0 } : Room).slots) := by
  refine MetFree.of_bodySF (plainFor_of_name pn_1) hisR ?_
  intro p e s m args below meth c s₁ Bd hml0 hP hK
  obtain ⟨rfl, hZ, hh⟩ := hP
  have hx := Bd.exec
  have hby := Bd.bytes
  have hml : c.maxLocals = 1 := hml0
  have hown : s.vm.findClass "com/example/fullmakt/fullmakt/core/Login$Phase" = some m.cls := findClass_of_methodNamed Bd.named
  have hnm := (name_of_methodNamed Bd.named Bd.method).1
  have hlk := BodyLoose.notSynchronized Bd
  have hrt := Bd.returns
  have X0 : Stand p l e ({ frames := 0, cells := 0, slots := 0, locals := 0 } : Room) s m #[(.ref a1)] below meth c s₁ [] 0 0 := Stand.of_body Bd
  have e0 : s₁.heap = h0 := by rw [← hh, Bd.state]; rfl
  have N0 := Fr.nil n0
  show OEnds p e below s (Q1 Z a1 aD aX h0 n0) ({ frames := 0, cells := 0, slots := 0, locals := 0 } : Room).cells ({ frames := 0, cells := 0, slots := 0, locals := 0 } : Room).slots (s₁.setTop (entryFrame m #[(.ref a1)] 1))
  refine OEnds.go (t' := s₁.setTop (mkF m 0 #[.val (.ref a1)] [])) (fun t k => castTop (ef_rm1 m a1) k) ?_
  refine OEnds.go (t' := s₁.setTop (mkF m 1 #[.val (.ref a1)] [(.ref a1)])) (fun _ k => ?_) ?_
  · show Steps p.tables e below (s₁.setTop (mkF m 0 #[.val (.ref a1)] [])) _
    refine XS.aloadN X0.here hx rfl (hb hby d1_0) rfl rfl ?_
    show Steps p.tables e below (s₁.setTop (mkF m 1 #[.val (.ref a1)] [(.ref a1)])) _
    exact k
  obtain ⟨T1, X1, e1, st1⟩ := getS2 X0 hx hZ hown (host := "") (Or.inl (hw _ (List.mem_of_getElem? (i := 9) rfl))) Via.refl e0 S_DENIED (g := (mkF m 1 #[.val (.ref a1)] [(.ref a1)])) rfl (hb hby d1_1)
  refine OEnds.go (t' := T1.setTop (mkF m 4 #[.val (.ref a1)] [(.ref aD), (.ref a1)])) (fun _ k => st1 _ k) ?_
  by_cases h4 : a1 = aD
  · refine OEnds.go (t' := T1.setTop (mkF m 14 #[.val (.ref a1)] [])) (fun _ k => Jvm.RoadKit.acmp (g := (mkF m 4 #[.val (.ref a1)] [(.ref aD), (.ref a1)])) X1 hx rfl rfl rfl (pc0 := 4) (pc' := 14) (same := true) rfl (hb hby d1_4) rfl (decide_eq_true (congrArg Value.ref h4)) (by decide) (by decide) k) ?_
    refine OEnds.go (t' := T1.setTop (mkF m 19 #[.val (.ref a1)] [(.int (1 : Int32))])) (fun _ k => ?_) ?_
    · show Steps p.tables e below (T1.setTop (mkF m 14 #[.val (.ref a1)] [])) _
      refine XS.iconst X1.here hx rfl (hb hby d1_14) ?_
      show Steps p.tables e below (T1.setTop (mkF m 15 #[.val (.ref a1)] [(.int (1 : Int32))])) _
      refine XS.goto X1.here hx rfl (pc0 := 15) (pc' := 19) rfl (hb hby d1_15) (by decide) (by decide) ?_
      show Steps p.tables e below (T1.setTop (mkF m 19 #[.val (.ref a1)] [(.int (1 : Int32))])) _
      exact k
    refine OEnds.back X1 hlk (v := (some (.int (1 : Int32)))) (fun h => by rw [hrt] at h; cases h) (fun fs hr => ?_) ?_ (by decide) (by decide)
    · exact retN X1 hx (t := .boolean) hrt (by simp) (hb hby d1_19) hr
    · show Q1 Z a1 aD aX h0 n0 _ T1.heap _
      rw [e1]
      exact ⟨by rw [own_ends, if_pos (Or.inl h4)], N0, rfl⟩
  · refine OEnds.go (t' := T1.setTop (mkF m 7 #[.val (.ref a1)] [])) (fun _ k => Jvm.RoadKit.acmp (g := (mkF m 4 #[.val (.ref a1)] [(.ref aD), (.ref a1)])) X1 hx rfl rfl rfl (pc0 := 4) (pc' := 7) (same := false) rfl (hb hby d1_4) rfl (decide_eq_false fun q => h4 (Value.ref.inj q)) (by decide) (by decide) k) ?_
    refine OEnds.go (t' := T1.setTop (mkF m 8 #[.val (.ref a1)] [(.ref a1)])) (fun _ k => ?_) ?_
    · show Steps p.tables e below (T1.setTop (mkF m 7 #[.val (.ref a1)] [])) _
      refine XS.aloadN X1.here hx rfl (hb hby d1_7) rfl rfl ?_
      show Steps p.tables e below (T1.setTop (mkF m 8 #[.val (.ref a1)] [(.ref a1)])) _
      exact k
    obtain ⟨T2, X2, e2, st2⟩ := getS2 X1 hx hZ hown (host := "") (Or.inl (hw _ (List.mem_of_getElem? (i := 11) rfl))) Via.refl e1 S_EXPIRED (g := (mkF m 8 #[.val (.ref a1)] [(.ref a1)])) rfl (hb hby d1_8)
    refine OEnds.go (t' := T2.setTop (mkF m 11 #[.val (.ref a1)] [(.ref aX), (.ref a1)])) (fun _ k => st2 _ k) ?_
    by_cases h11 : a1 = aX
    · refine OEnds.go (t' := T2.setTop (mkF m 14 #[.val (.ref a1)] [])) (fun _ k => Jvm.RoadKit.acmp (g := (mkF m 11 #[.val (.ref a1)] [(.ref aX), (.ref a1)])) X2 hx rfl rfl rfl (pc0 := 11) (pc' := 14) (same := true) rfl (hb hby d1_11) rfl (decide_eq_true (congrArg Value.ref h11)) (by decide) (by decide) k) ?_
      refine OEnds.go (t' := T2.setTop (mkF m 19 #[.val (.ref a1)] [(.int (1 : Int32))])) (fun _ k => ?_) ?_
      · show Steps p.tables e below (T2.setTop (mkF m 14 #[.val (.ref a1)] [])) _
        refine XS.iconst X2.here hx rfl (hb hby d1_14) ?_
        show Steps p.tables e below (T2.setTop (mkF m 15 #[.val (.ref a1)] [(.int (1 : Int32))])) _
        refine XS.goto X2.here hx rfl (pc0 := 15) (pc' := 19) rfl (hb hby d1_15) (by decide) (by decide) ?_
        show Steps p.tables e below (T2.setTop (mkF m 19 #[.val (.ref a1)] [(.int (1 : Int32))])) _
        exact k
      refine OEnds.back X2 hlk (v := (some (.int (1 : Int32)))) (fun h => by rw [hrt] at h; cases h) (fun fs hr => ?_) ?_ (by decide) (by decide)
      · exact retN X2 hx (t := .boolean) hrt (by simp) (hb hby d1_19) hr
      · show Q1 Z a1 aD aX h0 n0 _ T2.heap _
        rw [e2]
        exact ⟨by rw [own_ends, if_pos (Or.inr h11)], N0, rfl⟩
    · refine OEnds.go (t' := T2.setTop (mkF m 18 #[.val (.ref a1)] [])) (fun _ k => Jvm.RoadKit.acmp (g := (mkF m 11 #[.val (.ref a1)] [(.ref aX), (.ref a1)])) X2 hx rfl rfl rfl (pc0 := 11) (pc' := 18) (same := false) rfl (hb hby d1_11) rfl (decide_eq_false fun q => h11 (Value.ref.inj q)) (by decide) (by decide) k) ?_
      refine OEnds.go (t' := T2.setTop (mkF m 19 #[.val (.ref a1)] [(.int (0 : Int32))])) (fun _ k => ?_) ?_
      · show Steps p.tables e below (T2.setTop (mkF m 18 #[.val (.ref a1)] [])) _
        refine XS.iconst X2.here hx rfl (hb hby d1_18) ?_
        show Steps p.tables e below (T2.setTop (mkF m 19 #[.val (.ref a1)] [(.int (0 : Int32))])) _
        exact k
      refine OEnds.back X2 hlk (v := (some (.int (0 : Int32)))) (fun h => by rw [hrt] at h; cases h) (fun fs hr => ?_) ?_ (by decide) (by decide)
      · exact retN X2 hx (t := .boolean) hrt (by simp) (hb hby d1_19) hr
      · show Q1 Z a1 aD aX h0 n0 _ T2.heap _
        rw [e2]
        exact ⟨by rw [own_ends, if_neg (fun q => q.elim h4 h11)], N0, rfl⟩
theorem pn_0 : plainName "com/example/fullmakt/fullmakt/core/PhaseEndsWithoutCodePinLaw" = true := by first | (simp [plainName, overriddenIn]; done) | decide +kernel
theorem pd_rm0_0 : parseMethodDescriptor "()Z" = some ⟨[], some .boolean⟩ := by decide +kernel
theorem ef_rm0 (m : MethodId) (p1 : Int32) : entryFrame m #[(.int p1)] maxLocals = mkF m 0 #[.val (.int p1), .unset, .unset, .unset] [] := by first | (simp [entryFrame, mkF, argsToLocals, Value.category, maxLocals]; done) | rfl
def Q0 (Z : State) (p1 : Int32) (aW aA aC aD aX : Addr) (h0 : Heap) (n0 : Nat) (v : Option Value) (h : Heap) (L : List Loc) : Prop := v = some (.int 1) ∧ Fr n0 L
set_option maxRecDepth 65536 in
set_option maxHeartbeats 40000000 in
theorem rm0 (l : Launch) (Z : State) (a0 : Array Value) (hw : ∀ d ∈ tables_1, d.before a0 Z = true) (ws : List Jvm.Cond) (p1 : Int32) (aW aA aC aD aX : Addr) (h0 : Heap) (n0 : Nat) (Z0 : n0 ≤ h0.size) (S_WAITING : Sta Z h0 "com/example/fullmakt/fullmakt/core/Login$Phase" "WAITING" "Lcom/example/fullmakt/fullmakt/core/Login$Phase;" (.ref aW)) (S_APPROVED : Sta Z h0 "com/example/fullmakt/fullmakt/core/Login$Phase" "APPROVED" "Lcom/example/fullmakt/fullmakt/core/Login$Phase;" (.ref aA)) (S_COMPLETED : Sta Z h0 "com/example/fullmakt/fullmakt/core/Login$Phase" "COMPLETED" "Lcom/example/fullmakt/fullmakt/core/Login$Phase;" (.ref aC)) (S_DENIED : Sta Z h0 "com/example/fullmakt/fullmakt/core/Login$Phase" "DENIED" "Lcom/example/fullmakt/fullmakt/core/Login$Phase;" (.ref aD)) (S_EXPIRED : Sta Z h0 "com/example/fullmakt/fullmakt/core/Login$Phase" "EXPIRED" "Lcom/example/fullmakt/fullmakt/core/Login$Phase;" (.ref aX)) (E_WAITING : Exa Z h0 aW "com/example/fullmakt/fullmakt/core/Login$Phase") (E_APPROVED : Exa Z h0 aA "com/example/fullmakt/fullmakt/core/Login$Phase") (E_COMPLETED : Exa Z h0 aC "com/example/fullmakt/fullmakt/core/Login$Phase") (E_DENIED : Exa Z h0 aD "com/example/fullmakt/fullmakt/core/Login$Phase") (E_EXPIRED : Exa Z h0 aX "com/example/fullmakt/fullmakt/core/Login$Phase") (d1 : aW ≠ aD) (d2 : aW ≠ aX) (d3 : aA ≠ aD) (d4 : aA ≠ aX) (d5 : aC ≠ aD) (d6 : aC ≠ aX) :
    MetFree l x (head1 (Jvm.Cond.code x code maxLocals ret :: ws) room_1) (fun a U => a = #[(.int p1)] ∧ Z.Warmed39 U.vm ∧ U.heap = h0) (fun _ _ _ _ _ => True) (fun _ U o U' => ∃ v L, o = .returned v ∧ Q0 Z p1 aW aA aC aD aX h0 n0 v U'.heap L ∧ FrameEnd U o U' L room_1.cells room_1.slots) := by
  refine MetFree.of_bodySF (plainFor_of_name pn_0) hisR ?_
  intro p e s m args below meth c s₁ Bd hml0 hP hK
  obtain ⟨rfl, hZ, hh⟩ := hP
  have hx := Bd.exec
  have hby := Bd.bytes
  have hml : c.maxLocals = 4 := hml0
  have hown : s.vm.findClass "com/example/fullmakt/fullmakt/core/PhaseEndsWithoutCodePinLaw" = some m.cls := findClass_of_methodNamed Bd.named
  have hnm := (name_of_methodNamed Bd.named Bd.method).1
  have hlk := BodyLoose.notSynchronized Bd
  have hrt := Bd.returns
  have X0 : Stand p l e room_1 s m #[(.int p1)] below meth c s₁ [] 0 0 := Stand.of_body Bd
  have e0 : s₁.heap = h0 := by rw [← hh, Bd.state]; rfl
  have N0 := Fr.nil n0
  show OEnds p e below s (Q0 Z p1 aW aA aC aD aX h0 n0) room_1.cells room_1.slots (s₁.setTop (entryFrame m #[(.int p1)] maxLocals))
  refine OEnds.go (t' := s₁.setTop (mkF m 0 #[.val (.int p1), .unset, .unset, .unset] [])) (fun t k => castTop (ef_rm0 m p1) k) ?_
  refine OEnds.go (t' := s₁.setTop (mkF m 7 #[.val (.int p1), .val (.int ((p1 &&& (2147483647 : Int32)) % (5 : Int32))), .unset, .unset] [])) (fun _ k => ?_) ?_
  · show Steps p.tables e below (s₁.setTop (mkF m 0 #[.val (.int p1), .unset, .unset, .unset] [])) _
    refine XS.iloadN X0.here hx rfl (hb hby at_0) rfl ?_
    show Steps p.tables e below (s₁.setTop (mkF m 1 #[.val (.int p1), .unset, .unset, .unset] [(.int p1)])) _
    refine X0.ldcInt hx hown (mvT hZ (hw _ (List.mem_of_getElem? (i := 0) rfl))) (g := (mkF m 1 #[.val (.int p1), .unset, .unset, .unset] [(.int p1)])) rfl (hb hby at_1) _ ?_
    show Steps p.tables e below (s₁.setTop (mkF m 3 #[.val (.int p1), .unset, .unset, .unset] [(.int (2147483647 : Int32)), (.int p1)])) _
    refine XS.iand X0.here hx rfl (hb hby at_3) rfl ?_
    show Steps p.tables e below (s₁.setTop (mkF m 4 #[.val (.int p1), .unset, .unset, .unset] [(.int (p1 &&& (2147483647 : Int32)))])) _
    refine XS.iconst X0.here hx rfl (hb hby at_4) ?_
    show Steps p.tables e below (s₁.setTop (mkF m 5 #[.val (.int p1), .unset, .unset, .unset] [(.int (5 : Int32)), (.int (p1 &&& (2147483647 : Int32)))])) _
    refine iremM X0 hx rfl (hb hby at_5) rfl (by decide) ?_
    show Steps p.tables e below (s₁.setTop (mkF m 6 #[.val (.int p1), .unset, .unset, .unset] [(.int ((p1 &&& (2147483647 : Int32)) % (5 : Int32)))])) _
    refine XS.istoreN X0.here hx rfl (hb hby at_6) rfl (l' := #[.val (.int p1), .val (.int ((p1 &&& (2147483647 : Int32)) % (5 : Int32))), .unset, .unset]) rfl ?_
    show Steps p.tables e below (s₁.setTop (mkF m 7 #[.val (.int p1), .val (.int ((p1 &&& (2147483647 : Int32)) % (5 : Int32))), .unset, .unset] [])) _
    exact k
  generalize hi : ((p1 &&& (2147483647 : Int32)) % (5 : Int32)) = i
  refine OEnds.cut (fun En => ∀ (Tj : State) (Tj_l : List Loc), Stand p l e room_1 s m #[(.int p1)] below meth c Tj Tj_l 0 0 → Tj.heap = h0 → Fr n0 Tj_l → ∀ (q : Addr) (z : Int32), Exa Z h0 q "com/example/fullmakt/fullmakt/core/Login$Phase" → z = own_ends q aD aX → En (Tj.setTop (mkF m 68 #[.val (.int p1), .val (.int i), .val (.ref q), .val (.int z)] []))) ?_ (fun K68 => ?_)
  · intro Tj Tj_l XTj eTj NTj q z hE hz
    refine OEnds.go (t' := Tj.setTop (mkF m 69 #[.val (.int p1), .val (.int i), .val (.ref q), .val (.int z)] [(.ref q)])) (fun _ k => ?_) ?_
    · show Steps p.tables e below (Tj.setTop (mkF m 68 #[.val (.int p1), .val (.int i), .val (.ref q), .val (.int z)] [])) _
      refine XS.aloadN XTj.here hx rfl (hb hby at_68) rfl rfl ?_
      show Steps p.tables e below (Tj.setTop (mkF m 69 #[.val (.int p1), .val (.int i), .val (.ref q), .val (.int z)] [(.ref q)])) _
      exact k
    obtain ⟨cq1, kq1, q1a, q1b, q1c⟩ := isOf hZ eTj hE
    obtain ⟨_, _, ⟨T1, L1, k1, n1⟩, -, X1, ⟨Lc1, hQ1, l1, y1, z1⟩, st1⟩ := XTj.virtualBack hx (y := (⟨"com/example/fullmakt/fullmakt/core/Login$Phase", "endsWithoutCode", "()Z"⟩ : MethodName)) (z := (⟨"com/example/fullmakt/fullmakt/core/Login$Phase", "endsWithoutCode", "()Z"⟩ : MethodName)) hown (mvT hZ (hw _ (List.mem_of_getElem? (i := 4) rfl))) (mvT hZ (hw _ (List.mem_of_getElem? (i := 5) rfl))) (notFace_of_selects (args := #[]) (mvT hZ (hw _ (List.mem_of_getElem? (i := 7) rfl)))) (mvT hZ (hw _ (List.mem_of_getElem? (i := 7) rfl))) (mvT hZ (hw _ (List.mem_of_getElem? (i := 6) rfl))) (by decide) (backOf (W := 0) (rm1 l Z a0 hw [] q aD aX h0 n0 Z0 S_DENIED S_EXPIRED) hZ (hw _ (List.mem_of_getElem? (i := 8) rfl)) (hw _ (List.mem_of_getElem? (i := 2) rfl)) (by decide) (by decide)) q1a q1c (g := (mkF m 69 #[.val (.int p1), .val (.int i), .val (.ref q), .val (.int z)] [(.ref q)])) rfl (by rw [hml]; rfl) (Steps.refl _) (argsL := []) (rest := []) (lenOf pd_rm0_0 rfl) rfl (by show 2 * 0 + _ ≤ _; exact Nat.le_of_eq rfl) (hb hby at_69) (fun _ _ => ⟨rfl, eTj, (by decide : 0 + 0 ≤ _), (by decide : 0 + 0 ≤ _)⟩)
    dsimp only [Pt.U, Pt.locs, Pt.cells, Pt.slots] at X1 l1 y1 z1 st1 hQ1
    subst l1 y1 z1
    obtain ⟨rfl, N1q, eh⟩ := hQ1
    have N1 := Fr.app NTj N1q
    have eh1 := eh
    refine OEnds.go (t' := T1.setTop (mkF m 72 #[.val (.int p1), .val (.int i), .val (.ref q), .val (.int z)] [(.int (own_ends q aD aX))])) (fun _ k => st1.trans k) ?_
    refine OEnds.go (t' := T1.setTop (mkF m 73 #[.val (.int p1), .val (.int i), .val (.ref q), .val (.int z)] [(.int z), (.int (own_ends q aD aX))])) (fun _ k => ?_) ?_
    · show Steps p.tables e below (T1.setTop (mkF m 72 #[.val (.int p1), .val (.int i), .val (.ref q), .val (.int z)] [(.int (own_ends q aD aX))])) _
      refine XS.iloadN X1.here hx rfl (hb hby at_72) rfl ?_
      show Steps p.tables e below (T1.setTop (mkF m 73 #[.val (.int p1), .val (.int i), .val (.ref q), .val (.int z)] [(.int z), (.int (own_ends q aD aX))])) _
      exact k
    refine OEnds.go (t' := T1.setTop (mkF m 76 #[.val (.int p1), .val (.int i), .val (.ref q), .val (.int z)] [])) (fun _ k => XS.icmpNo X1.here hx rfl (hb hby at_73) rfl (teq hz.symm).2 k) ?_
    refine OEnds.go (t' := T1.setTop (mkF m 81 #[.val (.int p1), .val (.int i), .val (.ref q), .val (.int z)] [(.int (1 : Int32))])) (fun _ k => ?_) ?_
    · show Steps p.tables e below (T1.setTop (mkF m 76 #[.val (.int p1), .val (.int i), .val (.ref q), .val (.int z)] [])) _
      refine XS.iconst X1.here hx rfl (hb hby at_76) ?_
      show Steps p.tables e below (T1.setTop (mkF m 77 #[.val (.int p1), .val (.int i), .val (.ref q), .val (.int z)] [(.int (1 : Int32))])) _
      refine XS.goto X1.here hx rfl (pc0 := 77) (pc' := 81) rfl (hb hby at_77) (by decide) (by decide) ?_
      show Steps p.tables e below (T1.setTop (mkF m 81 #[.val (.int p1), .val (.int i), .val (.ref q), .val (.int z)] [(.int (1 : Int32))])) _
      exact k
    refine OEnds.back X1 hlk (v := (some (.int (1 : Int32)))) (fun h => by rw [hrt] at h; cases h) (fun fs hr => ?_) ?_ (by decide) (by decide)
    · exact retN X1 hx (t := .boolean) hrt (by simp) (hb hby at_81) hr
    · show Q0 Z p1 aW aA aC aD aX h0 n0 _ T1.heap _
      rw [eh1]
      exact ⟨rfl, N1⟩
  refine OEnds.go (t' := s₁.setTop (mkF m 8 #[.val (.int p1), .val (.int i), .unset, .unset] [(.int i)])) (fun _ k => ?_) ?_
  · show Steps p.tables e below (s₁.setTop (mkF m 7 #[.val (.int p1), .val (.int i), .unset, .unset] [])) _
    refine XS.iloadN X0.here hx rfl (hb hby at_7) rfl ?_
    show Steps p.tables e below (s₁.setTop (mkF m 8 #[.val (.int p1), .val (.int i), .unset, .unset] [(.int i)])) _
    exact k
  by_cases h8 : i = (0 : Int32)
  · refine OEnds.go (t' := s₁.setTop (mkF m 11 #[.val (.int p1), .val (.int i), .unset, .unset] [])) (fun _ k => XS.ifNo X0.here hx rfl (hb hby at_8) rfl ((if0 _ _).trans (teq h8).2) k) ?_
    obtain ⟨T2, X2, e2, st2⟩ := getS2 X0 hx hZ hown (host := "") (Or.inl (hw _ (List.mem_of_getElem? (i := 1) rfl))) Via.refl e0 S_WAITING (g := (mkF m 11 #[.val (.int p1), .val (.int i), .unset, .unset] [])) rfl (hb hby at_11)
    refine OEnds.go (t' := T2.setTop (mkF m 14 #[.val (.int p1), .val (.int i), .unset, .unset] [(.ref aW)])) (fun _ k => st2 _ k) ?_
    refine OEnds.go (t' := T2.setTop (mkF m 68 #[.val (.int p1), .val (.int i), .val (.ref aW), .val (.int (0 : Int32))] [])) (fun _ k => ?_) ?_
    · show Steps p.tables e below (T2.setTop (mkF m 14 #[.val (.int p1), .val (.int i), .unset, .unset] [(.ref aW)])) _
      refine XS.astoreN X2.here hx rfl (hb hby at_14) rfl rfl (l' := #[.val (.int p1), .val (.int i), .val (.ref aW), .unset]) rfl ?_
      show Steps p.tables e below (T2.setTop (mkF m 15 #[.val (.int p1), .val (.int i), .val (.ref aW), .unset] [])) _
      refine XS.iconst X2.here hx rfl (hb hby at_15) ?_
      show Steps p.tables e below (T2.setTop (mkF m 16 #[.val (.int p1), .val (.int i), .val (.ref aW), .unset] [(.int (0 : Int32))])) _
      refine XS.istoreN X2.here hx rfl (hb hby at_16) rfl (l' := #[.val (.int p1), .val (.int i), .val (.ref aW), .val (.int (0 : Int32))]) rfl ?_
      show Steps p.tables e below (T2.setTop (mkF m 17 #[.val (.int p1), .val (.int i), .val (.ref aW), .val (.int (0 : Int32))] [])) _
      refine XS.goto X2.here hx rfl (pc0 := 17) (pc' := 68) rfl (hb hby at_17) (by decide) (by decide) ?_
      show Steps p.tables e below (T2.setTop (mkF m 68 #[.val (.int p1), .val (.int i), .val (.ref aW), .val (.int (0 : Int32))] [])) _
      exact k
    exact K68 _ _ X2 e2 N0 _ _ E_WAITING (by rw [own_ends, if_neg (fun q => q.elim d1 d2)])
  · refine OEnds.go (t' := s₁.setTop (mkF m 20 #[.val (.int p1), .val (.int i), .unset, .unset] [])) (fun _ k => XS.ifYes X0.here hx rfl (pc0 := 8) (pc' := 20) rfl (hb hby at_8) rfl ((if0 _ _).trans (feq h8).2) (by decide) (by decide) k) ?_
    refine OEnds.go (t' := s₁.setTop (mkF m 22 #[.val (.int p1), .val (.int i), .unset, .unset] [(.int (1 : Int32)), (.int i)])) (fun _ k => ?_) ?_
    · show Steps p.tables e below (s₁.setTop (mkF m 20 #[.val (.int p1), .val (.int i), .unset, .unset] [])) _
      refine XS.iloadN X0.here hx rfl (hb hby at_20) rfl ?_
      show Steps p.tables e below (s₁.setTop (mkF m 21 #[.val (.int p1), .val (.int i), .unset, .unset] [(.int i)])) _
      refine XS.iconst X0.here hx rfl (hb hby at_21) ?_
      show Steps p.tables e below (s₁.setTop (mkF m 22 #[.val (.int p1), .val (.int i), .unset, .unset] [(.int (1 : Int32)), (.int i)])) _
      exact k
    by_cases h22 : i = (1 : Int32)
    · refine OEnds.go (t' := s₁.setTop (mkF m 25 #[.val (.int p1), .val (.int i), .unset, .unset] [])) (fun _ k => XS.icmpNo X0.here hx rfl (hb hby at_22) rfl (teq h22).2 k) ?_
      obtain ⟨T3, X3, e3, st3⟩ := getS2 X0 hx hZ hown (host := "") (Or.inl (hw _ (List.mem_of_getElem? (i := 14) rfl))) Via.refl e0 S_APPROVED (g := (mkF m 25 #[.val (.int p1), .val (.int i), .unset, .unset] [])) rfl (hb hby at_25)
      refine OEnds.go (t' := T3.setTop (mkF m 28 #[.val (.int p1), .val (.int i), .unset, .unset] [(.ref aA)])) (fun _ k => st3 _ k) ?_
      refine OEnds.go (t' := T3.setTop (mkF m 68 #[.val (.int p1), .val (.int i), .val (.ref aA), .val (.int (0 : Int32))] [])) (fun _ k => ?_) ?_
      · show Steps p.tables e below (T3.setTop (mkF m 28 #[.val (.int p1), .val (.int i), .unset, .unset] [(.ref aA)])) _
        refine XS.astoreN X3.here hx rfl (hb hby at_28) rfl rfl (l' := #[.val (.int p1), .val (.int i), .val (.ref aA), .unset]) rfl ?_
        show Steps p.tables e below (T3.setTop (mkF m 29 #[.val (.int p1), .val (.int i), .val (.ref aA), .unset] [])) _
        refine XS.iconst X3.here hx rfl (hb hby at_29) ?_
        show Steps p.tables e below (T3.setTop (mkF m 30 #[.val (.int p1), .val (.int i), .val (.ref aA), .unset] [(.int (0 : Int32))])) _
        refine XS.istoreN X3.here hx rfl (hb hby at_30) rfl (l' := #[.val (.int p1), .val (.int i), .val (.ref aA), .val (.int (0 : Int32))]) rfl ?_
        show Steps p.tables e below (T3.setTop (mkF m 31 #[.val (.int p1), .val (.int i), .val (.ref aA), .val (.int (0 : Int32))] [])) _
        refine XS.goto X3.here hx rfl (pc0 := 31) (pc' := 68) rfl (hb hby at_31) (by decide) (by decide) ?_
        show Steps p.tables e below (T3.setTop (mkF m 68 #[.val (.int p1), .val (.int i), .val (.ref aA), .val (.int (0 : Int32))] [])) _
        exact k
      exact K68 _ _ X3 e3 N0 _ _ E_APPROVED (by rw [own_ends, if_neg (fun q => q.elim d3 d4)])
    · refine OEnds.go (t' := s₁.setTop (mkF m 34 #[.val (.int p1), .val (.int i), .unset, .unset] [])) (fun _ k => XS.icmpYes X0.here hx rfl (pc0 := 22) (pc' := 34) rfl (hb hby at_22) rfl (feq h22).2 (by decide) (by decide) k) ?_
      refine OEnds.go (t' := s₁.setTop (mkF m 36 #[.val (.int p1), .val (.int i), .unset, .unset] [(.int (2 : Int32)), (.int i)])) (fun _ k => ?_) ?_
      · show Steps p.tables e below (s₁.setTop (mkF m 34 #[.val (.int p1), .val (.int i), .unset, .unset] [])) _
        refine XS.iloadN X0.here hx rfl (hb hby at_34) rfl ?_
        show Steps p.tables e below (s₁.setTop (mkF m 35 #[.val (.int p1), .val (.int i), .unset, .unset] [(.int i)])) _
        refine XS.iconst X0.here hx rfl (hb hby at_35) ?_
        show Steps p.tables e below (s₁.setTop (mkF m 36 #[.val (.int p1), .val (.int i), .unset, .unset] [(.int (2 : Int32)), (.int i)])) _
        exact k
      by_cases h36 : i = (2 : Int32)
      · refine OEnds.go (t' := s₁.setTop (mkF m 39 #[.val (.int p1), .val (.int i), .unset, .unset] [])) (fun _ k => XS.icmpNo X0.here hx rfl (hb hby at_36) rfl (teq h36).2 k) ?_
        obtain ⟨T4, X4, e4, st4⟩ := getS2 X0 hx hZ hown (host := "") (Or.inl (hw _ (List.mem_of_getElem? (i := 17) rfl))) Via.refl e0 S_COMPLETED (g := (mkF m 39 #[.val (.int p1), .val (.int i), .unset, .unset] [])) rfl (hb hby at_39)
        refine OEnds.go (t' := T4.setTop (mkF m 42 #[.val (.int p1), .val (.int i), .unset, .unset] [(.ref aC)])) (fun _ k => st4 _ k) ?_
        refine OEnds.go (t' := T4.setTop (mkF m 68 #[.val (.int p1), .val (.int i), .val (.ref aC), .val (.int (0 : Int32))] [])) (fun _ k => ?_) ?_
        · show Steps p.tables e below (T4.setTop (mkF m 42 #[.val (.int p1), .val (.int i), .unset, .unset] [(.ref aC)])) _
          refine XS.astoreN X4.here hx rfl (hb hby at_42) rfl rfl (l' := #[.val (.int p1), .val (.int i), .val (.ref aC), .unset]) rfl ?_
          show Steps p.tables e below (T4.setTop (mkF m 43 #[.val (.int p1), .val (.int i), .val (.ref aC), .unset] [])) _
          refine XS.iconst X4.here hx rfl (hb hby at_43) ?_
          show Steps p.tables e below (T4.setTop (mkF m 44 #[.val (.int p1), .val (.int i), .val (.ref aC), .unset] [(.int (0 : Int32))])) _
          refine XS.istoreN X4.here hx rfl (hb hby at_44) rfl (l' := #[.val (.int p1), .val (.int i), .val (.ref aC), .val (.int (0 : Int32))]) rfl ?_
          show Steps p.tables e below (T4.setTop (mkF m 45 #[.val (.int p1), .val (.int i), .val (.ref aC), .val (.int (0 : Int32))] [])) _
          refine XS.goto X4.here hx rfl (pc0 := 45) (pc' := 68) rfl (hb hby at_45) (by decide) (by decide) ?_
          show Steps p.tables e below (T4.setTop (mkF m 68 #[.val (.int p1), .val (.int i), .val (.ref aC), .val (.int (0 : Int32))] [])) _
          exact k
        exact K68 _ _ X4 e4 N0 _ _ E_COMPLETED (by rw [own_ends, if_neg (fun q => q.elim d5 d6)])
      · refine OEnds.go (t' := s₁.setTop (mkF m 48 #[.val (.int p1), .val (.int i), .unset, .unset] [])) (fun _ k => XS.icmpYes X0.here hx rfl (pc0 := 36) (pc' := 48) rfl (hb hby at_36) rfl (feq h36).2 (by decide) (by decide) k) ?_
        refine OEnds.go (t' := s₁.setTop (mkF m 50 #[.val (.int p1), .val (.int i), .unset, .unset] [(.int (3 : Int32)), (.int i)])) (fun _ k => ?_) ?_
        · show Steps p.tables e below (s₁.setTop (mkF m 48 #[.val (.int p1), .val (.int i), .unset, .unset] [])) _
          refine XS.iloadN X0.here hx rfl (hb hby at_48) rfl ?_
          show Steps p.tables e below (s₁.setTop (mkF m 49 #[.val (.int p1), .val (.int i), .unset, .unset] [(.int i)])) _
          refine XS.iconst X0.here hx rfl (hb hby at_49) ?_
          show Steps p.tables e below (s₁.setTop (mkF m 50 #[.val (.int p1), .val (.int i), .unset, .unset] [(.int (3 : Int32)), (.int i)])) _
          exact k
        by_cases h50 : i = (3 : Int32)
        · refine OEnds.go (t' := s₁.setTop (mkF m 53 #[.val (.int p1), .val (.int i), .unset, .unset] [])) (fun _ k => XS.icmpNo X0.here hx rfl (hb hby at_50) rfl (teq h50).2 k) ?_
          obtain ⟨T5, X5, e5, st5⟩ := getS2 X0 hx hZ hown (host := "") (Or.inl (hw _ (List.mem_of_getElem? (i := 13) rfl))) Via.refl e0 S_DENIED (g := (mkF m 53 #[.val (.int p1), .val (.int i), .unset, .unset] [])) rfl (hb hby at_53)
          refine OEnds.go (t' := T5.setTop (mkF m 56 #[.val (.int p1), .val (.int i), .unset, .unset] [(.ref aD)])) (fun _ k => st5 _ k) ?_
          refine OEnds.go (t' := T5.setTop (mkF m 68 #[.val (.int p1), .val (.int i), .val (.ref aD), .val (.int (1 : Int32))] [])) (fun _ k => ?_) ?_
          · show Steps p.tables e below (T5.setTop (mkF m 56 #[.val (.int p1), .val (.int i), .unset, .unset] [(.ref aD)])) _
            refine XS.astoreN X5.here hx rfl (hb hby at_56) rfl rfl (l' := #[.val (.int p1), .val (.int i), .val (.ref aD), .unset]) rfl ?_
            show Steps p.tables e below (T5.setTop (mkF m 57 #[.val (.int p1), .val (.int i), .val (.ref aD), .unset] [])) _
            refine XS.iconst X5.here hx rfl (hb hby at_57) ?_
            show Steps p.tables e below (T5.setTop (mkF m 58 #[.val (.int p1), .val (.int i), .val (.ref aD), .unset] [(.int (1 : Int32))])) _
            refine XS.istoreN X5.here hx rfl (hb hby at_58) rfl (l' := #[.val (.int p1), .val (.int i), .val (.ref aD), .val (.int (1 : Int32))]) rfl ?_
            show Steps p.tables e below (T5.setTop (mkF m 59 #[.val (.int p1), .val (.int i), .val (.ref aD), .val (.int (1 : Int32))] [])) _
            refine XS.goto X5.here hx rfl (pc0 := 59) (pc' := 68) rfl (hb hby at_59) (by decide) (by decide) ?_
            show Steps p.tables e below (T5.setTop (mkF m 68 #[.val (.int p1), .val (.int i), .val (.ref aD), .val (.int (1 : Int32))] [])) _
            exact k
          exact K68 _ _ X5 e5 N0 _ _ E_DENIED (by rw [own_ends, if_pos (Or.inl rfl)])
        · refine OEnds.go (t' := s₁.setTop (mkF m 62 #[.val (.int p1), .val (.int i), .unset, .unset] [])) (fun _ k => XS.icmpYes X0.here hx rfl (pc0 := 50) (pc' := 62) rfl (hb hby at_50) rfl (feq h50).2 (by decide) (by decide) k) ?_
          obtain ⟨T6, X6, e6, st6⟩ := getS2 X0 hx hZ hown (host := "") (Or.inl (hw _ (List.mem_of_getElem? (i := 16) rfl))) Via.refl e0 S_EXPIRED (g := (mkF m 62 #[.val (.int p1), .val (.int i), .unset, .unset] [])) rfl (hb hby at_62)
          refine OEnds.go (t' := T6.setTop (mkF m 65 #[.val (.int p1), .val (.int i), .unset, .unset] [(.ref aX)])) (fun _ k => st6 _ k) ?_
          refine OEnds.go (t' := T6.setTop (mkF m 68 #[.val (.int p1), .val (.int i), .val (.ref aX), .val (.int (1 : Int32))] [])) (fun _ k => ?_) ?_
          · show Steps p.tables e below (T6.setTop (mkF m 65 #[.val (.int p1), .val (.int i), .unset, .unset] [(.ref aX)])) _
            refine XS.astoreN X6.here hx rfl (hb hby at_65) rfl rfl (l' := #[.val (.int p1), .val (.int i), .val (.ref aX), .unset]) rfl ?_
            show Steps p.tables e below (T6.setTop (mkF m 66 #[.val (.int p1), .val (.int i), .val (.ref aX), .unset] [])) _
            refine XS.iconst X6.here hx rfl (hb hby at_66) ?_
            show Steps p.tables e below (T6.setTop (mkF m 67 #[.val (.int p1), .val (.int i), .val (.ref aX), .unset] [(.int (1 : Int32))])) _
            refine XS.istoreN X6.here hx rfl (hb hby at_67) rfl (l' := #[.val (.int p1), .val (.int i), .val (.ref aX), .val (.int (1 : Int32))]) rfl ?_
            show Steps p.tables e below (T6.setTop (mkF m 68 #[.val (.int p1), .val (.int i), .val (.ref aX), .val (.int (1 : Int32))] [])) _
            exact k
          exact K68 _ _ X6 e6 N0 _ _ E_EXPIRED (by rw [own_ends, if_pos (Or.inr rfl)])
set_option maxRecDepth 65536 in
set_option maxHeartbeats 40000000 in
theorem comes_1 {Post : Tables → Env → Array Value → State → Outcome → State → Prop} (hpost : ∀ tb e args s v u, (limb_1_1.after args s (.returned v) u = true ∧ limb_1_2.after args s (.returned v) u = true ∧ True) → FrameEnd s (.returned v) u (Jvm.fieldLocs frame_1_writes args s ++ Jvm.arrayLocs frame_1_arrays args s ++ Jvm.staticLocs frame_1_statics s) 0 0 → Post tb e args s (.returned v) u) :
    ArmFor flags0 classFile x code maxLocals ret World_1 tables_1 room_1 Calls_1 rest_1 Pre_1 Post := by
  intro l hfl _ _ p e ha hc hk s m args below hf hA hF happ hP
  obtain ⟨hcalls, hrest, hpre⟩ := hP
  obtain ⟨-, -, -, hnamed, -, -, -, hat⟩ := (Spec.applies_iff hf).mp happ
  obtain ⟨hg, hn⟩ := and_e (Cond.before_iff.mp (show (Jvm.Cond.and given_1 narrow_1).before args s = true from hpre))
  obtain ⟨gc, g0⟩ := and_e hg
  obtain ⟨w0, rfl⟩ : ∃ w0 : Value, args = #[w0] := by
    have hs : args.size = 1 := by simpa [Cond.value, given_1] using gc
    obtain ⟨L⟩ := args
    match L, hs with
    | [w0], _ => exact ⟨w0, rfl⟩
  have hw := fun d (hd : d ∈ tables_1) => atoms_spec (ws := Jvm.Cond.code x code maxLocals ret :: tables_1) hat d (List.mem_cons_of_mem _ hd)
  have hfit : Fit s := fun {y c} hc i hi => by
    obtain ⟨ha, rfl⟩ := Array.getElem?_eq_some_iff.mp hc
    have q := List.all_eq_true.mp ((Array.all_eq_true_iff_forall_mem.mp hF) _ (Array.getElem_mem ha)) i (List.mem_range.mpr hi)
    simpa [Array.getElem?_eq_getElem hi] using q
  obtain ⟨i0, ei0⟩ := is_v g0
  obtain rfl : w0 = (.int i0) := Option.some.inj ei0
  obtain ⟨n0, hn0⟩ := and_e hn
  obtain ⟨n1, hn1⟩ := and_e hn0
  obtain ⟨n2, hn2⟩ := and_e hn1
  obtain ⟨n3, hn3⟩ := and_e hn2
  obtain ⟨n4, hn4⟩ := and_e hn3
  obtain ⟨n5, hn5⟩ := and_e hn4
  obtain ⟨n6, hn6⟩ := and_e hn5
  obtain ⟨n7, hn7⟩ := and_e hn6
  obtain ⟨n8, hn8⟩ := and_e hn7
  have n9 := hn8
  obtain ⟨a_WAITING, v_WAITING⟩ := exa_v n0
  have E_WAITING := Exa.start v_WAITING n0
  have S_WAITING := Sta.start v_WAITING (Or.inr ⟨(hw _ (List.mem_of_getElem? (i := 2) rfl)), (hw _ (List.mem_of_getElem? (i := 3) rfl))⟩)
  obtain ⟨a_DENIED, v_DENIED⟩ := exa_v n1
  have E_DENIED := Exa.start v_DENIED n1
  have S_DENIED := Sta.start v_DENIED (Or.inr ⟨(hw _ (List.mem_of_getElem? (i := 2) rfl)), (hw _ (List.mem_of_getElem? (i := 10) rfl))⟩)
  obtain ⟨a_EXPIRED, v_EXPIRED⟩ := exa_v n4
  have E_EXPIRED := Exa.start v_EXPIRED n4
  have S_EXPIRED := Sta.start v_EXPIRED (Or.inr ⟨(hw _ (List.mem_of_getElem? (i := 2) rfl)), (hw _ (List.mem_of_getElem? (i := 12) rfl))⟩)
  obtain ⟨a_APPROVED, v_APPROVED⟩ := exa_v n6
  have E_APPROVED := Exa.start v_APPROVED n6
  have S_APPROVED := Sta.start v_APPROVED (Or.inr ⟨(hw _ (List.mem_of_getElem? (i := 2) rfl)), (hw _ (List.mem_of_getElem? (i := 15) rfl))⟩)
  obtain ⟨a_COMPLETED, v_COMPLETED⟩ := exa_v n8
  have E_COMPLETED := Exa.start v_COMPLETED n8
  have S_COMPLETED := Sta.start v_COMPLETED (Or.inr ⟨(hw _ (List.mem_of_getElem? (i := 2) rfl)), (hw _ (List.mem_of_getElem? (i := 18) rfl))⟩)
  have o_WAITING_ordinal := own_fldi v_WAITING n2
  have o_DENIED_ordinal := own_fldi v_DENIED n3
  have o_EXPIRED_ordinal := own_fldi v_EXPIRED n5
  have o_APPROVED_ordinal := own_fldi v_APPROVED n7
  have o_COMPLETED_ordinal := own_fldi v_COMPLETED n9
  obtain ⟨n, o, h1, h2, h3, _, L, rfl, ⟨rfl, N⟩, hq⟩ := rm0 l s _ hw tables_1 i0 a_WAITING a_APPROVED a_COMPLETED a_DENIED a_EXPIRED s.heap s.heap.size (Nat.le_refl _) S_WAITING S_APPROVED S_COMPLETED S_DENIED S_EXPIRED E_WAITING E_APPROVED E_COMPLETED E_DENIED E_EXPIRED (own_ne o_WAITING_ordinal o_DENIED_ordinal (by decide)) (own_ne o_WAITING_ordinal o_EXPIRED_ordinal (by decide)) (own_ne o_APPROVED_ordinal o_DENIED_ordinal (by decide)) (own_ne o_APPROVED_ordinal o_EXPIRED_ordinal (by decide)) (own_ne o_COMPLETED_ordinal o_DENIED_ordinal (by decide)) (own_ne o_COMPLETED_ordinal o_EXPIRED_ordinal (by decide)) p e ha hc hk s m _ below hf ((Spec.applies_iff_loose hf).mp happ).1 ⟨rfl, State.Warmed39.refl s, rfl⟩ trivial
  refine ⟨n, _, h1, h2, h3, hpost _ _ _ _ _ _ ⟨Cond.after_iff.mpr rfl, Cond.after_iff.mpr (eq_i res_at (Term.int_eval (1)) rfl), trivial⟩ ⟨hq.1, hq.2.1, (hq.2.2.sift fun y hy => Or.inr (N y hy)).mono (by decide) (by decide)⟩⟩
theorem main_1_1 : Claimed_1_1 := comes_1 fun _ _ _ _ _ _ h hF => ⟨h.1, hF⟩
theorem main_1_2 : Claimed_1_2 := comes_1 fun _ _ _ _ _ _ h hF => ⟨h.2.1, hF⟩
end Jvm.Pilot.@@N@@
namespace Jvm.Pilot.@@N@@
open Jvm Jvm.ClassFile Sem Op Lib Jvm.Free Jvm.Stand Jvm.Pilot.@@N@@.Jvm.D
/-! MADE BY PROGRAM (witnessworld.py) out of the Statement's table words and the real class files: 12 classes; the members and pool entries that the words name. The judged class is class 1, her method 1. -/
namespace start1
open Jvm.ClassFile
def u (s : String) : CpInfo := .utf8 (stringToUtf16 s)
/-- a pool by its gaps: so many unusable entries, then the entry; so many at the end -/
def gap : Nat → List CpInfo → List CpInfo
  | 0, r => r
  | n + 1, r => .unusable :: gap n r
def poolList (es : List (Nat × CpInfo)) (last : Nat) : List CpInfo := es.foldr (fun e r => gap e.1 (e.2 :: r)) (gap last [])
def pool (es : List (Nat × CpInfo)) (last : Nat) : Array CpInfo := ⟨poolList es last⟩
def fileOf (pool : Array CpInfo) (this : Nat) (attrs : Array Attribute := #[]) (ms : Array MethodInfo := #[]) (fl : Nat := 33) (sup : Nat := 0) (ifs : Array Nat := #[]) (fds : Array FieldInfo := #[]) : ClassFile where
  minorVersion := 0
  majorVersion := 65
  constantPool := pool
  accessFlags := fl
  thisClass := this
  superClass := sup
  interfaces := ifs
  fields := fds
  methods := ms
  attributes := attrs
def plain (name : String) (sup : Option ClassId) : Class where
  name := name
  kind := .ordinary
  loader := none
  accessFlags := 33
  super := sup
  interfaces := #[]
  cf := none
  fields := #[]
  methods := #[]
  instanceTypes := #[]
  staticTypes := #[]
  resolved := #[]
  callSites := []
  init := .initialized
  statics := none
  mirror := none

def pool0 : Array CpInfo := pool [(5, u "<init>"), (0, u "()V"), (1, .class_ 10), (1, u "java/lang/Object")] 113

def k0m0 : Method := { name := "<init>", desc := "()V", sig := { parameters := [], returnType := none }, accessFlags := 1, code := none }
/-- java/lang/Object -/
def k0 : Class := { plain "java/lang/Object" none with
  accessFlags := 33
  interfaces := #[]
  cf := some (fileOf pool0 8 #[] #[{ accessFlags := 1, nameIndex := 5, descriptorIndex := 6, attributes := #[] }] 33 0 #[] #[])
  fields := #[]
  methods := #[k0m0]
  instanceTypes := #[]
  staticTypes := #[]
  resolved := Array.replicate 124 none
  statics := none }

def pool1 : Array CpInfo := pool [(2, .class_ 4), (1, u "java/lang/Object"), (0, u "<init>"), (0, u "()V"), (0, .integer 2147483647), (0, .fieldref 9 10), (0, .class_ 11), (0, .nameAndType 12 13), (0, u "com/example/fullmakt/fullmakt/core/Login$Phase"), (0, u "WAITING"), (0, u "Lcom/example/fullmakt/fullmakt/core/Login$Phase;"), (0, .fieldref 9 15), (0, .nameAndType 16 13), (0, u "APPROVED"), (0, .fieldref 9 18), (0, .nameAndType 19 13), (0, u "COMPLETED"), (0, .fieldref 9 21), (0, .nameAndType 22 13), (0, u "DENIED"), (0, .fieldref 9 24), (0, .nameAndType 25 13), (0, u "EXPIRED"), (0, .methodref 9 27), (0, .nameAndType 28 29), (0, u "endsWithoutCode"), (0, u "()Z"), (0, .class_ 31), (0, u "com/example/fullmakt/fullmakt/core/PhaseEndsWithoutCodePinLaw"), (2, u "law"), (0, u "(I)Z")] 7

def k1m0 : Method := { name := "<init>", desc := "()V", sig := { parameters := [], returnType := none }, accessFlags := 2, code := none }
def k1c1 : Code := { maxStack := 2, maxLocals := 4, code := code, exceptionTable := #[], attributes := #[] }
def k1m1 : Method := { name := "law", desc := "(I)Z", sig := { parameters := [.int], returnType := some .boolean }, accessFlags := 9, code := some k1c1 }
/-- com/example/fullmakt/fullmakt/core/PhaseEndsWithoutCodePinLaw -/
def k1 : Class := { plain "com/example/fullmakt/fullmakt/core/PhaseEndsWithoutCodePinLaw" (some 0) with
  accessFlags := 49
  interfaces := #[]
  cf := some (fileOf pool1 30 #[] #[{ accessFlags := 2, nameIndex := 5, descriptorIndex := 6, attributes := #[] }, { accessFlags := 9, nameIndex := 34, descriptorIndex := 35, attributes := #[] }] 49 2 #[] #[])
  fields := #[]
  methods := #[k1m0, k1m1]
  instanceTypes := #[]
  staticTypes := #[]
  resolved := Array.replicate 43 none
  statics := none }

def pool2 : Array CpInfo := pool [(1, .class_ 2), (0, u "java/lang/constant/Constable"), (0, .class_ 4), (0, u "java/lang/Object")] 6

/-- java/lang/constant/Constable -/
def k2 : Class := { plain "java/lang/constant/Constable" (some 0) with
  accessFlags := 1537
  interfaces := #[]
  cf := some (fileOf pool2 1 #[] #[] 1537 3 #[] #[])
  fields := #[]
  methods := #[]
  instanceTypes := #[]
  staticTypes := #[]
  resolved := Array.replicate 11 none
  statics := none }

def pool3 : Array CpInfo := pool [(1, .class_ 2), (0, u "java/lang/Comparable"), (0, .class_ 4), (0, u "java/lang/Object")] 7

/-- java/lang/Comparable -/
def k3 : Class := { plain "java/lang/Comparable" (some 0) with
  accessFlags := 1537
  interfaces := #[]
  cf := some (fileOf pool3 1 #[] #[] 1537 3 #[] #[])
  fields := #[]
  methods := #[]
  instanceTypes := #[]
  staticTypes := #[]
  resolved := Array.replicate 12 none
  statics := none }

def pool4 : Array CpInfo := pool [(1, .class_ 2), (0, u "java/io/Serializable"), (0, .class_ 4), (0, u "java/lang/Object")] 2

/-- java/io/Serializable -/
def k4 : Class := { plain "java/io/Serializable" (some 0) with
  accessFlags := 1537
  interfaces := #[]
  cf := some (fileOf pool4 1 #[] #[] 1537 3 #[] #[])
  fields := #[]
  methods := #[]
  instanceTypes := #[]
  staticTypes := #[]
  resolved := Array.replicate 7 none
  statics := none }

def pool5 : Array CpInfo := pool [(2, .class_ 4), (1, u "java/lang/Enum"), (0, u "name"), (0, u "Ljava/lang/String;"), (2, u "ordinal"), (0, u "I"), (1, .class_ 14), (1, u "java/lang/Object"), (4, u "hash"), (86, .class_ 108), (1, u "java/lang/Enum$EnumDesc"), (2, .class_ 112), (0, u "java/lang/constant/Constable"), (0, .class_ 114), (0, u "java/lang/Comparable"), (0, .class_ 116), (0, u "java/io/Serializable")] 87

/-- java/lang/Enum -/
def k5 : Class := { plain "java/lang/Enum" (some 0) with
  accessFlags := 1057
  interfaces := #[2, 3, 4]
  cf := some (fileOf pool5 2 #[.nestMembers #[106]] #[] 1057 12 #[111, 113, 115] #[{ accessFlags := 18, nameIndex := 5, descriptorIndex := 6, attributes := #[] }, { accessFlags := 18, nameIndex := 9, descriptorIndex := 10, attributes := #[] }, { accessFlags := 2, nameIndex := 19, descriptorIndex := 10, attributes := #[] }])
  fields := #[{ name := "name", type := (.object "java/lang/String"), accessFlags := 18, slot := 0, constantValue := 0 }, { name := "ordinal", type := .int, accessFlags := 18, slot := 1, constantValue := 0 }, { name := "hash", type := .int, accessFlags := 2, slot := 2, constantValue := 0 }]
  methods := #[]
  instanceTypes := #[(.object "java/lang/String"), .int, .int]
  staticTypes := #[]
  resolved := Array.replicate 204 none
  statics := none }

def pool6 : Array CpInfo := pool [(1, .class_ 2), (0, u "com/example/fullmakt/fullmakt/core/Login$Phase"), (2, u "WAITING"), (0, u "Lcom/example/fullmakt/fullmakt/core/Login$Phase;"), (2, u "APPROVED"), (2, u "COMPLETED"), (0, .fieldref 1 14), (0, .nameAndType 15 6), (0, u "DENIED"), (0, .fieldref 1 17), (0, .nameAndType 18 6), (0, u "EXPIRED"), (2, u "$VALUES"), (0, u "[Lcom/example/fullmakt/fullmakt/core/Login$Phase;"), (6, .class_ 31), (1, u "java/lang/Enum"), (23, u "endsWithoutCode"), (0, u "()Z"), (6, .class_ 64), (0, u "com/example/fullmakt/fullmakt/core/Login")] 2

def k6c0 : Code := { maxStack := 2, maxLocals := 1, code := prog_22_method_4_code, exceptionTable := #[], attributes := #[] }
def k6m0 : Method := { name := "endsWithoutCode", desc := "()Z", sig := { parameters := [], returnType := some .boolean }, accessFlags := 1, code := some k6c0 }
/-- com/example/fullmakt/fullmakt/core/Login$Phase -/
def k6 : Class := { plain "com/example/fullmakt/fullmakt/core/Login$Phase" (some 5) with
  accessFlags := 16433
  interfaces := #[]
  cf := some (fileOf pool6 1 #[.nestHost 63] #[{ accessFlags := 1, nameIndex := 55, descriptorIndex := 56, attributes := #[] }] 16433 29 #[] #[{ accessFlags := 16409, nameIndex := 5, descriptorIndex := 6, attributes := #[] }, { accessFlags := 16409, nameIndex := 9, descriptorIndex := 6, attributes := #[] }, { accessFlags := 16409, nameIndex := 12, descriptorIndex := 6, attributes := #[] }, { accessFlags := 16409, nameIndex := 15, descriptorIndex := 6, attributes := #[] }, { accessFlags := 16409, nameIndex := 18, descriptorIndex := 6, attributes := #[] }, { accessFlags := 4122, nameIndex := 21, descriptorIndex := 22, attributes := #[] }])
  fields := #[{ name := "WAITING", type := (.object "com/example/fullmakt/fullmakt/core/Login$Phase"), accessFlags := 16409, slot := 0, constantValue := 0 }, { name := "APPROVED", type := (.object "com/example/fullmakt/fullmakt/core/Login$Phase"), accessFlags := 16409, slot := 1, constantValue := 0 }, { name := "COMPLETED", type := (.object "com/example/fullmakt/fullmakt/core/Login$Phase"), accessFlags := 16409, slot := 2, constantValue := 0 }, { name := "DENIED", type := (.object "com/example/fullmakt/fullmakt/core/Login$Phase"), accessFlags := 16409, slot := 3, constantValue := 0 }, { name := "EXPIRED", type := (.object "com/example/fullmakt/fullmakt/core/Login$Phase"), accessFlags := 16409, slot := 4, constantValue := 0 }, { name := "$VALUES", type := (.array (.object "com/example/fullmakt/fullmakt/core/Login$Phase")), accessFlags := 4122, slot := 5, constantValue := 0 }]
  methods := #[k6m0]
  instanceTypes := #[(.object "java/lang/String"), .int, .int]
  staticTypes := #[(.object "com/example/fullmakt/fullmakt/core/Login$Phase"), (.object "com/example/fullmakt/fullmakt/core/Login$Phase"), (.object "com/example/fullmakt/fullmakt/core/Login$Phase"), (.object "com/example/fullmakt/fullmakt/core/Login$Phase"), (.object "com/example/fullmakt/fullmakt/core/Login$Phase"), (.array (.object "com/example/fullmakt/fullmakt/core/Login$Phase"))]
  resolved := Array.replicate 67 none
  statics := some 0 }

def pool7 : Array CpInfo := pool [(1, u "java/lang/Cloneable"), (0, .class_ 1), (0, u "java/lang/Object"), (0, .class_ 3)] 3

/-- java/lang/Cloneable -/
def k7 : Class := { plain "java/lang/Cloneable" (some 0) with
  accessFlags := 1537
  interfaces := #[]
  cf := some (fileOf pool7 2 #[] #[] 1537 4 #[] #[])
  fields := #[]
  methods := #[]
  instanceTypes := #[]
  staticTypes := #[]
  resolved := Array.replicate 8 none
  statics := none }

/-- the primitive byte -/
def k8 : Class := { plain "byte" none with kind := .primitive 'B', accessFlags := 0x411 }
/-- [B -/
def k9 : Class := { plain "[B" (some 0) with kind := .array 8 .byte, interfaces := #[7, 4], accessFlags := 1041 }

/-- the primitive int -/
def k10 : Class := { plain "int" none with kind := .primitive 'I', accessFlags := 0x411 }
/-- [I -/
def k11 : Class := { plain "[I" (some 0) with kind := .array 10 .int, interfaces := #[7, 4], accessFlags := 1041 }

def heap : Heap := #[{ cls := 6, slots := #[.ref 1, .ref 2, .ref 3, .ref 4, .ref 5, .null], vm := .statics 6 },
  { cls := 6, slots := #[.null, .int 0, .int 0], vm := .none },
  { cls := 6, slots := #[.null, .int 1, .int 0], vm := .none },
  { cls := 6, slots := #[.null, .int 2, .int 0], vm := .none },
  { cls := 6, slots := #[.null, .int 3, .int 0], vm := .none },
  { cls := 6, slots := #[.null, .int 4, .int 0], vm := .none }]
def classes : Array Class := #[k0, k1, k2, k3, k4, k5, k6, k7, k8, k9, k10, k11]
def interned : List (Array UInt16 × Addr) := []
def slotsUsed : Nat := 21
def theMethod : MethodId := ⟨1, 1⟩
def args0 : Array Value := #[.int 3]
def aboutOver (below : List Frame) : State where
  vm := { classes := classes, interned := interned.toArray }
  heap := heap
  slotsUsed := slotsUsed
  threads := #[{ frames := .invoking theMethod args0 :: below }]
def below0 : List Frame := [.native { method := ⟨0, 0⟩, args := #[] }]
def about1 : State := aboutOver below0
def p0 : Program := .bare "" "" ""
def e0 : Env := launch0.env 0 0 0
theorem w_frames : about1.frames = Frame.invoking theMethod args0 :: below0 := rfl
set_option maxRecDepth 65536 in
theorem w_args : argsFit about1.vm theMethod args0 = true := by decide +kernel
set_option maxRecDepth 65536 in
theorem w_heap : heapFits about1 = true := by decide +kernel
set_option maxRecDepth 65536 in
theorem w_runnable : about1.curStatus? = some .runnable := by decide +kernel
set_option maxRecDepth 65536 in
theorem w_alone : about1.alone = true := by decide +kernel
set_option maxRecDepth 65536 in
theorem w_named : about1.methodNamed? x = some theMethod := by decide +kernel
set_option maxRecDepth 65536 in
theorem w_hears : about1.hears theMethod below0 = true := by decide +kernel
set_option maxRecDepth 65536 in
theorem w_ripe : about1.ripe theMethod args0 below0 = true := by decide +kernel
theorem w_running : about1.status = .running := rfl
set_option maxRecDepth 65536 in
theorem w_room : about1.hasRoom e0.platform room_1 = true :=
  launch0.hasRoom_least _ room_1 (by decide +kernel) (by decide +kernel) (by decide +kernel) (by decide +kernel) (by decide +kernel) (by decide +kernel)
theorem allAtoms_all (ts : List Jvm.Cond) (a : Array Jvm.Value) (st : Jvm.State) : (allAtoms ts).before a st = ts.all (fun c => c.before a st) := by
  induction ts with
  | nil => rfl
  | cons c t ih =>
    show (Jvm.Cond.and c (allAtoms t)).before a st = _
    rw [Jvm.Cond.before_and, ih, List.all_cons]
def words1 : List Jvm.Cond := Jvm.Cond.code x code maxLocals ret :: tables_1
/-- a 'code' word, met by the world's own term for the bytes: nothing is compared byte by byte -/
theorem code_word {y : MethodName} {bytes : ByteArray} {mx : Nat} {rt : Option FieldType} {a : Array Value} {s : State} {m : MethodId} {meth : Method} {c : Code} (h1 : s.methodNamed? y = some m) (h2 : s.vm.method? m = some meth) (h3 : meth.code = some c) (h4 : c.code = bytes)
    (h5 : (c.maxLocals == mx && c.exceptionTable.isEmpty && decide (c.maxStack ≤ mostOperands) && decide (meth.sig.returnType = rt) && !meth.locks && decide (parseMethodDescriptor y.desc = some meth.sig)) = true) : (Jvm.Cond.code y bytes mx rt).before a s = true := by
  simp only [Bool.and_eq_true, beq_iff_eq, Bool.not_eq_true', decide_eq_true_eq] at h5
  obtain ⟨⟨⟨⟨⟨g1, g2⟩, g3⟩, g4⟩, g5⟩, g6⟩ := h5
  simp [Cond.before, Cond.holds, Cond.value, h1, h2, h3, h4, g1, g2, g3, g4, g5, g6]
def isCode : Jvm.Cond → Bool
  | .code _ _ _ _ => true
  | _ => false
theorem all_split {L : List Jvm.Cond} {P : Jvm.Cond → Bool} (h1 : L.all (fun c => isCode c || P c) = true) (h2 : ∀ c ∈ L.filter isCode, P c = true) : L.all P = true := by
  refine List.all_eq_true.mpr fun c hc => ?_
  have h := List.all_eq_true.mp h1 c hc
  rcases Bool.eq_false_or_eq_true (isCode c) with hi | hi
  · exact h2 c (List.mem_filter.mpr ⟨hc, hi⟩)
  · simpa [hi] using h
set_option maxRecDepth 65536 in
theorem w_c0 : (Jvm.Cond.code x code maxLocals ret).before args0 about1 = true := code_word (m := ⟨1, 1⟩) (meth := k1m1) (c := k1c1) (by decide +kernel) rfl rfl rfl (by decide +kernel)
set_option maxRecDepth 65536 in
theorem w_c1 : (Jvm.Cond.code ({ cls := "com/example/fullmakt/fullmakt/core/Login$Phase", name := "endsWithoutCode", desc := "()Z" } : Jvm.MethodName) prog_22_method_4_code (1 : Nat) (Option.some Jvm.ClassFile.FieldType.boolean)).before args0 about1 = true := code_word (m := ⟨6, 0⟩) (meth := k6m0) (c := k6c0) (by decide +kernel) rfl rfl rfl (by decide +kernel)
def codes1 : List Jvm.Cond := [Jvm.Cond.code x code maxLocals ret, Jvm.Cond.code ({ cls := "com/example/fullmakt/fullmakt/core/Login$Phase", name := "endsWithoutCode", desc := "()Z" } : Jvm.MethodName) prog_22_method_4_code (1 : Nat) (Option.some Jvm.ClassFile.FieldType.boolean)]
set_option maxRecDepth 65536 in
theorem codes_eq : words1.filter isCode = codes1 := rfl
theorem w_codes : ∀ c ∈ words1.filter isCode, c.before args0 about1 = true := by
  rw [codes_eq]
  intro c hc
  simp only [codes1, List.mem_cons, List.not_mem_nil, or_false] at hc
  rcases hc with rfl | rfl
  · exact w_c0
  · exact w_c1
set_option maxRecDepth 65536 in
theorem w_t1 : words1.all (fun c => isCode c || c.before args0 about1) = true := by decide +kernel
theorem w_tables : (allAtoms (Jvm.Cond.code x code maxLocals ret :: tables_1)).before args0 about1 = true := by
  rw [allAtoms_all]
  show words1.all (fun c => c.before args0 about1) = true
  refine all_split ?_ w_codes
  rw [w_t1]
set_option maxRecDepth 65536 in
theorem w_case : (Jvm.Cond.and given_1 narrow_1).before args0 about1 = true := by decide +kernel
theorem w_applies : (headSpec (Jvm.Cond.code x code maxLocals ret :: tables_1) room_1).applies x e0.platform about1 = true :=
  (Spec.applies_iff w_frames).mpr ⟨w_running, w_runnable, w_alone, w_named, w_hears, w_ripe, w_room, w_tables⟩
theorem atStart : AtStart classFile x code maxLocals ret World_1 tables_1 room_1 Calls_1 rest_1 Pre_1 launch0 p0 e0 about1 theMethod args0 below0 :=
  ⟨lists_1, trivial, launch0.admits_env _ _ _, launch0.least_env, fairChoices_fair.cas, fairChoices_fair.clock, w_frames, w_args, w_heap, w_applies, trivial, trivial, w_case⟩
end start1
theorem witness_1 : WitnessClaimed_1 := ⟨start1.p0, start1.e0, start1.about1, start1.theMethod, start1.args0, start1.below0, start1.atStart⟩
end Jvm.Pilot.@@N@@
